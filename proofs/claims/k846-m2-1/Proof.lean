import JvmDerived
import JvmDerived.Pilot.@@N@@Statement
import JvmDerived.Pilot.@@N@@Code
set_option linter.unusedVariables false
set_option linter.unusedSimpArgs false
namespace Jvm.Pilot.@@N@@
open Jvm Jvm.ClassFile Sem Op Lib Jvm.Free Jvm.Stand Jvm.LawKit Jvm.RoadKit Bundle Jvm.Pilot.@@N@@.Jvm.D
theorem own_tallN {tb : Tables} {e : Env} {N : Nat} : ∀ (n : Nat) (S : State), N ≤ S.heap.size → N ≤ (stepsAlone tb e n S).heap.size
  | 0, S, h => h
  | n + 1, S, h => by
    unfold stepsAlone
    split
    · exact own_tallN n _ (stepThread_tall tb h)
    · exact h
theorem own_tall {tb : Tables} {e : Env} {below : List Frame} {S t : State} {N : Nat} (st : Steps tb e below S t) (h : N ≤ S.heap.size) : N ≤ t.heap.size := by
  obtain ⟨n, rfl, -⟩ := st
  exact own_tallN n S h
/-- the texts interned between -/
def own_IB (v0 v1 : Vm) (tx : List String) : Prop := ∃ more : Array (Array UInt16 × Addr), v1.interned = v0.interned ++ more ∧ ∀ q ∈ more, ∃ t ∈ tx, utf16ToString? q.1 = some t
theorem own_IB.same {v0 v1 : Vm} {tx : List String} (h : v1.interned = v0.interned) : own_IB v0 v1 tx := ⟨#[], by simpa using h, fun q hq => by simp at hq⟩
theorem own_IB.trans {v0 v1 v2 : Vm} {tx ty : List String} (h : own_IB v0 v1 ty) (hs : ∀ x ∈ ty, x ∈ tx) (k : own_IB v1 v2 tx) : own_IB v0 v2 tx := by
  obtain ⟨a, e1, q1⟩ := h
  obtain ⟨b, e2, q2⟩ := k
  refine ⟨a ++ b, by rw [e2, e1, Array.append_assoc], fun q hq => ?_⟩
  rcases Array.mem_append.mp hq with h | h
  · obtain ⟨x, hx, e⟩ := q1 q h; exact ⟨x, hs x hx, e⟩
  · exact q2 q h
theorem own_IB.of {Z : State} {v0 v1 : Vm} {tx Ts : List String} (I : IB Z v0 Ts) (h : own_IB v0 v1 tx) : IB Z v1 (tx ++ Ts) := by
  obtain ⟨a, e1, q1⟩ := I
  obtain ⟨b, e2, q2⟩ := h
  refine ⟨a ++ b, by rw [e2, e1, Array.append_assoc], fun q hq => ?_⟩
  rcases Array.mem_append.mp hq with h | h
  · obtain ⟨x, hx, e⟩ := q1 q h; exact ⟨x, List.mem_append.mpr (Or.inr hx), e⟩
  · obtain ⟨x, hx, e⟩ := q2 q h; exact ⟨x, List.mem_append.mpr (Or.inl hx), e⟩
abbrev own_Post : Type := (Option Value → Heap → List Loc → Vm → Prop) × List String
section Own
variable {p : Program} {l : Launch} {e : Env} {R : Room} {s : State} {m : MethodId} {args : Array Value} {below : List Frame} {meth : Method} {c : Code} {T : State} {locs : List Loc} {cells slots : Nat} {Z : State} {a0 : Array Value} {h : Heap} {Q : own_Post} {kc kn : Nat}
/-- from S the method comes to its end, and what it leaves answers to Q -/
def own_Ends (p : Program) (e : Env) (below : List Frame) (s : State) (Q : own_Post) (kc kn : Nat) (S : State) : Prop :=
  ∃ s₂ o, Steps p.tables e below S s₂ ∧ s₂.status = .running ∧ Ended s₂ below o ∧ ∃ v L, o = .returned v ∧ Q.1 v s₂.heap L s₂.vm ∧ ReturnedEndW s o s₂ L kc kn ∧ own_IB s.vm s₂.vm Q.2
theorem own_pre {S S' : State} (st : ∀ t, Steps p.tables e below S' t → Steps p.tables e below S t) (k : own_Ends p e below s Q kc kn S') : own_Ends p e below s Q kc kn S := by
  obtain ⟨s₂, o, h1, r⟩ := k
  exact ⟨s₂, o, st _ h1, r⟩
theorem own_reb {S : State} {vm1 : Vm} {n1 : Nat} {ty : List String} (hS : s.Since vm1 n1) (hn : n1 ≤ S.heap.size) (hI : own_IB s.vm vm1 ty) (hsub : ∀ x ∈ ty, x ∈ Q.2) (k : own_Ends p e below (s.setVm vm1) Q kc kn S) : own_Ends p e below s Q kc kn S := by
  obtain ⟨s₂, o, h1, h2, h3, v, L, h4, h5, ⟨h6, h7, h8, h9⟩, h10⟩ := k
  have q : n1 ≤ s₂.heap.size := own_tall h1 hn
  have S2 := hS.trans (n₂ := s₂.heap.size) ⟨h7, h8⟩ q
  exact ⟨s₂, o, h1, h2, h3, v, L, h4, h5, ⟨h6, S2.1, S2.2, h9.setVm s.vm⟩, hI.trans hsub h10⟩
theorem own_fin {T : State} {o : Outcome} {L : List Loc} {k1 n1 k2 n2 : Nat} (hr : ∃ v : Option Value, o = Outcome.returned v) (hW : s.WarmedH T.vm) (hs : s.sameButNew { T with vm := s.vm } L k1 n1) (h1 : k1 ≤ k2) (h2 : n1 ≤ n2) {tx : List String} : ReturnedEndW s o T L k2 n2 ∧ own_IB s.vm T.vm tx :=
  ⟨ReturnedEndW.of_narrow hr hW (hs.mono h1 h2), own_IB.same ((hW.since 0).same_table (Nat.zero_le _))⟩
theorem own_ret (X : Stand p l e R s m args below meth c T locs cells slots) (hx : p.tables.exec = Jvm.exec) (hlk : meth.locks = false) {pc : Nat} {Ls : Array Slot} {w : Value} {t : FieldType} {i : Instr} {rest : List Value} (hret : meth.sig.returnType = some t) (hn : narrow t w = w)
    (hi : (i = .ireturn ∧ (t = .int ∨ t = .boolean ∨ t = .byte ∨ t = .char ∨ t = .short) ∧ ∃ z, w = .int z) ∨ (i = .lreturn ∧ t = .long ∧ ∃ z, w = .long z) ∨ (i = .dreturn ∧ t = .double ∧ ∃ z, w = .double z) ∨ (i = .freturn ∧ t = .float ∧ ∃ z, w = .float z) ∨ (i = .areturn ∧ t.isReference = true ∧ w.isRef = true))
    (hd : decode c.code pc = .ok (i, 1)) (h1 : cells ≤ kc) (h2 : slots ≤ kn) (hQ : Q.1 (some w) T.heap locs T.vm) : own_Ends p e below s Q kc kn (T.setTop (mkF m pc Ls (w :: rest))) := by
  obtain ⟨fs, hr, hrun, hended, hW, hsame⟩ := X.leave (v := some w) (fun h => by rw [hret] at h; cases h) hlk
  exact ⟨_, _, retOut X hx hret hn hi hd hr, hrun, hended, _, _, rfl, hQ, own_fin ⟨_, rfl⟩ hW hsame h1 h2⟩
theorem own_retV (X : Stand p l e R s m args below meth c T locs cells slots) (hx : p.tables.exec = Jvm.exec) (hlk : meth.locks = false) {pc : Nat} {Ls : Array Slot} (hret : meth.sig.returnType = none)
    (hd : decode c.code pc = .ok (.return_, 1)) (h1 : cells ≤ kc) (h2 : slots ≤ kn) (hQ : Q.1 none T.heap locs T.vm) : own_Ends p e below s Q kc kn (T.setTop (mkF m pc Ls [])) := by
  obtain ⟨fs, hr, hrun, hended, hW, hsame⟩ := X.leave (v := none) (fun _ => rfl) hlk
  exact ⟨_, _, X.returnOut hx hret hd hr, hrun, hended, _, _, rfl, hQ, own_fin ⟨_, rfl⟩ hW hsame h1 h2⟩
/-- a contract: called with these arguments over this heap, the tables as PV says, it returns, and Q says what it left -/
abbrev own_MetW (l : Launch) (Z : State) (y : MethodName) (bytes : ByteArray) (maxL : Nat) (ret : Option FieldType) (ws : List Jvm.Cond) (rm : Room) (as' : Array Value) (h0 : Heap) (PV : Vm → Prop) (Q : own_Post) : Prop :=
  MetFree l y (head1 (Jvm.Cond.code y bytes maxL ret :: ws) rm) (fun a U => a = as' ∧ Z.Warmed39 U.vm ∧ U.heap = h0 ∧ PV U.vm) (fun _ _ _ _ _ => True) (fun _ U o U' => ∃ v L, o = .returned v ∧ Q.1 v U'.heap L U'.vm ∧ ReturnedEndW U o U' L rm.cells rm.slots ∧ own_IB U.vm U'.vm Q.2)
abbrev own_Met (l : Launch) (Z : State) (y : MethodName) (bytes : ByteArray) (maxL : Nat) (ret : Option FieldType) (ws : List Jvm.Cond) (rm : Room) (as' : Array Value) (h0 : Heap) (Q : Option Value → Heap → List Loc → Prop) : Prop :=
  own_MetW l Z y bytes maxL ret ws rm as' h0 (fun _ => True) (fun v h L _ => Q v h L, [])
theorem own_bodyW {y : MethodName} {bytes : ByteArray} {maxL : Nat} {ret : Option FieldType} {ws : List Jvm.Cond} {rm : Room} {as' : Array Value} {h0 : Heap} {PV : Vm → Prop} (pn : plainFor y = true) (F : MethodId → JFrame) (hF : ∀ m, entryFrame m as' maxL = F m)
    (body : ∀ (p : Program) (e : Env) (s : State) (m : MethodId) (below : List Frame) (meth : Method) (c : Code) (T : State), p.tables.exec = Jvm.exec → c.code = bytes → c.maxLocals = maxL → meth.locks = false → meth.sig.returnType = ret → Z.Warmed39 s.vm → s.vm.findClass y.cls = some m.cls → meth.name = y.name →
      Stand p l e rm s m as' below meth c T [] 0 0 → T.heap = h0 → PV s.vm → s.heap = h0 → own_Ends p e below s Q rm.cells rm.slots (T.setTop (F m))) : own_MetW l Z y bytes maxL ret ws rm as' h0 PV Q := by
  refine MetFree.of_bodySF pn hisR ?_
  intro p e s m args below meth c s₁ Bd hml0 hP hK
  obtain ⟨rfl, hZ, hh, hv⟩ := hP
  have := body p e s m below meth c s₁ Bd.exec Bd.bytes hml0 (BodyLoose.notSynchronized Bd) Bd.returns hZ (findClass_of_methodNamed Bd.named) (name_of_methodNamed Bd.named Bd.method).1 (Stand.of_body Bd) (by rw [← hh, Bd.state]; rfl) hv hh
  rw [← hF m] at this
  exact this
theorem own_body {y : MethodName} {bytes : ByteArray} {maxL : Nat} {ret : Option FieldType} {ws : List Jvm.Cond} {rm : Room} {as' : Array Value} {h0 : Heap} {Q : Option Value → Heap → List Loc → Prop} (pn : plainFor y = true) (F : MethodId → JFrame) (hF : ∀ m, entryFrame m as' maxL = F m)
    (body : ∀ (p : Program) (e : Env) (s : State) (m : MethodId) (below : List Frame) (meth : Method) (c : Code) (T : State), p.tables.exec = Jvm.exec → c.code = bytes → c.maxLocals = maxL → meth.locks = false → meth.sig.returnType = ret → Z.Warmed39 s.vm → s.vm.findClass y.cls = some m.cls → meth.name = y.name →
      Stand p l e rm s m as' below meth c T [] 0 0 → T.heap = h0 → own_Ends p e below s (fun v h L _ => Q v h L, []) rm.cells rm.slots (T.setTop (F m))) : own_Met l Z y bytes maxL ret ws rm as' h0 Q :=
  own_bodyW pn F hF fun p e s m below meth c T a1 a2 a3 a4 a5 a6 a7 a8 a9 a10 _ _ => body p e s m below meth c T a1 a2 a3 a4 a5 a6 a7 a8 a9 a10
theorem own_backW {y : MethodName} {bytes : ByteArray} {maxL : Nat} {ret : Option FieldType} {rm : Room} {len W : Nat} {as' : Array Value} {PV : Vm → Prop} {Qc : own_Post} (hM : own_MetW l Z y bytes maxL ret [] rm as' h PV Qc)
    (hZ : Z.Warmed39 s.vm) (wc : (Cond.code y bytes maxL ret).before a0 Z = true) (wz : (Cond.initialized y.cls).before a0 Z = true) (hf : rm.frames + 1 ≤ R.frames) (hl : W + (maxL + 11) + rm.locals ≤ R.locals) (hv : ∀ vm, s.WarmedH vm → PV vm) :
    BackS l R p e below s args y len W (fun A a => a = as' ∧ A.U.heap = h ∧ A.cells + rm.cells ≤ R.cells ∧ A.slots + rm.slots ≤ R.slots)
      (fun A _ v B => ∃ L, Qc.1 v B.U.heap L B.U.vm ∧ own_IB A.U.vm B.U.vm Qc.2 ∧ B.locs = A.locs ++ L ∧ B.cells = A.cells + rm.cells ∧ B.slots = A.slots + rm.slots) :=
  BackS.of_freeW (bytes := bytes) (maxL := maxL) (ret := ret) (E := fun _ U o t L k n => k = rm.cells ∧ n = rm.slots ∧ own_IB U.vm t.vm Qc.2 ∧ ∃ v, o = .returned v ∧ Qc.1 v t.heap L t.vm) hM hf hl
    (fun m meth c A a Y hp => have hU : Z.Warmed39 A.U.vm := wtrans hZ Y.warmed
      ⟨by show (Cond.and _ .tt).before a A.U = true; rw [Cond.before_and, mv hU wc]; rfl, mv hU wc, mv hU wz, hp.2.2.1, hp.2.2.2⟩)
    (fun m meth c A a g mk Y hp => ⟨hp.1, wtrans hZ Y.warmed, hp.2.1, hv _ Y.warmed⟩) (fun _ _ _ _ _ _ _ _ _ => trivial)
    (fun _ _ _ _ ⟨v, L, h1, h2, h3, h4⟩ => ⟨L, _, _, h3, rfl, rfl, h4, v, h1, h2⟩)
    (fun m meth c A a g mk v t L k n Y hp _ _ ⟨e1, e2, e0, v', e3, e4⟩ => by cases e3; subst e1 e2; exact ⟨L, e4, e0, rfl, rfl, rfl⟩)
/-- what a call leaves: the base is told anew -/
def own_K (p : Program) (l : Launch) (e : Env) (R : Room) (s : State) (m : MethodId) (args : Array Value) (below : List Frame) (meth : Method) (c : Code) (own : String) (Z : State) (locs : List Loc) (Q : own_Post) (kc kn ck sk : Nat) (Qc : own_Post) (F : Option Value → JFrame) : Prop :=
  ∀ (v : Option Value) (T' : State) (L : List Loc) (s' : State), Stand p l e R s' m args below meth c T' (locs ++ L) ck sk → Z.Warmed39 s'.vm → s'.vm.findClass own = some m.cls → own_IB s.vm s'.vm Qc.2 → s'.vm = T'.vm → s'.heap = s.heap → s.Warmed39 s'.vm → Qc.1 v T'.heap L T'.vm → own_Ends p e below s' Q kc kn (T'.setTop (F v))
theorem own_come {own : String} {T' : State} {ck sk : Nat} {Qc : own_Post} {F : Option Value → JFrame} {L : List Loc} {v : Option Value} {vm1 : Vm} {S : State} (k : own_K p l e R s m args below meth c own Z locs Q kc kn ck sk Qc F) (hZ : Z.Warmed39 s.vm) (hown : s.vm.findClass own = some m.cls)
    (hW : s.WarmedH vm1) (X' : Stand p l e R (s.setVm T'.vm) m args below meth c T' (locs ++ L) ck sk) (hS : s.Since T'.vm T'.heap.size) (hI : own_IB vm1 T'.vm Qc.2) (hsub : ∀ x ∈ Qc.2, x ∈ Q.2) (hQ : Qc.1 v T'.heap L T'.vm) (st : ∀ t, Steps p.tables e below (T'.setTop (F v)) t → Steps p.tables e below S t) : own_Ends p e below s Q kc kn S := by
  have hI' : own_IB s.vm T'.vm Qc.2 := (own_IB.same (tx := []) ((hW.since 0).same_table (Nat.zero_le _))).trans (fun _ h => by cases h) hI
  refine own_pre st (own_reb hS (Nat.le_refl _) hI' hsub ?_)
  exact k v T' L (s.setVm T'.vm) X' (State.Warmed39.trans hZ hS.1) ((hS.1.alike.findClass _ _).trans hown) hI' rfl rfl hS.1 hQ
theorem own_callS (X : Stand p l e R s m args below meth c T locs cells slots) (hx : p.tables.exec = Jvm.exec) (hZ : Z.Warmed39 s.vm) {own : String} {index : Nat} {y : MethodName} {bytes : ByteArray} {maxL : Nat} {ret : Option FieldType} {rm : Room} {Qc : own_Post} {PV : Vm → Prop}
    (hown : s.vm.findClass own = some m.cls) (w1 : (Cond.methodLink own index y).before a0 Z = true) (w2 : (Cond.static y).before a0 Z = true) (w3 : (Cond.initialized y.cls).before a0 Z = true) (w4 : (Cond.code y bytes maxL ret).before a0 Z = true)
    (hy : y.cls ≠ "java/lang/invoke/MethodHandle" ∧ y.cls ≠ "java/lang/invoke/VarHandle") (eT : T.heap = h) {argsL rest st0 : List Value} (hM : own_MetW l Z y bytes maxL ret [] rm argsL.toArray h PV Qc) {W pc : Nat} {Ls : Array Slot}
    (hsz : Ls.size = c.maxLocals) (hlen : ∀ sig, parseMethodDescriptor y.desc = some sig → argsL.length = sig.parameters.length) (hst : st0 = argsL.reverse ++ rest) (hW : (rest.map fun v => v.category).sum ≤ W) (hd : decode c.code pc = .ok (.invokestatic index, 3))
    (hf : rm.frames + 1 ≤ R.frames) (hl : W + (maxL + 11) + rm.locals ≤ R.locals) (hc : cells + rm.cells ≤ R.cells) (hs : slots + rm.slots ≤ R.slots)
    (k : own_K p l e R s m args below meth c own Z locs Q kc kn (cells + rm.cells) (slots + rm.slots) Qc (fun v => mkF m (pc + 3) Ls (v.toList ++ rest)))
    (hv : ∀ vm, s.WarmedH vm → PV vm := by exact fun _ _ => trivial) (hsub : ∀ x ∈ Qc.2, x ∈ Q.2 := by simp) :
    own_Ends p e below s Q kc kn (T.setTop (mkF m pc Ls st0)) := by
  obtain ⟨v, vm1, ⟨T', L', k', n'⟩, hW1, X', hS, hgr, ⟨Lc, hQ, hI, l1, y1, z1⟩, st⟩ := callSS X hx (y := y) hown (mvT hZ w1) (mvT hZ w2) (mvT hZ w3) (mvT hZ w4) hy (own_backW (W := W) hM hZ w4 w3 hf hl hv) (g := mkF m pc Ls st0) rfl hsz (argsL := argsL) (rest := rest) hlen hst (by show 2 * 0 + _ ≤ _; simpa using hW) hd (fun _ _ => ⟨rfl, eT, hc, hs⟩)
  dsimp only [Pt.U, Pt.locs, Pt.cells, Pt.slots] at X' l1 y1 z1 st hQ hI hS
  subst l1 y1 z1
  exact own_come k hZ hown hW1 X' hS hI hsub hQ (fun t kk => st.trans kk)
theorem own_callI (X : Stand p l e R s m args below meth c T locs cells slots) (hx : p.tables.exec = Jvm.exec) (hZ : Z.Warmed39 s.vm) {own : String} {index : Nat} {y : MethodName} {bytes : ByteArray} {maxL : Nat} {rm : Room} {Qc : own_Post} {PV : Vm → Prop} {b : Addr}
    (hown : s.vm.findClass own = some m.cls) (hy1 : y.name = "<init>") (w1 : (Cond.methodLink own index y).before a0 Z = true) (w2 : (Cond.instanceMethod y).before a0 Z = true) (w4 : (Cond.code y bytes maxL none).before a0 Z = true) (w3 : (Cond.initialized y.cls).before a0 Z = true)
    (hy : y.cls ≠ "java/lang/invoke/MethodHandle" ∧ y.cls ≠ "java/lang/invoke/VarHandle") (eT : T.heap = h) {argsL rest st0 : List Value} (hM : own_MetW l Z y bytes maxL none [] rm (.ref b :: argsL).toArray h PV Qc) {W pc : Nat} {Ls : Array Slot}
    (hsz : Ls.size = c.maxLocals) (hlen : ∀ sig, parseMethodDescriptor y.desc = some sig → argsL.length = sig.parameters.length) (hst : st0 = argsL.reverse ++ .ref b :: rest) (hW : (rest.map fun v => v.category).sum ≤ W) (hd : decode c.code pc = .ok (.invokespecial index, 3))
    (hf : rm.frames + 1 ≤ R.frames) (hl : W + (maxL + 11) + rm.locals ≤ R.locals) (hc : cells + rm.cells ≤ R.cells) (hs : slots + rm.slots ≤ R.slots)
    (k : own_K p l e R s m args below meth c own Z locs Q kc kn (cells + rm.cells) (slots + rm.slots) Qc (fun v => mkF m (pc + 3) Ls (v.toList ++ rest)))
    (hv : ∀ vm, s.WarmedH vm → PV vm := by exact fun _ _ => trivial) (hsub : ∀ x ∈ Qc.2, x ∈ Q.2 := by simp) :
    own_Ends p e below s Q kc kn (T.setTop (mkF m pc Ls st0)) := by
  obtain ⟨v, vm1, ⟨T', L', k', n'⟩, hW1, X', hS, hgr, ⟨Lc, hQ, hI, l1, y1, z1⟩, st⟩ := X.specialBackS hx (y := y) hy1 hown (mvT hZ w1) (mvT hZ w2) (mvT hZ w4) hy (own_backW (W := W) hM hZ w4 w3 hf hl hv) (g := mkF m pc Ls st0) rfl hsz (Steps.refl _) (a := b) (argsL := argsL) (rest := rest) hlen hst (by show 2 * 0 + _ ≤ _; simpa using hW) hd (fun _ _ => ⟨rfl, eT, hc, hs⟩)
  dsimp only [Pt.U, Pt.locs, Pt.cells, Pt.slots] at X' l1 y1 z1 st hQ hI hS
  subst l1 y1 z1
  exact own_come k hZ hown hW1 X' hS hI hsub hQ (fun t kk => st.trans kk)
theorem own_callV (X : Stand p l e R s m args below meth c T locs cells slots) (hx : p.tables.exec = Jvm.exec) (hZ : Z.Warmed39 s.vm) {own C : String} {index : Nat} {y : MethodName} {bytes : ByteArray} {maxL : Nat} {ret : Option FieldType} {rm : Room} {Qc : own_Post} {PV : Vm → Prop} {b : Addr}
    (hown : s.vm.findClass own = some m.cls) (w1 : (Cond.methodLink own index y).before a0 Z = true) (w2 : (Cond.declares y).before a0 Z = true) (w3 : (Cond.selects C y y).before a0 Z = true) (w4 : (Cond.instanceMethod y).before a0 Z = true) (w5 : (Cond.code y bytes maxL ret).before a0 Z = true) (w6 : (Cond.initialized y.cls).before a0 Z = true)
    (hy : y.cls ≠ "java/lang/invoke/MethodHandle" ∧ y.cls ≠ "java/lang/invoke/VarHandle") (eT : T.heap = h) (E : Exa Z h b C) {argsL rest st0 : List Value} (hM : own_MetW l Z y bytes maxL ret [] rm (.ref b :: argsL).toArray h PV Qc) {W pc : Nat} {Ls : Array Slot}
    (hsz : Ls.size = c.maxLocals) (hlen : ∀ sig, parseMethodDescriptor y.desc = some sig → argsL.length = sig.parameters.length) (hst : st0 = argsL.reverse ++ .ref b :: rest) (hW : (rest.map fun v => v.category).sum ≤ W) (hd : decode c.code pc = .ok (.invokevirtual index, 3))
    (hf : rm.frames + 1 ≤ R.frames) (hl : W + (maxL + 11) + rm.locals ≤ R.locals) (hc : cells + rm.cells ≤ R.cells) (hs : slots + rm.slots ≤ R.slots)
    (k : own_K p l e R s m args below meth c own Z locs Q kc kn (cells + rm.cells) (slots + rm.slots) Qc (fun v => mkF m (pc + 3) Ls (v.toList ++ rest)))
    (hv : ∀ vm, s.WarmedH vm → PV vm := by exact fun _ _ => trivial) (hsub : ∀ x ∈ Qc.2, x ∈ Q.2 := by simp) :
    own_Ends p e below s Q kc kn (T.setTop (mkF m pc Ls st0)) := by
  obtain ⟨cq, kq, qa, qb, qc⟩ := isOf hZ eT E
  obtain ⟨v, vm1, ⟨T', L', k', n'⟩, hW1, X', hS, hgr, ⟨Lc, hQ, hI, l1, y1, z1⟩, st⟩ := X.virtualBackS hx (y := y) (z := y) hown (mvT hZ w1) (mvT hZ w2) (notFace_of_selects (args := #[]) (mvT hZ w3)) (mvT hZ w3) (mvT hZ w4) hy (own_backW (W := W) hM hZ w5 w6 hf hl hv) qa qc (g := mkF m pc Ls st0) rfl hsz (Steps.refl _) (argsL := argsL) (rest := rest) hlen hst (by show 2 * 0 + _ ≤ _; simpa using hW) hd (fun _ _ => ⟨rfl, eT, hc, hs⟩)
  dsimp only [Pt.U, Pt.locs, Pt.cells, Pt.slots] at X' l1 y1 z1 st hQ hI hS
  subst l1 y1 z1
  exact own_come k hZ hown hW1 X' hS hI hsub hQ (fun t kk => st.trans kk)
theorem own_eqi {t : Term} {k : Int32} {args : Array Value} {s : State} (h : (Jvm.Cond.eq t (Term.int k)).value args s none s [] = some true) : t.eval args s none [] s = some (.int k) := by
  obtain ⟨x, y, h1, h2, -, h3⟩ := cmp_v (Or.inl h)
  have h4 : y = .int k := (Option.some.inj ((Term.int_eval k).symm.trans h2)).symm
  subst h4
  obtain ⟨z, rfl⟩ := h3
  have h5 : (Jvm.Cond.eq t (Term.int k)).value args s none s [] = some (decide (z = k)) := by simp [Cond.value, h1, h2]
  rw [h1, gotT h5 h]
theorem own_fieldOf {t : Term} {C n d : String} {k : Int32} {a : Addr} {args : Array Value} {s : State} (ht : t.eval args s none [] s = some (.ref a)) (h : (Jvm.Cond.eq (Term.field t C n d) (Term.int k)).value args s none s [] = some true) : Fld s s.heap a C n d (.int k) :=
  Fld.start ((fld_at ht).symm.trans (own_eqi h))
theorem own_st1 {Ls Ls' : Array Slot} {k : Nat} {o : Slot} {v : Value} (hold : Ls[k]? = some o) (ho : One o) (hv : v.category = 1) (he : Ls.setIfInBounds k (.val v) = Ls') : storeLocals Ls k v = some Ls' := he ▸ XS.store1 hold ho hv
theorem own_catV {v : Value} (hv : v.isRef = true) : v.category = 1 := by rcases ref_cases hv with rfl | ⟨_, rfl⟩ <;> rfl
theorem own_narV {v : Value} {t : FieldType} (hv : v.isRef = true) (ht : t.isReference = true) : narrow t v = v := by
  rcases ref_cases hv with rfl | ⟨_, rfl⟩ <;> cases t <;> first | rfl | (cases ht; done)
theorem own_narC {x : Int32} (h : 0 ≤ x.toInt ∧ x.toInt ≤ 65535) : nar .char x = x := by
  have q := c_i2c x
  rw [← Int32.toInt_inj]
  show (x.toUInt32.toUInt16.toUInt32.toInt32).toInt = x.toInt
  omega
theorem own_narZ {x : Int32} (h : x = 0 ∨ x = 1) : narrow .boolean (.int x) = .int x := by rcases h with rfl | rfl <;> rfl
def own_plain (h : Heap) (x : Addr) : Prop := ∃ c : Cell, h[x]? = some c ∧ c.vm.isStatics = false
theorem own_plainE {a : Addr} {C : String} (F : Exa Z h a C) : own_plain h a := by obtain ⟨c, k, h1, -, -, h4, -⟩ := F; exact ⟨c, h1, h4⟩
theorem own_sta_keep {h' : Heap} {ws : List Addr} {C n d : String} {v : Value} (F : Sta Z h C n d v) (K : Keep h h' ws) (q : ∀ x ∈ ws, own_plain h x) : Sta Z h' C n d v := by
  obtain ⟨cf, i, k, f, st, cell, h1, h2, h3, h4, h5, h6, h7⟩ := F
  refine ⟨cf, i, k, f, st, cell, h1, h2, h3, h4, K.2.1 _ _ h5 fun y => ?_, h6, h7⟩
  obtain ⟨c, z1, z2⟩ := q _ y
  cases h5.symm.trans z1
  rw [z2] at h6; cases h6
end Own
abbrev own_F (T : State) (m : MethodId) (pc : Nat) (Ls : Array Slot) (st : List Value) : State := T.setTop (mkF m pc Ls st)
theorem own_g {p : Program} {e : Env} {s : State} {below : List Frame} {Q : own_Post} {kc kn : Nat} {S : State} (S' : State) (st : ∀ t, Steps p.tables e below S' t → Steps p.tables e below S t) (k : own_Ends p e below s Q kc kn S') : own_Ends p e below s Q kc kn S := own_pre st k
theorem own_w {a0 : Array Value} {Z : State} (hw : ∀ d ∈ tables_1, d.before a0 Z = true) (i : Nat) {d : Jvm.Cond} (h : tables_1[i]? = some d := by rfl) : d.before a0 Z = true := hw _ (List.mem_of_getElem? h)
section OwnArr
variable {p : Program} {l : Launch} {e : Env} {R : Room} {s : State} {m : MethodId} {args : Array Value} {below : List Frame} {meth : Method} {c : Code} {T : State} {locs : List Loc} {cells slots : Nat} {Z : State} {a0 : Array Value} {h h' : Heap} {Q : own_Post} {kc kn : Nat} {a b : Addr} {ty : FieldType} {n : Nat} {f : Nat → Value}
/-- in h there lies at a an array of n components of the kind ty, the i-th is f i -/
def own_A (Z : State) (h : Heap) (a : Addr) (ty : FieldType) (n : Nat) (f : Nat → Value) : Prop := n < 2 ^ 31 ∧ ∃ cl : Cell, Arr Z h a cl ty ∧ cl.slots.size = n ∧ ∀ i, i < n → cl.slots[i]? = some (f i)
theorem own_A.lt (F : own_A Z h a ty n f) : a < h.size := by obtain ⟨_, c, A, -⟩ := F; exact A.lt
theorem own_A.ext (F : own_A Z h a ty n f) (E : Ext h h') : own_A Z h' a ty n f := by obtain ⟨q, c, A, r⟩ := F; exact ⟨q, c, A.ext E, r⟩
theorem own_A.other {sl : Nat} {v : Value} (F : own_A Z h b ty n f) (W : Wr h h' a sl v) (q : b ≠ a) : own_A Z h' b ty n f := by obtain ⟨r0, c, A, r⟩ := F; exact ⟨r0, c, A.other W q, r⟩
theorem own_A.keep {ws : List Addr} (F : own_A Z h a ty n f) (K : Keep h h' ws) (q : a ∉ ws) : own_A Z h' a ty n f := by obtain ⟨r0, c, A, r⟩ := F; exact ⟨r0, c, ⟨K.2.1 a c A.1 q, A.2⟩, r⟩
theorem own_A.congr {g : Nat → Value} (F : own_A Z h a ty n f) (q : ∀ i, i < n → f i = g i) : own_A Z h a ty n g := by obtain ⟨r0, c, A, r1, r2⟩ := F; exact ⟨r0, c, A, r1, fun i hi => by rw [r2 i hi, q i hi]⟩
theorem own_clamp {j : Int32} {i : Nat} (hj : j.toInt = (i : Int)) : ¬ j < 0 ∧ j.toNatClampNeg = i := by
  refine ⟨fun q => ?_, ?_⟩
  · rw [Int32.lt_iff_toInt_lt, hj, Int32.toInt_zero] at q; omega
  · show j.toInt.toNat = i
    rw [hj]; exact Int.toNat_natCast i
theorem own_in {j : Int32} {i : Nat} {cl : Cell} (hj : j.toInt = (i : Int)) (hi : i < cl.slots.size) : ¬ (j < 0 ∨ cl.slots.size ≤ j.toNatClampNeg) := by
  obtain ⟨q1, q2⟩ := own_clamp hj
  rw [q2]
  intro q
  rcases q with q | q
  · exact q1 q
  · omega
theorem own_alen (X : Stand p l e R s m args below meth c T locs cells slots) (hx : p.tables.exec = Jvm.exec) (hZ : Z.Warmed39 s.vm) (eT : T.heap = h) (A : own_A Z h a ty n f) {pc : Nat} {Ls : Array Slot} {rest : List Value} (hd : decode c.code pc = .ok (.arraylength, 1))
    (k : own_Ends p e below s Q kc kn (T.setTop (mkF m (pc + 1) Ls (.int n.toInt32 :: rest)))) : own_Ends p e below s Q kc kn (T.setTop (mkF m pc Ls (.ref a :: rest))) := by
  obtain ⟨-, cl, Ar, rfl, -⟩ := A
  exact own_pre (X.arraylength hx (by rw [eT]; exact Ar.1) (State.isArrayOf_alike hZ.alike Ar.2.1) (g := mkF m pc Ls (.ref a :: rest)) rfl rfl hd) k
theorem own_iald (X : Stand p l e R s m args below meth c T locs cells slots) (hx : p.tables.exec = Jvm.exec) (hZ : Z.Warmed39 s.vm) (eT : T.heap = h) {g : Nat → Int32} (A : own_A Z h a .int n (fun i => .int (g i))) {pc : Nat} {Ls : Array Slot} {rest : List Value} {j : Int32} (i : Nat) (hj : j.toInt = (i : Int)) (hi : i < n) (hd : decode c.code pc = .ok (.iaload, 1))
    (k : own_Ends p e below s Q kc kn (T.setTop (mkF m (pc + 1) Ls (.int (g i) :: rest)))) : own_Ends p e below s Q kc kn (T.setTop (mkF m pc Ls (.int j :: .ref a :: rest))) := by
  obtain ⟨-, cl, Ar, rfl, hv⟩ := A
  exact own_pre (X.iaload hx (j := j) (v := .int (g i)) (by rw [eT]; exact Ar.1) (State.isArrayOf_alike hZ.alike Ar.2.1) Ar.2.2 (own_in hj hi) (by rw [(own_clamp hj).2]; exact hv i hi) (g := mkF m pc Ls (.int j :: .ref a :: rest)) rfl rfl hd) k
theorem own_cald (X : Stand p l e R s m args below meth c T locs cells slots) (hx : p.tables.exec = Jvm.exec) (hZ : Z.Warmed39 s.vm) (eT : T.heap = h) {g : Nat → Int32} (A : own_A Z h a .char n (fun i => .int (g i))) {pc : Nat} {Ls : Array Slot} {rest : List Value} {j : Int32} (i : Nat) (hj : j.toInt = (i : Int)) (hi : i < n) (hd : decode c.code pc = .ok (.caload, 1))
    (k : own_Ends p e below s Q kc kn (T.setTop (mkF m (pc + 1) Ls (.int (g i) :: rest)))) : own_Ends p e below s Q kc kn (T.setTop (mkF m pc Ls (.int j :: .ref a :: rest))) := by
  obtain ⟨-, cl, Ar, rfl, hv⟩ := A
  exact own_pre (X.caload hx (j := j) (v := .int (g i)) (by rw [eT]; exact Ar.1) (State.isArrayOf_alike hZ.alike Ar.2.1) Ar.2.2 (own_in hj hi) (by rw [(own_clamp hj).2]; exact hv i hi) (g := mkF m pc Ls (.int j :: .ref a :: rest)) rfl rfl hd) k
theorem own_bald (X : Stand p l e R s m args below meth c T locs cells slots) (hx : p.tables.exec = Jvm.exec) (hZ : Z.Warmed39 s.vm) (eT : T.heap = h) {g : Nat → Int32} (A : own_A Z h a .byte n (fun i => .int (g i))) {pc : Nat} {Ls : Array Slot} {rest : List Value} {j : Int32} (i : Nat) (hj : j.toInt = (i : Int)) (hi : i < n) (hd : decode c.code pc = .ok (.baload, 1))
    (k : own_Ends p e below s Q kc kn (T.setTop (mkF m (pc + 1) Ls (.int (g i) :: rest)))) : own_Ends p e below s Q kc kn (T.setTop (mkF m pc Ls (.int j :: .ref a :: rest))) := by
  obtain ⟨-, cl, Ar, rfl, hv⟩ := A
  exact own_pre (X.baloadBytes hx (j := j) (v := .int (g i)) (by rw [eT]; exact Ar.1) (State.isArrayOf_alike hZ.alike Ar.2.1) Ar.2.2 (own_in hj hi) (by rw [(own_clamp hj).2]; exact hv i hi) (g := mkF m pc Ls (.int j :: .ref a :: rest)) rfl rfl hd) k
theorem own_lald (X : Stand p l e R s m args below meth c T locs cells slots) (hx : p.tables.exec = Jvm.exec) (hZ : Z.Warmed39 s.vm) (eT : T.heap = h) {g : Nat → Int64} (A : own_A Z h a .long n (fun i => .long (g i))) {pc : Nat} {Ls : Array Slot} {rest : List Value} {j : Int32} (i : Nat) (hj : j.toInt = (i : Int)) (hi : i < n) (hd : decode c.code pc = .ok (.laload, 1))
    (k : own_Ends p e below s Q kc kn (T.setTop (mkF m (pc + 1) Ls (.long (g i) :: rest)))) : own_Ends p e below s Q kc kn (T.setTop (mkF m pc Ls (.int j :: .ref a :: rest))) := by
  obtain ⟨-, cl, Ar, rfl, hv⟩ := A
  exact own_pre (X.laload hx (j := j) (v := .long (g i)) (by rw [eT]; exact Ar.1) (State.isArrayOf_alike hZ.alike Ar.2.1) Ar.2.2 (own_in hj hi) (by rw [(own_clamp hj).2]; exact hv i hi) (g := mkF m pc Ls (.int j :: .ref a :: rest)) rfl rfl hd) k
theorem own_aald (X : Stand p l e R s m args below meth c T locs cells slots) (hx : p.tables.exec = Jvm.exec) (hZ : Z.Warmed39 s.vm) (eT : T.heap = h) (hty : ty.isReference = true) (A : own_A Z h a ty n f) {pc : Nat} {Ls : Array Slot} {rest : List Value} {j : Int32} (i : Nat) (hj : j.toInt = (i : Int)) (hi : i < n) (hd : decode c.code pc = .ok (.aaload, 1))
    (k : own_Ends p e below s Q kc kn (T.setTop (mkF m (pc + 1) Ls (f i :: rest)))) : own_Ends p e below s Q kc kn (T.setTop (mkF m pc Ls (.int j :: .ref a :: rest))) := by
  obtain ⟨-, cl, Ar, rfl, hv⟩ := A
  exact own_pre (X.aaload hx (j := j) (v := f i) (by rw [eT]; exact Ar.1) (State.isArrayOf_alike hZ.alike Ar.2.1) hty Ar.2.2 (own_in hj hi) (by rw [(own_clamp hj).2]; exact hv i hi) (g := mkF m pc Ls (.int j :: .ref a :: rest)) rfl rfl hd) k
/-- the array behind a store -/
theorem own_A.set {cl : Cell} {i : Nat} {v : Value} (q : n < 2 ^ 31) (Ar : Arr Z h a cl ty) (hn : cl.slots.size = n) (hv : ∀ i, i < n → cl.slots[i]? = some (f i)) (W : Wr h h' a i v) (hi : i < n) : own_A Z h' a ty n (fun k => if k = i then v else f k) := by
  refine ⟨q, _, Ar.same W, by rw [sz_set, hn], fun k hk => ?_⟩
  by_cases e : k = i
  · subst e; simp [Cell.setSlot, hn, hk]
  · have := hv k hk
    simp only [e, if_false]
    rw [← this]
    exact Array.getElem?_setIfInBounds_ne (Ne.symm e)
theorem own_iast (X : Stand p l e R s m args below meth c T locs cells slots) (hx : p.tables.exec = Jvm.exec) (hZ : Z.Warmed39 s.vm) (eT : T.heap = h) {g : Nat → Int32} (A : own_A Z h a .int n (fun i => .int (g i))) {pc : Nat} {Ls : Array Slot} {rest : List Value} {j x : Int32} (i : Nat) (hj : j.toInt = (i : Int)) (hi : i < n) (hd : decode c.code pc = .ok (.iastore, 1))
    (k : ∀ T' h', Stand p l e R s m args below meth c T' (locs ++ [⟨a, i⟩]) cells slots → T'.heap = h' → Wr h h' a i (.int x) → own_A Z h' a .int n (fun k => .int (if k = i then x else g k)) → own_Ends p e below s Q kc kn (T'.setTop (mkF m (pc + 1) Ls rest))) :
    own_Ends p e below s Q kc kn (T.setTop (mkF m pc Ls (.int x :: .int j :: .ref a :: rest))) := by
  obtain ⟨q, cl, Ar, hn, hv⟩ := A
  obtain ⟨T', h', X', e', W, st⟩ := stI X hx hZ eT Ar (j := j) (x := x) (own_in hj (by rw [hn]; exact hi)) (g := mkF m pc Ls (.int x :: .int j :: .ref a :: rest)) rfl rfl hd
  rw [(own_clamp hj).2] at X' W
  exact own_pre st (k T' h' X' e' W ((own_A.set q Ar hn hv W hi).congr fun k _ => by by_cases z : k = i <;> simp [z]))
theorem own_last (X : Stand p l e R s m args below meth c T locs cells slots) (hx : p.tables.exec = Jvm.exec) (hZ : Z.Warmed39 s.vm) (eT : T.heap = h) {g : Nat → Int64} (A : own_A Z h a .long n (fun i => .long (g i))) {pc : Nat} {Ls : Array Slot} {rest : List Value} {j : Int32} {x : Int64} (i : Nat) (hj : j.toInt = (i : Int)) (hi : i < n) (hd : decode c.code pc = .ok (.lastore, 1))
    (k : ∀ T' h', Stand p l e R s m args below meth c T' (locs ++ [⟨a, i⟩]) cells slots → T'.heap = h' → Wr h h' a i (.long x) → own_A Z h' a .long n (fun k => .long (if k = i then x else g k)) → own_Ends p e below s Q kc kn (T'.setTop (mkF m (pc + 1) Ls rest))) :
    own_Ends p e below s Q kc kn (T.setTop (mkF m pc Ls (.long x :: .int j :: .ref a :: rest))) := by
  obtain ⟨q, cl, Ar, hn, hv⟩ := A
  obtain ⟨T', h', X', e', W, st⟩ := stJ X hx hZ eT Ar (j := j) (x := x) (own_in hj (by rw [hn]; exact hi)) (g := mkF m pc Ls (.long x :: .int j :: .ref a :: rest)) rfl rfl hd
  rw [(own_clamp hj).2] at X' W
  exact own_pre st (k T' h' X' e' W ((own_A.set q Ar hn hv W hi).congr fun k _ => by by_cases z : k = i <;> simp [z]))
theorem own_cast (X : Stand p l e R s m args below meth c T locs cells slots) (hx : p.tables.exec = Jvm.exec) (hZ : Z.Warmed39 s.vm) (eT : T.heap = h) {g : Nat → Int32} (A : own_A Z h a .char n (fun i => .int (g i))) {pc : Nat} {Ls : Array Slot} {rest : List Value} {j x : Int32} (i : Nat) (hj : j.toInt = (i : Int)) (hi : i < n) (x' : Int32) (hx' : nar .char x = x') (hd : decode c.code pc = .ok (.castore, 1))
    (k : ∀ T' h', Stand p l e R s m args below meth c T' (locs ++ [⟨a, i⟩]) cells slots → T'.heap = h' → Wr h h' a i (.int x') → own_A Z h' a .char n (fun k => .int (if k = i then x' else g k)) → own_Ends p e below s Q kc kn (T'.setTop (mkF m (pc + 1) Ls rest))) :
    own_Ends p e below s Q kc kn (T.setTop (mkF m pc Ls (.int x :: .int j :: .ref a :: rest))) := by
  subst hx'
  obtain ⟨q, cl, Ar, hn, hv⟩ := A
  obtain ⟨T', h', X', e', W, st⟩ := stC X hx hZ eT Ar (j := j) (x := x) (own_in hj (by rw [hn]; exact hi)) (g := mkF m pc Ls (.int x :: .int j :: .ref a :: rest)) rfl rfl hd
  rw [(own_clamp hj).2] at X' W
  exact own_pre st (k T' h' X' e' W ((own_A.set q Ar hn hv W hi).congr fun k _ => by by_cases z : k = i <;> simp [z]))
theorem own_bast (X : Stand p l e R s m args below meth c T locs cells slots) (hx : p.tables.exec = Jvm.exec) (hZ : Z.Warmed39 s.vm) (eT : T.heap = h) {g : Nat → Int32} (A : own_A Z h a .byte n (fun i => .int (g i))) {pc : Nat} {Ls : Array Slot} {rest : List Value} {j x : Int32} (i : Nat) (hj : j.toInt = (i : Int)) (hi : i < n) (x' : Int32) (hx' : nar .byte x = x') (hd : decode c.code pc = .ok (.bastore, 1))
    (k : ∀ T' h', Stand p l e R s m args below meth c T' (locs ++ [⟨a, i⟩]) cells slots → T'.heap = h' → Wr h h' a i (.int x') → own_A Z h' a .byte n (fun k => .int (if k = i then x' else g k)) → own_Ends p e below s Q kc kn (T'.setTop (mkF m (pc + 1) Ls rest))) :
    own_Ends p e below s Q kc kn (T.setTop (mkF m pc Ls (.int x :: .int j :: .ref a :: rest))) := by
  subst hx'
  obtain ⟨q, cl, Ar, hn, hv⟩ := A
  obtain ⟨T', h', X', e', W, st⟩ := stB X hx hZ eT Ar (j := j) (x := x) (own_in hj (by rw [hn]; exact hi)) (g := mkF m pc Ls (.int x :: .int j :: .ref a :: rest)) rfl rfl hd
  rw [(own_clamp hj).2] at X' W
  exact own_pre st (k T' h' X' e' W ((own_A.set q Ar hn hv W hi).congr fun k _ => by by_cases z : k = i <;> simp [z]))
theorem own_newA (X : Stand p l e R s m args below meth c T locs cells slots) (hx : p.tables.exec = Jvm.exec) (hZ : Z.Warmed39 s.vm) {aty : ArrayType} (ty : FieldType) (hty : newarray.typeOf aty = ty) (w : (Cond.arrayClass ty).before a0 Z = true) (eT : T.heap = h) {pc : Nat} {Ls : Array Slot} {rest : List Value} {j : Int32} (hd : decode c.code pc = .ok (.newarray aty, 2))
    (n : Nat) (hj : j.toInt = (n : Int)) (cap : Nat) (hcap : n ≤ cap) (hb : cap * 8 ≤ 536870912) (hc : cells + 1 ≤ R.cells) (hl : slots + cap ≤ R.slots)
    (k : ∀ T' h' (b : Addr), Stand p l e R s m args below meth c T' locs (cells + 1) (slots + cap) → T'.heap = h' → Ext h h' → b = h.size → own_A Z h' b ty n (fun _ => defaultValue ty) → own_Ends p e below s Q kc kn (T'.setTop (mkF m (pc + 2) Ls (.ref b :: rest)))) :
    own_Ends p e below s Q kc kn (T.setTop (mkF m pc Ls (.int j :: rest))) := by
  subst hty
  obtain ⟨q1, q2⟩ := own_clamp hj
  obtain ⟨T', h', cA, X', e', E, A, st⟩ := newP X hx hZ w eT (g := mkF m pc Ls (.int j :: rest)) rfl hd rfl q1 (cap := cap) (by rw [q2]; exact hcap) hb hc hl
  refine own_pre st (k T' h' _ X' e' E rfl ⟨by omega, _, A, by rw [sz_new, q2], fun i hi => ?_⟩)
  simp [newA, q2, hi]
theorem own_lenS {t : Term} {k : Int32} {args : Array Value} {s : State} {cl : Cell} (ht : t.eval args s none [] s = some (.ref a)) (A : Arr s s.heap a cl ty) (h : (Jvm.Cond.eq (Term.length t) (Term.int k)).value args s none s [] = some true) : cl.slots.size.toInt32 = k ∧ cl.slots.size < 2 ^ 31 := by
  have h1 := own_eqi h
  have h2 : s.arrayAt? a = some cl := Arr.fin (Vm.Alike.refl _) A
  by_cases q : cl.slots.size < 2 ^ 31
  · rw [len_f ht h2 q] at h1
    exact ⟨Value.int.inj (Option.some.inj h1), q⟩
  · simp [Term.eval, ht, h2, q] at h1
theorem own_plainA (F : own_A Z h a ty n f) : own_plain h a := by obtain ⟨_, c, A, -⟩ := F; exact ⟨c, A.1, A.plain⟩
theorem own_sz {k : Int32} (h : n.toInt32 = k) (q : n < 2 ^ 31) : (n : Int) = k.toInt := by rw [← h, len_toInt q]
theorem own_sz0 (h : n.toInt32 = 0) (q : n < 2 ^ 31) : n = 0 := by
  have := own_sz h q
  rw [Int32.toInt_zero] at this; omega
end OwnArr
section OwnCp
variable {p : Program} {l : Launch} {e : Env} {R : Room} {s : State} {m : MethodId} {args : Array Value} {below : List Frame} {meth : Method} {c : Code} {T : State} {locs : List Loc} {cells slots : Nat} {Z : State} {a0 : Array Value} {h h' : Heap} {Q : own_Post} {kc kn : Nat} {a b : Addr} {ty : FieldType} {n n' : Nat} {f f' : Nat → Value}
theorem own_rgetD (f : Nat → Value) (d : Value) {n i : Nat} (hi : i < n) : ((List.range n).map f).getD i d = f i := by simp [List.getD_eq_getElem?_getD, hi]
theorem own_toArv (F : own_A Z h a ty n f) (hf : ∀ i, fits ty (f i) = true) (d : Value) : ∃ k, Arv Z h a k ty n.toInt32 ((List.range n).map f) d := by
  obtain ⟨q, cl, A, S, V⟩ := F
  have e := own_clamp (len_toInt q)
  refine ⟨cl.cls, cl, A, rfl, by rw [S, e.2], e.1, fun i hi => ?_, fun i hi => ?_⟩
  · rw [S] at hi; rw [own_rgetD f d hi]; exact V i hi
  · rw [S] at hi; rw [own_rgetD f d hi]; exact hf i
theorem own_ofArv {k : ClassId} {z : Int32} {vs : List Value} {d : Value} (F : Arv Z h a k ty z vs d) (hz : z.toNatClampNeg = n) (hn : n < 2 ^ 31) : own_A Z h a ty n (fun i => vs.getD i d) := by
  obtain ⟨c, A, -, S, -, H, -⟩ := F
  exact ⟨hn, c, A, by rw [S, hz], fun i hi => H i (by rw [S, hz]; exact hi)⟩
theorem own_cp (X : Stand p l e R s m args below meth c T locs cells slots) (hx : p.tables.exec = Jvm.exec) (hZ : Z.Warmed39 s.vm) {own : String} {index : Nat} (hown : s.vm.findClass own = some m.cls)
    (w1 : (Cond.methodLink own index Jvm.Stand.acN).before a0 Z = true) (w2 : (Cond.native Jvm.Stand.acN).before a0 Z = true) (w3 : (Cond.static Jvm.Stand.acN).before a0 Z = true) (w4 : (Cond.initialized "java/lang/System").before a0 Z = true) (eT : T.heap = h)
    (A : own_A Z h a ty n f) (B : own_A Z h b ty n' f') (hfA : ∀ i, fits ty (f i) = true) (hfB : ∀ i, fits ty (f' i) = true) (hp : refKind ty = false) {nn : Int32} (k : Nat) (hk : nn.toInt = (k : Int)) (hkn : k ≤ n) (hkn' : k ≤ n') {n0 : Nat} (N : Fr n0 locs) (ge : n0 ≤ b)
    {pc : Nat} {Ls : Array Slot} (hsz : Ls.size = c.maxLocals) {rest : List Value} (hd : decode c.code pc = .ok (.invokestatic index, 3)) (hfr : 1 ≤ R.frames) {W : Nat} (hW : (rest.map fun v => v.category).sum ≤ W) (hlo : W + 18 ≤ R.locals)
    (kk : ∀ T' h' L, Stand p l e R s m args below meth c T' L cells slots → T'.heap = h' → Fr n0 L → Keep h h' [b] → own_A Z h' b ty n' (fun i => if i < k then f i else f' i) → own_Ends p e below s Q kc kn (T'.setTop (mkF m (pc + 3) Ls rest))) :
    own_Ends p e below s Q kc kn (T.setTop (mkF m pc Ls (.int nn :: .int 0 :: .ref b :: .int 0 :: .ref a :: rest))) := by
  obtain ⟨k1, A1⟩ := own_toArv A hfA (.int 0)
  obtain ⟨k2, B1⟩ := own_toArv B hfB (.int 0)
  have e1 := own_clamp (len_toInt A.1)
  have e2 := own_clamp (len_toInt B.1)
  have e3 := own_clamp hk
  have z0 : (0 : Int32).toNatClampNeg = 0 := by decide
  obtain ⟨T', h', L, X', e', N', K, V, st⟩ := cpA X hx hZ hown w1 w2 w3 w4 eT (sp := 0) (dp := 0) (nn := nn) (us := (List.range nn.toNatClampNeg).map fun i => ((List.range n).map f).getD ((0 : Int32).toNatClampNeg + i) (.int 0)) A1 B1 (Or.inl ⟨rfl, hp⟩) (by decide) (by decide) e3.1 (by rw [z0, e1.2, e3.2]; omega) (by rw [z0, e2.2, e3.2]; omega) rfl (by rw [z0, e3.2]; simp; omega) N ge (g := mkF m pc Ls (.int nn :: .int 0 :: .ref b :: .int 0 :: .ref a :: rest)) rfl hsz rfl hd hfr (W := W) (by show 2 * 0 + _ ≤ _; simpa using hW) (by show W + (7 + 11) ≤ _; omega)
  refine own_pre st (kk T' h' L X' e' N' K ((own_ofArv V e2.2 B.1).congr fun i hi => ?_))
  rw [z0, e3.2]
  simp only [List.take_zero, List.nil_append, Nat.zero_add, List.getD_eq_getElem?_getD]
  by_cases q : i < k
  · have q2 : i < n := by omega
    rw [List.getElem?_append_left (by simpa using q)]
    simp [q, q2]
  · rw [List.getElem?_append_right (by simp; omega)]
    have q3 : k + (i - k) = i := by omega
    simp [q, List.getElem?_drop, q3, hi]
theorem own_callP (X : Stand p l e R s m args below meth c T locs cells slots) (hx : p.tables.exec = Jvm.exec) (hZ : Z.Warmed39 s.vm) {own C : String} {index : Nat} {y : MethodName} {bytes : ByteArray} {maxL : Nat} {ret : Option FieldType} {rm : Room} {Qc : own_Post} {PV : Vm → Prop} {b : Addr}
    (hown : s.vm.findClass own = some m.cls) (w1 : (Cond.methodLink own index y).before a0 Z = true) (w2 : (Cond.instanceMethod y).before a0 Z = true) (w3 : (Cond.selects y.cls y y).before a0 Z = true) (w4 : (Cond.privateMethod y).before a0 Z = true) (w5 : (Cond.code y bytes maxL ret).before a0 Z = true) (w6 : (Cond.initialized y.cls).before a0 Z = true)
    (hy : y.cls ≠ "java/lang/invoke/MethodHandle" ∧ y.cls ≠ "java/lang/invoke/VarHandle") (eT : T.heap = h) (E : Exa Z h b C) {argsL rest st0 : List Value} (hM : own_MetW l Z y bytes maxL ret [] rm (.ref b :: argsL).toArray h PV Qc) {W pc : Nat} {Ls : Array Slot}
    (hsz : Ls.size = c.maxLocals) (hlen : ∀ sig, parseMethodDescriptor y.desc = some sig → argsL.length = sig.parameters.length) (hst : st0 = argsL.reverse ++ .ref b :: rest) (hW : (rest.map fun v => v.category).sum ≤ W) (hd : decode c.code pc = .ok (.invokevirtual index, 3))
    (hf : rm.frames + 1 ≤ R.frames) (hl : W + (maxL + 11) + rm.locals ≤ R.locals) (hc : cells + rm.cells ≤ R.cells) (hs : slots + rm.slots ≤ R.slots)
    (k : own_K p l e R s m args below meth c own Z locs Q kc kn (cells + rm.cells) (slots + rm.slots) Qc (fun v => mkF m (pc + 3) Ls (v.toList ++ rest)))
    (hv : ∀ vm, s.WarmedH vm → PV vm := by exact fun _ _ => trivial) (hsub : ∀ x ∈ Qc.2, x ∈ Q.2 := by simp) :
    own_Ends p e below s Q kc kn (T.setTop (mkF m pc Ls st0)) := by
  obtain ⟨cq, q1, q2⟩ := E.cell
  obtain ⟨v, vm1, ⟨T', L', k', n'⟩, hW1, X', hS, hgr, ⟨Lc, hQ, hI, l1, y1, z1⟩, st⟩ := X.privateBackS hx (y := y) hown (mvT hZ w1) (mvT hZ w2) (mvT hZ w3) (Cond.privateMethod_at (mvP hZ w4 (args := #[]))) (mvT hZ w5) hy (own_backW (W := W) hM hZ w5 w6 hf hl hv) (g := mkF m pc Ls st0) rfl hsz (Steps.refl _) (a := b) (by rw [eT]; exact q1) q2 (argsL := argsL) (rest := rest) hlen hst (by show 2 * 0 + _ ≤ _; simpa using hW) hd (fun _ _ => ⟨rfl, eT, hc, hs⟩)
  dsimp only [Pt.U, Pt.locs, Pt.cells, Pt.slots] at X' l1 y1 z1 st hQ hI hS
  subst l1 y1 z1
  exact own_come k hZ hown hW1 X' hS hI hsub hQ (fun t kk => st.trans kk)
theorem own_selp {y y' : MethodName} (hZ : Z.Warmed39 s.vm) (hc : y'.cls = y.cls) (w : (Cond.selects y'.cls y' y').before a0 Z = true) (wi : (Cond.instanceMethod y).before a0 Z = true) (wp : (Cond.privateMethod y).before a0 Z = true) (hy : y.cls ≠ "java/lang/invoke/MethodHandle" ∧ y.cls ≠ "java/lang/invoke/VarHandle") : (Cond.selects y.cls y y).before args s = true := by
  have w' : (Cond.selects y'.cls y' y').before args s = true := mvT hZ w
  obtain ⟨c2, r2, m2, q1, -, q3, -, kP, hkP, hkPi⟩ := Cond.selects_spec w'
  have q4 := findClass_of_methodNamed q3
  refine selects_self_of_private (c := m2.cls) (k := kP) (by rw [← hc]; exact q4) hkP hkPi (Cond.privateMethod_at (mvP hZ wp (args := #[]))) (mvT hZ wi) hy
theorem own_callQ (X : Stand p l e R s m args below meth c T locs cells slots) (hx : p.tables.exec = Jvm.exec) (hZ : Z.Warmed39 s.vm) {own C : String} {index : Nat} {y y' : MethodName} {bytes : ByteArray} {maxL : Nat} {ret : Option FieldType} {rm : Room} {Qc : own_Post} {PV : Vm → Prop} {b : Addr}
    (hown : s.vm.findClass own = some m.cls) (w1 : (Cond.methodLink own index y).before a0 Z = true) (w2 : (Cond.instanceMethod y).before a0 Z = true) (w3 : (Cond.selects y'.cls y' y').before a0 Z = true) (w4 : (Cond.privateMethod y).before a0 Z = true) (w5 : (Cond.code y bytes maxL ret).before a0 Z = true) (w6 : (Cond.initialized y.cls).before a0 Z = true)
    (hyy : y'.cls = y.cls) (hy : y.cls ≠ "java/lang/invoke/MethodHandle" ∧ y.cls ≠ "java/lang/invoke/VarHandle") (eT : T.heap = h) (E : Exa Z h b C) {argsL rest st0 : List Value} (hM : own_MetW l Z y bytes maxL ret [] rm (.ref b :: argsL).toArray h PV Qc) {W pc : Nat} {Ls : Array Slot}
    (hsz : Ls.size = c.maxLocals) (hlen : ∀ sig, parseMethodDescriptor y.desc = some sig → argsL.length = sig.parameters.length) (hst : st0 = argsL.reverse ++ .ref b :: rest) (hW : (rest.map fun v => v.category).sum ≤ W) (hd : decode c.code pc = .ok (.invokevirtual index, 3))
    (hf : rm.frames + 1 ≤ R.frames) (hl : W + (maxL + 11) + rm.locals ≤ R.locals) (hc : cells + rm.cells ≤ R.cells) (hs : slots + rm.slots ≤ R.slots)
    (k : own_K p l e R s m args below meth c own Z locs Q kc kn (cells + rm.cells) (slots + rm.slots) Qc (fun v => mkF m (pc + 3) Ls (v.toList ++ rest)))
    (hv : ∀ vm, s.WarmedH vm → PV vm := by exact fun _ _ => trivial) (hsub : ∀ x ∈ Qc.2, x ∈ Q.2 := by simp) :
    own_Ends p e below s Q kc kn (T.setTop (mkF m pc Ls st0)) := by
  obtain ⟨cq, q1, q2⟩ := E.cell
  obtain ⟨v, vm1, ⟨T', L', k', n'⟩, hW1, X', hS, hgr, ⟨Lc, hQ, hI, l1, y1, z1⟩, st⟩ := X.privateBackS hx (y := y) hown (mvT hZ w1) (mvT hZ w2) (own_selp hZ hyy w3 w2 w4 hy) (Cond.privateMethod_at (mvP hZ w4 (args := #[]))) (mvT hZ w5) hy (own_backW (W := W) hM hZ w5 w6 hf hl hv) (g := mkF m pc Ls st0) rfl hsz (Steps.refl _) (a := b) (by rw [eT]; exact q1) q2 (argsL := argsL) (rest := rest) hlen hst (by show 2 * 0 + _ ≤ _; simpa using hW) hd (fun _ _ => ⟨rfl, eT, hc, hs⟩)
  dsimp only [Pt.U, Pt.locs, Pt.cells, Pt.slots] at X' l1 y1 z1 st hQ hI hS
  subst l1 y1 z1
  exact own_come k hZ hown hW1 X' hS hI hsub hQ (fun t kk => st.trans kk)
end OwnCp
def own_Lat (Z : State) (h : Heap) (x t : Addr) (n : Nat) (f : Nat → Int32) : Prop := Exa Z h x "java/lang/String" ∧ Fld Z h x "java/lang/String" "value" "[B" (.ref t) ∧ Fld Z h x "java/lang/String" "coder" "B" (.int 0) ∧ own_A Z h t .byte n (fun i => .int ((f i).toInt8.toInt32)) ∧ ∀ i, i < n → 0 ≤ (f i).toInt ∧ (f i).toInt ≤ 255
theorem own_succ {j : Int32} {k n : Nat} (hj : j.toInt = (k : Int)) (hk : k < n) (hn : n < 2 ^ 31) : (j + (1 : Int32)).toInt = ((k + 1 : Nat) : Int) := by
  have h := c_iadd j 1
  have r := rng32 (j + 1)
  simp only [Int32.reduceToInt] at h
  omega
theorem own_jlt {j nn : Int32} {k n : Nat} (hj : j.toInt = (k : Int)) (hn : nn.toInt = (n : Int)) (h : k < n) : j < nn := by rw [Int32.lt_iff_toInt_lt]; omega
theorem own_jge {j nn : Int32} {k n : Nat} (hj : j.toInt = (k : Int)) (hn : nn.toInt = (n : Int)) (h : n ≤ k) : ¬ j < nn := by rw [Int32.lt_iff_toInt_lt]; omega
theorem own_sub31 (x : Int32) : (((x - x).toUInt32 >>> ((31 : Int32) &&& 31).toUInt32).toInt32).toInt8.toInt32 = (0 : Int32) := by rw [Int32.sub_self]; decide
theorem own_gstep {k : Nat} {g g' : Nat → Int32} {B : Nat → Int32} {x : Int32} (hg : ∀ i, i < k → g i = B i) (hg' : g' = fun q => if q = k then x else g q) (hx : x = B k) : ∀ i, i < k + 1 → g' i = B i := by
  intro i hi
  rw [hg']
  by_cases q : i = k
  · simp only [q, if_true]; exact hx
  · simp only [q, if_false]; exact hg i (by omega)
theorem own_i2b (x : Int32) : narrow .byte (.int x.toInt8.toInt32) = .int x.toInt8.toInt32 := by
  show Value.int (x.toInt8.toInt32).toInt8.toInt32 = _
  simp
theorem own_c255 {x : Int32} (h : x.toInt ≤ 255) : ¬ (255 : Int32) < x := by rw [Int32.lt_iff_toInt_lt]; simp only [Int32.reduceToInt]; omega
theorem own_narB (x : Int32) : nar .byte x.toInt8.toInt32 = x.toInt8.toInt32 := by
  show (x.toInt8.toInt32).toInt8.toInt32 = _
  simp
theorem own_n32 {n : Nat} {nn : Int32} (hn : nn.toInt = (n : Int)) : n.toInt32 = nn := by
  have r := rng32 nn
  rw [← Int32.toInt_inj, len_toInt (by omega), hn]
theorem own_b8 {a b : Int32} (ha : 0 ≤ a.toInt ∧ a.toInt ≤ 255) (hb : 0 ≤ b.toInt ∧ b.toInt ≤ 255) (h : a.toInt8.toInt32 = b.toInt8.toInt32) : a = b := by
  have h1 := c_i2b a
  have h2 := c_i2b b
  rw [h] at h1
  rw [← Int32.toInt_inj]
  omega
def own_eqs (n m : Nat) (f g : Nat → Int32) : Prop := n = m ∧ ∀ i, i < n → f i = g i
theorem own_latP {Z : State} {h h' : Heap} {x t y u : Addr} {n m : Nat} {f g : Nat → Int32} (F : own_Lat Z h x t n f) (G : own_Lat Z h' y u m g) : own_eqs n m f g ↔ own_eqs n m (fun i => (f i).toInt8.toInt32) (fun i => (g i).toInt8.toInt32) := by
  constructor
  · rintro ⟨rfl, q⟩
    exact ⟨rfl, fun i hi => by show (f i).toInt8.toInt32 = (g i).toInt8.toInt32; rw [q i hi]⟩
  · rintro ⟨rfl, q⟩
    exact ⟨rfl, fun i hi => own_b8 (F.2.2.2.2 i hi) (G.2.2.2.2 i hi) (q i hi)⟩
theorem own_hrP {P P' : Prop} {r : Int32} (e : P ↔ P') (h : (r = 1 ∧ P) ∨ (r = 0 ∧ ¬ P)) : (r = 1 ∧ P') ∨ (r = 0 ∧ ¬ P') := by rw [← e]; exact h
theorem own_dec (P : Prop) : ∃ r : Int32, (r = 1 ∧ P) ∨ (r = 0 ∧ ¬ P) := by
  by_cases h : P
  · exact ⟨1, Or.inl ⟨rfl, h⟩⟩
  · exact ⟨0, Or.inr ⟨rfl, h⟩⟩
theorem own_r01 {P : Prop} {r : Int32} (h : (r = 1 ∧ P) ∨ (r = 0 ∧ ¬ P)) : r = 0 ∨ r = 1 := by rcases h with ⟨h, -⟩ | ⟨h, -⟩ <;> simp [h]
theorem own_r1 {P : Prop} {r : Int32} (h : (r = 1 ∧ P) ∨ (r = 0 ∧ ¬ P)) (hP : P) : r = 1 := by rcases h with ⟨h, -⟩ | ⟨-, h⟩; exact h; exact absurd hP h
theorem own_r0 {P : Prop} {r : Int32} (h : (r = 1 ∧ P) ∨ (r = 0 ∧ ¬ P)) (hP : ¬ P) : r = 0 := by rcases h with ⟨-, h⟩ | ⟨h, -⟩; exact absurd h hP; exact h
theorem own_Auq {Z : State} {h : Heap} {a : Addr} {ty ty' : FieldType} {n m : Nat} {f g : Nat → Value} (F : own_A Z h a ty n f) (G : own_A Z h a ty' m g) : n = m ∧ ∀ i, i < n → f i = g i := by
  obtain ⟨-, c, A, S, V⟩ := F
  obtain ⟨-, d, B, S', V'⟩ := G
  cases A.1.symm.trans B.1
  refine ⟨S.symm.trans S', fun i hi => ?_⟩
  have h1 := V i hi
  rw [V' i (by omega)] at h1
  exact (Option.some.inj h1).symm
theorem own_Latuq {Z : State} {h : Heap} {x t u : Addr} {n m : Nat} {f g : Nat → Int32} (F : own_Lat Z h x t n f) (G : own_Lat Z h x u m g) : own_eqs n m f g := by
  by_cases q : t = u
  · subst q
    obtain ⟨e, k⟩ := own_Auq F.2.2.2.1 G.2.2.2.1
    subst e
    exact ⟨rfl, fun i hi => own_b8 (F.2.2.2.2 i hi) (G.2.2.2.2 i hi) (Value.int.inj (k i hi))⟩
  · exact absurd rfl (Fld.ne F.2.1 G.2.1 fun z => q (Value.ref.inj z))
section OwnLit
variable {p : Program} {l : Launch} {e : Env} {R : Room} {s : State} {m : MethodId} {args : Array Value} {below : List Frame} {meth : Method} {c : Code} {T : State} {locs : List Loc} {cells slots : Nat} {Z : State} {a0 : Array Value} {h : Heap} {Q : own_Post} {kc kn : Nat}
theorem own_IB.ofI {v0 v1 : Vm} {Ts Ty : List String} (I : IB Z v0 Ts) (J : IB Z v1 Ty) (hm : ∃ more, v1.interned = v0.interned ++ more) : own_IB v0 v1 Ty := by
  obtain ⟨a, e1, -⟩ := I
  obtain ⟨b, e2, q2⟩ := J
  obtain ⟨d, e3⟩ := hm
  refine ⟨d, e3, fun q hq => q2 q ?_⟩
  have : a ++ d = b := by
    have h1 : Z.vm.interned ++ (a ++ d) = Z.vm.interned ++ b := by rw [← e2, e3, e1, Array.append_assoc]
    have h2 := congrArg Array.toList h1
    simp only [Array.toList_append] at h2
    have h3 := List.append_cancel_left h2
    apply Array.toList_inj.mp
    rw [Array.toList_append]; exact h3
  rw [← this]; exact Array.mem_append.mpr (Or.inr hq)
/-- the first load of a literal -/
theorem own_ldc (X : Stand p l e R s m args below meth c T locs cells slots) (hx : p.tables.exec = Jvm.exec) (hZ : Z.Warmed39 s.vm) {own text : String} {index : Nat} (hown : s.vm.findClass own = some m.cls) (w : (Cond.stringLink own index text).before a0 Z = true) (wS : ∀ a ∈ Bundle.stringAtoms, a.before a0 Z = true)
    (eT : T.heap = h) (N : Fr s.heap.size locs) (hkeep : ∀ (b : Addr) (cl : Cell), Z.heap[b]? = some cl → s.heap[b]? = some cl) {Ts : List String} (I : IB Z s.vm Ts) (hnot : text ∉ Ts) (hh : Jvm.Lit.constHeld Z own index) (hcw : Jvm.Lit.compactW.before a0 Z = true)
    {vs : List Value} {z : Int32} (ht : (∀ c ∈ text.toList, c.toNat < 256) ∧ text.toList.map (fun c => Value.int (Jvm.Lit.byteI c.toNat.toUInt16)) = vs) (hz : ¬ z < 0) (hl : z.toNatClampNeg = vs.length)
    {pc : Nat} {Ls : Array Slot} {rest : List Value} (hd : decode c.code pc = .ok (.ldc index, 2)) {n : Nat} (hn : 4 * text.toList.length ≤ n) (hbig : n ≤ 536870912) (hc : cells + 2 ≤ R.cells) (hl' : slots + (n + 4) ≤ R.slots) (hsub : ∀ x ∈ text :: Ts, x ∈ Q.2)
    (k : ∀ (a : Addr) (T' : State) (h' : Heap) (s' : State) (b : Addr) (kk : ClassId), Stand p l e R s' m args below meth c T' locs (cells + 2) (slots + (n + 4)) → Z.Warmed39 s'.vm → s'.vm.findClass own = some m.cls → T'.heap = h' → Ext h h' → s'.heap = s.heap → s'.vm = T'.vm → s.Warmed39 s'.vm → IB Z s'.vm (text :: Ts) → Lit s' own index a →
      Exa Z h' a "java/lang/String" → Fld Z h' a "java/lang/String" "coder" "B" (.int 0) → Fld Z h' a "java/lang/String" "value" "[B" (.ref b) → Arv Z h' b kk .byte z vs (.int 0) → own_Ends p e below s' Q kc kn (T'.setTop (mkF m (pc + 2) Ls (.ref a :: rest)))) :
    own_Ends p e below s Q kc kn (T.setTop (mkF m pc Ls rest)) := by
  obtain ⟨a, T', h', k1, b, kk, X', e', E', hS, hk1, hZ', hown', x1, x2, x3, x4, -, -, I', L', st⟩ := ldcSVL (s := s) (vm0 := s.vm) X hx hZ hown w wS eT (k0 := 0) ((State.WarmedH.refl s).since 0) (Nat.zero_le _) N hkeep I hnot hh hcw ht hz hl (g := mkF m pc Ls rest) rfl hd hn hbig hc hl'
  subst e'
  refine own_pre st (own_reb hS hk1 (own_IB.ofI I I' hS.1.2.2.1) hsub ?_)
  exact k a T' _ (s.setVm T'.vm) b kk X' hZ' hown' rfl E' rfl rfl hS.1 I' L' x1 x2 x3 x4
/-- a load of a literal that is booked -/
theorem own_ldcA (X : Stand p l e R s m args below meth c T locs cells slots) (hx : p.tables.exec = Jvm.exec) (hZ : Z.Warmed39 s.vm) {own text : String} {index : Nat} (hown : s.vm.findClass own = some m.cls) (w : (Cond.stringLink own index text).before a0 Z = true) {a : Addr} (L : Lit s own index a)
    {pc : Nat} {Ls : Array Slot} {rest : List Value} (hd : decode c.code pc = .ok (.ldc index, 2)) (k : own_Ends p e below s Q kc kn (T.setTop (mkF m (pc + 2) Ls (.ref a :: rest)))) : own_Ends p e below s Q kc kn (T.setTop (mkF m pc Ls rest)) :=
  own_pre (ldcAgain (s := s) (vm0 := s.vm) X hx hZ hown w L (g := mkF m pc Ls rest) rfl hd) k
end OwnLit
section OwnLS
variable {p : Program} {l : Launch} {e : Env} {R : Room} {s : State} {m : MethodId} {args : Array Value} {below : List Frame} {meth : Method} {c : Code} {T : State} {locs : List Loc} {cells slots : Nat} {Z : State} {a0 : Array Value} {h h' : Heap} {Q : own_Post} {kc kn : Nat} {vm v1 : Vm} {K : List (String × Nat × String)}
theorem own_SmonoW {c1 s1 c2 s2 : Nat} (X : Stand p l e R s m args below meth c T locs c1 s1) (h1 : c1 ≤ c2) (h2 : s1 ≤ s2) : Stand p l e R s m args below meth c T locs c2 s2 := { X with same := X.same.mono h1 h2 }
/-- the text's i-th char -/
def own_tx (t : String) (i : Nat) : Int32 := (t.toList.getD i ' ').toNat.toInt32
theorem own_Lat.ext {x t : Addr} {n : Nat} {f : Nat → Int32} (F : own_Lat Z h x t n f) (E : Ext h h') : own_Lat Z h' x t n f := ⟨F.1.ext E, F.2.1.ext E, F.2.2.1.ext E, F.2.2.2.1.ext E, F.2.2.2.2⟩
theorem own_Lat.keep {ws : List Addr} {x t : Addr} {n : Nat} {f : Nat → Int32} (F : own_Lat Z h x t n f) (k : Keep h h' ws) (q1 : x ∉ ws) (q2 : t ∉ ws) : own_Lat Z h' x t n f := ⟨F.1.keep k, F.2.1.keep k q1, F.2.2.1.keep k q1, F.2.2.2.1.keep k q2, F.2.2.2.2⟩
theorem own_Lat.congr {x t : Addr} {n n' : Nat} {f g : Nat → Int32} (F : own_Lat Z h x t n f) (hn : n = n') (hf : ∀ i, i < n → f i = g i) : own_Lat Z h x t n' g := by
  subst hn
  exact ⟨F.1, F.2.1, F.2.2.1, F.2.2.2.1.congr fun i hi => by rw [hf i hi], fun i hi => by rw [← hf i hi]; exact F.2.2.2.2 i hi⟩
/-- what is known of the literals K: those in the list of the interned texts are booked and lie in the heap -/
def own_LS (Z : State) (h : Heap) (vm : Vm) (K : List (String × Nat × String)) : Prop := ∃ Ts : List String, IB Z vm Ts ∧ (∀ x ∈ Ts, x ∈ K.map fun k => k.2.2) ∧ ∀ k ∈ K, k.2.2 ∉ Ts ∨ ∃ a t : Addr, Lit (Z.setVm vm) k.1 k.2.1 a ∧ own_Lat Z h a t k.2.2.toList.length (own_tx k.2.2)
theorem own_LS.start : own_LS Z h Z.vm K := ⟨[], IB.start, (fun x hx => by cases hx), fun k _ => Or.inl (fun q => by cases q)⟩
theorem own_LS.step (F : own_LS Z h s.vm K) (hI : own_IB s.vm v1 []) (hW : s.Warmed39 v1) : own_LS Z h v1 K := by
  obtain ⟨Ts, I, hT, hK⟩ := F
  refine ⟨Ts, own_IB.of I hI, hT, fun k hk => ?_⟩
  rcases hK k hk with q | ⟨a, t, q1, q2⟩
  · exact Or.inl q
  · exact Or.inr ⟨a, t, State.resolvedAt?_warmed39 (s := s) hW q1, q2⟩
theorem own_LS.warm (F : own_LS Z h s.vm K) (hW : s.WarmedH v1) : own_LS Z h v1 K := F.step (own_IB.same ((hW.since 0).same_table (Nat.zero_le _))) (hW.since 0).1
theorem own_LS.ext (F : own_LS Z h vm K) (E : Ext h h') : own_LS Z h' vm K := by
  obtain ⟨Ts, I, hT, hK⟩ := F
  refine ⟨Ts, I, hT, fun k hk => ?_⟩
  rcases hK k hk with q | ⟨a, t, q1, q2⟩
  · exact Or.inl q
  · exact Or.inr ⟨a, t, q1, q2.ext E⟩
theorem own_LS.keep (F : own_LS Z h vm K) (E : Keep h h' []) : own_LS Z h' vm K := by
  obtain ⟨Ts, I, hT, hK⟩ := F
  refine ⟨Ts, I, hT, fun k hk => ?_⟩
  rcases hK k hk with q | ⟨a, t, q1, q2⟩
  · exact Or.inl q
  · exact Or.inr ⟨a, t, q1, q2.keep E (fun z => by cases z) (fun z => by cases z)⟩
theorem own_LatO {x t b : Addr} {n k : Nat} {f : Nat → Int32} {C : String} (F : own_Lat Z h x t n f) (E : Exa Z h b C) (hC : "java/lang/String" ≠ C) (w : (Cond.instantiable C k).before a0 Z = true) : x ≠ b ∧ t ≠ b := by
  obtain ⟨_, cl, A, -⟩ := F.2.2.2.1
  exact ⟨ne_exa F.1 E hC, (ne_arr E w A).symm⟩
theorem own_LS.keepO {b : Addr} {k : Nat} {C : String} (F : own_LS Z h vm K) (kp : Keep h h' [b]) (E : Exa Z h b C) (hC : "java/lang/String" ≠ C) (w : (Cond.instantiable C k).before a0 Z = true) : own_LS Z h' vm K := by
  obtain ⟨Ts, I, hT, hK⟩ := F
  refine ⟨Ts, I, hT, fun k hk => ?_⟩
  rcases hK k hk with q | ⟨a, t, q1, q2⟩
  · exact Or.inl q
  · obtain ⟨n1, n2⟩ := own_LatO q2 E hC w
    exact Or.inr ⟨a, t, q1, q2.keep kp (ninS n1 nin0) (ninS n2 nin0)⟩
theorem own_LS.ofvm (F : own_LS Z h vm K) (e : v1 = vm) : own_LS Z h v1 K := e ▸ F
set_option maxRecDepth 100000 in
theorem own_byteI : ∀ n : Nat, n < 256 → Jvm.Lit.byteI n.toUInt16 = (n.toInt32).toInt8.toInt32 := by decide +kernel
theorem own_txv {text : String} (h : ∀ c ∈ text.toList, c.toNat < 256) (i : Nat) (hi : i < text.toList.length) : (text.toList.map (fun c => Value.int (Jvm.Lit.byteI c.toNat.toUInt16))).getD i (.int 0) = .int ((own_tx text i).toInt8.toInt32) := by
  have q := h (text.toList[i]) (List.getElem_mem hi)
  simp only [List.getD_eq_getElem?_getD, List.getElem?_map, List.getElem?_eq_getElem hi, Option.map_some, Option.getD_some, own_tx]
  rw [own_byteI _ q]
theorem own_txr {text : String} (h : ∀ c ∈ text.toList, c.toNat < 256) (i : Nat) (hi : i < text.toList.length) : 0 ≤ (own_tx text i).toInt ∧ (own_tx text i).toInt ≤ 255 := by
  have q := h (text.toList[i]) (List.getElem_mem hi)
  simp only [own_tx, List.getD_eq_getElem?_getD, List.getElem?_eq_getElem hi, Option.getD_some]
  have := len_toInt (n := (text.toList[i]).toNat) (by omega)
  rw [this]; omega
theorem own_frm {n0 n1 : Nat} {L : List Loc} (h : n0 ≤ n1) (N : Fr n1 L) : Fr n0 L := fun y hy => Nat.le_trans h (N y hy)
/-- a literal is loaded -/
theorem own_ldL (X : Stand p l e R s m args below meth c T locs cells slots) (hx : p.tables.exec = Jvm.exec) (hZ : Z.Warmed39 s.vm) {own text : String} {index : Nat} (hown : s.vm.findClass own = some m.cls) (w : (Cond.stringLink own index text).before a0 Z = true) (wS : ∀ a ∈ Bundle.stringAtoms, a.before a0 Z = true)
    (eT : T.heap = h) (N : Fr s.heap.size locs) (hkeep : ∀ (b : Addr) (cl : Cell), Z.heap[b]? = some cl → s.heap[b]? = some cl) (F : own_LS Z h s.vm K) (hk : (own, index, text) ∈ K) (huq : ∀ k ∈ K, k.2.2 = text → k = (own, index, text)) (hh : Jvm.Lit.constHeld Z own index) (hcw : Jvm.Lit.compactW.before a0 Z = true)
    (ht : ∀ c ∈ text.toList, c.toNat < 256) {n : Nat} (hn : text.toList.length = n) (hlen : n < 134217728) {pc : Nat} {Ls : Array Slot} {rest : List Value} (hd : decode c.code pc = .ok (.ldc index, 2)) (hc : cells + 2 ≤ R.cells) (hl' : slots + (4 * n + 4) ≤ R.slots) (hsub : ∀ x ∈ K.map (fun k => k.2.2), x ∈ Q.2)
    (k : ∀ (a t : Addr) (T' : State) (h' : Heap) (s' : State), Stand p l e R s' m args below meth c T' locs (cells + 2) (slots + (4 * n + 4)) → Z.Warmed39 s'.vm → s'.vm.findClass own = some m.cls → T'.heap = h' → Ext h h' → s'.heap = s.heap → own_LS Z h' s'.vm K → Lit s' own index a →
      own_Lat Z h' a t n (own_tx text) → own_Ends p e below s' Q kc kn (T'.setTop (mkF m (pc + 2) Ls (.ref a :: rest)))) :
    own_Ends p e below s Q kc kn (T.setTop (mkF m pc Ls rest)) := by
  subst hn
  obtain ⟨Ts, I, hT, hK⟩ := F
  rcases hK _ hk with q | ⟨a, t, q1, q2⟩
  · have e1 : ((text.toList.length.toInt32)).toInt = (text.toList.length : Int) := len_toInt (by omega)
    have e2 := own_clamp e1
    refine own_ldc X hx hZ hown w wS eT N hkeep I q hh hcw (z := text.toList.length.toInt32) ⟨ht, rfl⟩ e2.1 (by rw [e2.2]; simp) hd (n := 4 * text.toList.length) (Nat.le_refl _) (by omega) hc hl' (fun x hx => ?_) ?_
    · rcases List.mem_cons.mp hx with rfl | hx
      · exact hsub _ (List.mem_map.mpr ⟨_, hk, rfl⟩)
      · exact hsub _ (hT x hx)
    · intro a T' h' s' b kk X' hZ' hown' e' E' hhp hvm hW I' L' x1 x2 x3 x4
      have A := own_ofArv x4 e2.2 (by omega)
      have Lt : own_Lat Z h' a b text.toList.length (own_tx text) := ⟨x1, x3, x2, A.congr fun i hi => own_txv ht i hi, own_txr ht⟩
      refine k a b T' h' s' X' hZ' hown' e' E' hhp ⟨text :: Ts, I', fun x hx => ?_, fun k hk' => ?_⟩ L' Lt
      · rcases List.mem_cons.mp hx with rfl | hx
        · exact List.mem_map.mpr ⟨_, hk, rfl⟩
        · exact hT x hx
      · by_cases z : k.2.2 = text
        · have := huq k hk' z
          subst this
          exact Or.inr ⟨a, b, L', Lt⟩
        · rcases hK k hk' with y | ⟨a', t', y1, y2⟩
          · exact Or.inl fun w => by
              rcases List.mem_cons.mp w with w | w
              · exact z w
              · exact y w
          · exact Or.inr ⟨a', t', State.resolvedAt?_warmed39 (s := s) hW y1, y2.ext E'⟩
  · exact own_ldcA X hx hZ hown w q1 hd (k a t T h s (own_SmonoW X (by omega) (by omega)) hZ hown eT ⟨Nat.le_refl _, fun _ _ q => q⟩ rfl ⟨Ts, I, hT, hK⟩ q1 q2)
end OwnLS
theorem own_ANe {Z : State} {h : Heap} {a0 : Array Value} {t x : Addr} {ty : FieldType} {n k : Nat} {f : Nat → Value} {C : String} (F : own_A Z h t ty n f) (E : Exa Z h x C) (w : (Cond.instantiable C k).before a0 Z = true) : t ≠ x := by
  obtain ⟨_, cl, A, -⟩ := F
  exact (ne_arr E w A).symm
theorem own_LS.keepN {Z : State} {h h' : Heap} {a0 : Array Value} {vm : Vm} {K : List (String × Nat × String)} {x : Addr} {k : Nat} (F : own_LS Z h vm K) (kp : Keep h h' [x]) (E : Exa Z h x "java/lang/String") (G : Fld Z h x "java/lang/String" "value" "[B" .null) (w : (Cond.instantiable "java/lang/String" k).before a0 Z = true) : own_LS Z h' vm K := by
  obtain ⟨Ts, I, hT, hK⟩ := F
  refine ⟨Ts, I, hT, fun k hk => ?_⟩
  rcases hK k hk with q | ⟨a, t, q1, q2⟩
  · exact Or.inl q
  · exact Or.inr ⟨a, t, q1, q2.keep kp (ninS (Fld.ne q2.2.1 G (fun z => by cases z)) nin0) (ninS (own_ANe q2.2.2.2.1 E w) nin0)⟩
def own_ub (f : Nat → Int32) (j : Nat) : Int32 := if j % 2 = 0 then (((f (j / 2)) >>> ((0 : Int32) &&& 31)).toInt8.toInt32) else (((f (j / 2)) >>> ((8 : Int32) &&& 31)).toInt8.toInt32)
def own_Str (Z : State) (h : Heap) (x : Addr) (n : Nat) (f : Nat → Int32) : Prop := ∃ t : Nat, Exa Z h x "java/lang/String" ∧ Fld Z h x "java/lang/String" "value" "[B" (.ref t) ∧ (∀ i, i < n → 0 ≤ (f i).toInt ∧ (f i).toInt ≤ 65535) ∧
  ((Fld Z h x "java/lang/String" "coder" "B" (.int 0) ∧ own_A Z h t .byte n (fun i => .int ((f i).toInt8.toInt32)) ∧ ∀ i, i < n → 0 ≤ (f i).toInt ∧ (f i).toInt ≤ 255) ∨ (Fld Z h x "java/lang/String" "coder" "B" (.int 1) ∧ own_A Z h t .byte (2 * n) (fun i => .int (own_ub f i))))
theorem own_Str.keep {Z : State} {h h' : Heap} {x : Addr} {n : Nat} {f : Nat → Int32} {ws : List Addr} (F : own_Str Z h x n f) (K : Keep h h' ws) (q : ∀ y ∈ ws, h.size ≤ y) : own_Str Z h' x n f := by
  obtain ⟨t, E, V, B, C⟩ := F
  have nx : ∀ {z : Addr}, z < h.size → z ∉ ws := fun {z} hz hm => absurd hz (Nat.not_lt.mpr (q z hm))
  refine ⟨t, E.keep K, V.keep K (nx E.lt), B, ?_⟩
  rcases C with ⟨c, A, r⟩ | ⟨c, A⟩
  · exact Or.inl ⟨c.keep K (nx E.lt), A.keep K (nx A.lt), r⟩
  · exact Or.inr ⟨c.keep K (nx E.lt), A.keep K (nx A.lt)⟩
theorem own_get16 {c : Int32} (h : 0 ≤ c.toInt ∧ c.toInt ≤ 65535) : (((((c >>> ((0 : Int32) &&& 31)).toInt8.toInt32 &&& (255 : Int32)) <<< ((0 : Int32) &&& 31)) ||| (((c >>> ((8 : Int32) &&& 31)).toInt8.toInt32 &&& (255 : Int32)) <<< ((8 : Int32) &&& 31))).toUInt32.toUInt16.toUInt32.toInt32) = c := by
  have a1 := c_ishr c 0 0 (by decide)
  have a2 := c_i2b (c >>> ((0 : Int32) &&& 31))
  have a3 := c_mask (c >>> ((0 : Int32) &&& 31)).toInt8.toInt32 255 8 (by decide) (by decide)
  have a4 := c_ishl ((c >>> ((0 : Int32) &&& 31)).toInt8.toInt32 &&& (255 : Int32)) 0 0 (by decide)
  have b1 := c_ishr c 8 8 (by decide)
  have b2 := c_i2b (c >>> ((8 : Int32) &&& 31))
  have b3 := c_mask (c >>> ((8 : Int32) &&& 31)).toInt8.toInt32 255 8 (by decide) (by decide)
  have b4 := c_ishl ((c >>> ((8 : Int32) &&& 31)).toInt8.toInt32 &&& (255 : Int32)) 8 8 (by decide)
  generalize (c >>> ((0 : Int32) &&& 31)).toInt8.toInt32 &&& (255 : Int32) = p0 at *
  generalize (c >>> ((8 : Int32) &&& 31)).toInt8.toInt32 &&& (255 : Int32) = p1 at *
  have r0 := rng32 (p0 <<< ((0 : Int32) &&& 31))
  have r1 := rng32 (p1 <<< ((8 : Int32) &&& 31))
  generalize p0 <<< ((0 : Int32) &&& 31) = q0 at *
  generalize p1 <<< ((8 : Int32) &&& 31) = q1 at *
  simp only [Nat.reducePow] at a1 a3 a4 b1 b3 b4
  have o := c_or' q0 q1 8 (by decide) 256 (by decide) (by omega) (by omega) (by omega)
  have ro := rng32 (q0 ||| q1)
  have e := c_i2c (q0 ||| q1)
  rw [← Int32.toInt_inj]
  omega
theorem own_ub0 (f : Nat → Int32) (i : Nat) : own_ub f (2 * i) = (((f i) >>> ((0 : Int32) &&& 31)).toInt8.toInt32) := by
  have q1 : 2 * i % 2 = 0 := by omega
  have q2 : 2 * i / 2 = i := by omega
  simp only [own_ub, q1, q2, if_true]
theorem own_ub1 (f : Nat → Int32) (i : Nat) : own_ub f (2 * i + 1) = (((f i) >>> ((8 : Int32) &&& 31)).toInt8.toInt32) := by
  have q1 : ¬ (2 * i + 1) % 2 = 0 := by omega
  have q2 : (2 * i + 1) / 2 = i := by omega
  simp only [own_ub, q1, q2, if_false]
theorem own_shl1 {j : Int32} {k n : Nat} (hj : j.toInt = (k : Int)) (hk : k < n) (hn : 2 * n < 2 ^ 31) : (j <<< ((1 : Int32) &&& 31)).toInt = ((2 * k : Nat) : Int) := by
  have h := c_ishl j 1 1 (by decide)
  have r := rng32 (j <<< ((1 : Int32) &&& 31))
  simp only [Nat.reducePow] at h
  omega
theorem own_shl1' {j : Int32} {n : Nat} (hj : j.toInt = (n : Int)) (hn : 2 * n < 2 ^ 31) : (j <<< ((1 : Int32) &&& 31)).toInt = ((2 * n : Nat) : Int) := by
  have h := c_ishl j 1 1 (by decide)
  have r := rng32 (j <<< ((1 : Int32) &&& 31))
  simp only [Nat.reducePow] at h
  omega
theorem own_add1 {j : Int32} {k : Nat} (hj : j.toInt = (k : Int)) (hn : k + 1 < 2 ^ 31) : (j + (1 : Int32)).toInt = ((k + 1 : Nat) : Int) := by
  have h := c_iadd j 1
  have r := rng32 (j + 1)
  simp only [Int32.reduceToInt] at h
  omega
theorem own_half {n : Nat} {nn : Int32} (hn : nn.toInt = (n : Int)) (h2 : 2 * n < 2 ^ 31) : ((2 * n).toInt32 >>> ((1 : Int32) &&& 31)) = nn := by
  have h := c_ishr (2 * n).toInt32 1 1 (by decide)
  rw [len_toInt h2] at h
  rw [← Int32.toInt_inj, h, hn]
  simp only [Nat.reducePow]
  omega
theorem own_neg31 {n : Nat} {nn : Int32} (hn : nn.toInt = (n : Int)) (h1 : 0 < n) (h2 : 2 * n < 2 ^ 31) : (((nn - (2 * n).toInt32).toUInt32 >>> ((31 : Int32) &&& 31).toUInt32).toInt32).toInt8.toInt32 = (1 : Int32) := by
  have a := c_isub nn (2 * n).toInt32
  have r := rng32 (nn - (2 * n).toInt32)
  rw [len_toInt h2, hn] at a
  have b := c_iushr (nn - (2 * n).toInt32) 31 31 (by decide) (by decide)
  generalize nn - (2 * n).toInt32 = d at *
  simp only [Nat.reducePow] at b
  have e : ((d.toUInt32 >>> ((31 : Int32) &&& 31).toUInt32).toInt32) = 1 := by
    rw [← Int32.toInt_inj, b]
    simp only [Int32.reduceToInt]
    omega
  rw [e]; decide
theorem own_lat {x : Int32} (h : 0 ≤ x.toInt ∧ x.toInt ≤ 255) : ((x.toInt8.toInt32 &&& (255 : Int32)).toUInt32.toUInt16.toUInt32.toInt32) = x := by
  have a := c_i2b x
  have b := c_mask x.toInt8.toInt32 255 8 (by decide) (by decide)
  generalize x.toInt8.toInt32 &&& (255 : Int32) = y at *
  have e := c_i2c y
  simp only [Nat.reducePow] at b
  rw [← Int32.toInt_inj]
  omega
theorem own_narR {x : Int32} (h : 0 ≤ x.toInt ∧ x.toInt ≤ 65535) : narrow .char (.int x) = .int x := congrArg Value.int (own_narC h)
theorem own_narI (x : Int32) : narrow .char (.int x.toUInt32.toUInt16.toUInt32.toInt32) = .int x.toUInt32.toUInt16.toUInt32.toInt32 := own_narR (by have := c_i2c x; omega)
theorem own_put {g g1 g2 : Nat → Int32} {k : Nat} {x y : Int32} (h1 : g1 = fun q => if q = 2 * k then x else g q) (h2 : g2 = fun q => if q = 2 * k + 1 then y else g1 q) : ∀ i, g2 i = if i = 2 * k + 1 then y else if i = 2 * k then x else g i := by
  intro i; rw [h2, h1]
theorem own_n0 {nn : Int32} {n : Nat} (hn : nn.toInt = (n : Int)) : ¬ nn < (0 : Int32) := by rw [Int32.lt_iff_toInt_lt, Int32.toInt_zero]; omega
theorem own_n1 {nn : Int32} {n : Nat} (hn : nn.toInt = (n : Int)) (h : n < 1000000) : nn < (1073741823 : Int32) := by rw [Int32.lt_iff_toInt_lt]; simp only [Int32.reduceToInt]; omega
theorem own_ubs {f g g2 : Nat → Int32} {k : Nat} (hg : ∀ i, i < 2 * k → g i = own_ub f i) (h2 : ∀ i, g2 i = if i = 2 * k + 1 then (((f k) >>> ((8 : Int32) &&& 31)).toInt8.toInt32) else if i = 2 * k then (((f k) >>> ((0 : Int32) &&& 31)).toInt8.toInt32) else g i) : ∀ i, i < 2 * (k + 1) → g2 i = own_ub f i := by
  intro i hi
  rw [h2]
  by_cases q1 : i = 2 * k + 1
  · rw [if_pos q1, q1, own_ub1]
  · rw [if_neg q1]
    by_cases q2 : i = 2 * k
    · rw [if_pos q2, q2, own_ub0]
    · rw [if_neg q2]; exact hg i (by omega)
theorem own_gt255 {x : Int32} (h : (255 : Int32) < x) : 255 < x.toInt := by rw [Int32.lt_iff_toInt_lt] at h; simpa only [Int32.reduceToInt] using h
theorem own_lstep {f : Nat → Int32} {k : Nat} (hl : ∀ i, i < k → (f i).toInt ≤ 255) (h : ¬ (255 : Int32) < f k) : ∀ i, i < k + 1 → (f i).toInt ≤ 255 := by
  intro i hi
  by_cases q : i = k
  · subst q; rw [Int32.lt_iff_toInt_lt] at h; simp only [Int32.reduceToInt] at h; omega
  · exact hl i (by omega)
theorem own_jne {j nn : Int32} {k n : Nat} (hj : j.toInt = (k : Int)) (hn : nn.toInt = (n : Int)) (h : k < n) : ¬ j = nn := by rw [← Int32.toInt_inj]; omega
theorem own_jeq {j nn : Int32} {n : Nat} (hj : j.toInt = (n : Int)) (hn : nn.toInt = (n : Int)) : j = nn := by rw [← Int32.toInt_inj]; omega
theorem own_255 {x : Int32} (h : 255 < x.toInt) : (255 : Int32) < x := by rw [Int32.lt_iff_toInt_lt]; simpa only [Int32.reduceToInt] using h
theorem own_nz {nn : Int32} {n : Nat} (hn : nn.toInt = (n : Int)) (hp : 0 < n) : ¬ nn = (0 : Int32) := by rw [← Int32.toInt_inj, Int32.toInt_zero]; omega
abbrev own_K0 : List (String × Nat × String) := [("java/lang/String", 7, "")]
theorem own_uq0 : ∀ k ∈ own_K0, k.2.2 = "" → k = ("java/lang/String", 7, "") := by
  intro k hk
  simp only [own_K0, List.mem_cons, List.not_mem_nil, or_false] at hk
  rcases hk with rfl <;> simp
theorem own_lt1 {i : Nat} (h : i < 1) : i = 0 := by omega
theorem own_lt2 {i : Nat} (h : i < 2) : i = 0 ∨ i = 1 := by omega
theorem own_lt3 {i : Nat} (h : i < 3) : i = 0 ∨ i = 1 ∨ i = 2 := by omega
abbrev own_pr (f : Nat → Int32) (n i : Nat) : Prop := 55296 ≤ (f i).toInt ∧ (f i).toInt ≤ 56319 ∧ i + 1 < n ∧ 56320 ≤ (f (i + 1)).toInt ∧ (f (i + 1)).toInt ≤ 57343
def own_cpt (f : Nat → Int32) (n i : Nat) : Int32 := if own_pr f n i then (((((f i) - (55296 : Int32)) <<< ((10 : Int32) &&& 31)) + ((f (i + 1)) - (56320 : Int32))) + (65536 : Int32)) else f i
def own_wd (f : Nat → Int32) (n i : Nat) : Nat := if own_pr f n i then 2 else 1
def own_wi (f : Nat → Int32) (n i : Nat) : Int32 := if own_pr f n i then 2 else 1
theorem own_r1' {P : Prop} {r : Int32} (h : (r = 1 ∧ P) ∨ (r = 0 ∧ ¬ P)) (h0 : ¬ r = 0) : P := by rcases h with ⟨-, h⟩ | ⟨h, -⟩; exact h; exact absurd h h0
theorem own_r0' {P : Prop} {r : Int32} (h : (r = 1 ∧ P) ∨ (r = 0 ∧ ¬ P)) (h0 : r = 0) : ¬ P := by rcases h with ⟨h, -⟩ | ⟨-, h⟩; rw [h0] at h; exact absurd h (by decide); exact h
theorem own_ltI {p nn : Int32} {k n : Nat} (hp : p.toInt = (k : Int)) (hn : nn.toInt = (n : Int)) : p < nn ↔ k < n := by rw [Int32.lt_iff_toInt_lt]; omega
theorem own_k1i {j nn : Int32} {k n : Nat} (hj : j.toInt = (k : Int)) (hn : nn.toInt = (n : Int)) (h : k + 1 < 2 ^ 31) : j + (1 : Int32) < nn ↔ k + 1 < n := own_ltI (own_add1 hj h) hn
theorem own_wd12 (f : Nat → Int32) (n i : Nat) : (own_wd f n i = 1 ∨ (own_wd f n i = 2 ∧ i + 1 < n)) := by
  unfold own_wd
  by_cases h : own_pr f n i
  · rw [if_pos h]; exact Or.inr ⟨rfl, h.2.2.1⟩
  · rw [if_neg h]; exact Or.inl rfl
theorem own_wiI (f : Nat → Int32) (n i : Nat) : (own_wi f n i).toInt = (own_wd f n i : Int) := by
  unfold own_wd own_wi; split <;> rfl
theorem own_addw {j : Int32} {k : Nat} (f : Nat → Int32) (n i : Nat) (hj : j.toInt = (k : Int)) (hk : k < 2 ^ 31 - 2) : (j + own_wi f n i).toInt = ((k + own_wd f n i : Nat) : Int) := by
  have h := c_iadd j (own_wi f n i)
  have r := rng32 (j + own_wi f n i)
  have w := own_wd12 f n i
  rw [own_wiI, hj] at h
  omega
theorem own_cpv (f : Nat → Int32) (n i : Nat) (h0 : 0 ≤ (f i).toInt ∧ (f i).toInt ≤ 65535) : ((own_cpt f n i).toInt < 65536 ↔ own_wd f n i = 1) := by
  unfold own_cpt own_wd
  by_cases h : own_pr f n i
  · rw [if_pos h, if_pos h]
    obtain ⟨a1, a2, -, a3, a4⟩ := h
    have b1 := c_isub (f i) (55296 : Int32)
    have r1 := rng32 ((f i) - (55296 : Int32))
    have b2 := c_isub (f (i + 1)) (56320 : Int32)
    have r2 := rng32 ((f (i + 1)) - (56320 : Int32))
    simp only [Int32.reduceToInt] at b1 b2
    generalize (f i) - (55296 : Int32) = d1 at *
    generalize (f (i + 1)) - (56320 : Int32) = d2 at *
    have b3 := c_ishl d1 10 10 (by decide)
    have r3 := rng32 (d1 <<< ((10 : Int32) &&& 31))
    simp only [Nat.reducePow] at b3
    generalize d1 <<< ((10 : Int32) &&& 31) = d3 at *
    have b4 := c_iadd d3 d2
    have r4 := rng32 (d3 + d2)
    generalize d3 + d2 = d4 at *
    have b5 := c_iadd d4 (65536 : Int32)
    have r5 := rng32 (d4 + (65536 : Int32))
    simp only [Int32.reduceToInt] at b5
    generalize d4 + (65536 : Int32) = d5 at *
    omega
  · rw [if_neg h, if_neg h]; omega
theorem own_ccw {f : Nat → Int32} {n i : Nat} {r : Int32} (h0 : 0 ≤ (f i).toInt ∧ (f i).toInt ≤ 65535) (hr : r = if own_cpt f n i < (65536 : Int32) then 1 else 2) : r = own_wi f n i := by
  have h := own_cpv f n i h0
  rw [hr]
  unfold own_wi
  unfold own_wd at h
  by_cases q : own_pr f n i
  · rw [if_pos q] at h ⊢
    rw [if_neg]
    rw [Int32.lt_iff_toInt_lt]; simp only [Int32.reduceToInt]; omega
  · rw [if_neg q] at h ⊢
    rw [if_pos]
    rw [Int32.lt_iff_toInt_lt]; simp only [Int32.reduceToInt]; omega
theorem own_tcp {c d : Int32} : (((c <<< ((10 : Int32) &&& 31)) + d) + (-56613888 : Int32)) = ((((c - (55296 : Int32)) <<< ((10 : Int32) &&& 31)) + (d - (56320 : Int32))) + (65536 : Int32)) := by
  have a1 := c_ishl c 10 10 (by decide)
  have a2 := c_iadd (c <<< ((10 : Int32) &&& 31)) d
  have a3 := c_iadd ((c <<< ((10 : Int32) &&& 31)) + d) (-56613888)
  have r1 := rng32 (((c <<< ((10 : Int32) &&& 31)) + d) + (-56613888 : Int32))
  have b1 := c_isub c (55296 : Int32)
  have b2 := c_isub d (56320 : Int32)
  have b3 := c_ishl (c - (55296 : Int32)) 10 10 (by decide)
  have b4 := c_iadd ((c - (55296 : Int32)) <<< ((10 : Int32) &&& 31)) (d - (56320 : Int32))
  have b5 := c_iadd (((c - (55296 : Int32)) <<< ((10 : Int32) &&& 31)) + (d - (56320 : Int32))) (65536 : Int32)
  have r2 := rng32 ((((c - (55296 : Int32)) <<< ((10 : Int32) &&& 31)) + (d - (56320 : Int32))) + (65536 : Int32))
  simp only [Nat.reducePow, Int32.reduceToInt] at a1 a3 b1 b2 b3 b5
  rw [← Int32.toInt_inj]
  generalize (((c - (55296 : Int32)) <<< ((10 : Int32) &&& 31)) + (d - (56320 : Int32))) + (65536 : Int32) = e5 at *
  generalize ((c - (55296 : Int32)) <<< ((10 : Int32) &&& 31)) + (d - (56320 : Int32)) = e4 at *
  generalize (c - (55296 : Int32)) <<< ((10 : Int32) &&& 31) = e3 at *
  generalize c - (55296 : Int32) = e1 at *
  generalize d - (56320 : Int32) = e2 at *
  generalize ((c <<< ((10 : Int32) &&& 31)) + d) + (-56613888 : Int32) = u3 at *
  generalize (c <<< ((10 : Int32) &&& 31)) + d = u2 at *
  generalize c <<< ((10 : Int32) &&& 31) = u1 at *
  omega
theorem own_lat2 {x : Int32} (h : 0 ≤ x.toInt ∧ x.toInt ≤ 255) : (x.toInt8.toInt32 &&& (255 : Int32)) = x := by
  have a := c_i2b x
  have b := c_mask x.toInt8.toInt32 255 8 (by decide) (by decide)
  simp only [Nat.reducePow] at b
  rw [← Int32.toInt_inj]
  omega
theorem own_cpl {f : Nat → Int32} {n k : Nat} (h : (f k).toInt ≤ 55295) : own_cpt f n k = f k := if_neg fun q => by have := q.1; omega
theorem own_sh0 {n : Nat} {nn : Int32} (hn : nn.toInt = (n : Int)) : (n.toInt32 >>> ((0 : Int32) &&& 31)) = nn := by
  have h := c_ishr n.toInt32 0 0 (by decide)
  rw [own_n32 hn] at h ⊢
  rw [← Int32.toInt_inj, h]
  simp
def own_cm (x y : Int32) : Int32 := if x < y then (-1) else if y < x then 1 else 0
theorem own_cmE {x y : Int32} (h : x = y) : own_cm x y = 0 := by subst h; simp [own_cm, Int32.lt_irrefl]
theorem own_cmG {x y : Int32} (h : ¬ x < y) (h' : ¬ x = y) : own_cm x y = 1 := by
  unfold own_cm
  rw [if_neg h, if_pos]
  rw [← Int32.toInt_inj] at h'
  rw [Int32.lt_iff_toInt_lt] at h ⊢
  omega
theorem own_cmI {a b c d : Int32} (h1 : a.toInt < b.toInt ↔ c.toInt < d.toInt) (h2 : b.toInt < a.toInt ↔ d.toInt < c.toInt) : own_cm a b = own_cm c d := by
  unfold own_cm
  simp only [Int32.lt_iff_toInt_lt, h1, h2]
theorem own_cm3 (x y : Int32) : own_cm x y = -1 ∨ own_cm x y = 0 ∨ own_cm x y = 1 := by
  unfold own_cm
  by_cases h : x < y
  · rw [if_pos h]; exact Or.inl rfl
  · rw [if_neg h]
    by_cases k : y < x
    · rw [if_pos k]; exact Or.inr (Or.inr rfl)
    · rw [if_neg k]; exact Or.inr (Or.inl rfl)
theorem own_e10 : ((1 : Int32) = 0) = False := eq_false (by decide)
theorem own_e20 : ((2 : Int32) = 0) = False := eq_false (by decide)
theorem own_e21 : ((2 : Int32) = 1) = False := eq_false (by decide)
def own_lex (x : Nat → Int32) (p : Int32) (y : Nat → Int32) (q : Int32) : Int32 := if p = 0 ∨ q = 0 then own_cm p q else if x 0 = y 0 then (if p = 1 ∨ q = 1 then own_cm p q else if x 1 = y 1 then (if p = 2 ∨ q = 2 then own_cm p q else if x 2 = y 2 then own_cm p q else own_cm (x 2) (y 2)) else own_cm (x 1) (y 1)) else own_cm (x 0) (y 0)
def own_cr (f g : Nat → Int32) (n m : Nat) (nn mm : Int32) : Nat → Nat → Int32
  | 0, _ => own_cm nn mm
  | r + 1, k => if k < n ∧ k < m then (if own_cpt f n k = own_cpt g m k then own_cr f g n m nn mm r (k + own_wd f n k) else own_cm (own_cpt f n k) (own_cpt g m k)) else own_cm nn mm
section OwnCr
variable {f g : Nat → Int32} {n m : Nat} {nn mm : Int32} {r k : Nat} {R0 : Int32}
theorem own_cr_stop (hR : own_cr f g n m nn mm r k = R0) (h : ¬ (k < n ∧ k < m)) : own_cm nn mm = R0 := by
  cases r with
  | zero => exact hR
  | succ r => rw [own_cr, if_neg h] at hR; exact hR
theorem own_cr_ne (hR : own_cr f g n m nn mm (r + 1) k = R0) (h : k < n ∧ k < m) (hne : ¬ own_cpt f n k = own_cpt g m k) : own_cm (own_cpt f n k) (own_cpt g m k) = R0 := by
  rw [own_cr, if_pos h, if_neg hne] at hR; exact hR
theorem own_cr_eq (hR : own_cr f g n m nn mm (r + 1) k = R0) (h : k < n ∧ k < m) (he : own_cpt f n k = own_cpt g m k) : own_cr f g n m nn mm r (k + own_wd f n k) = R0 := by
  rw [own_cr, if_pos h, if_pos he] at hR; exact hR
theorem own_wcp (h0 : 0 ≤ (f k).toInt ∧ (f k).toInt ≤ 65535) (h1 : 0 ≤ (g k).toInt ∧ (g k).toInt ≤ 65535) (he : own_cpt f n k = own_cpt g m k) : own_wd f n k = own_wd g m k := by
  have a := own_cpv f n k h0
  have b := own_cpv g m k h1
  rw [he] at a
  have c := own_wd12 f n k
  have d := own_wd12 g m k
  omega
end OwnCr
def own_q1 (f : Nat → Int32) (n : Nat) : Nat := 0 + own_wd f n 0
def own_q2 (f : Nat → Int32) (n : Nat) : Nat := own_q1 f n + own_wd f n (own_q1 f n)
def own_q3 (f : Nat → Int32) (n : Nat) : Nat := own_q2 f n + own_wd f n (own_q2 f n)
def own_dc (f : Nat → Int32) (n : Nat) (kk : Int32) (x : Nat → Int32) : Prop := (n = 0 ∧ kk = 0) ∨ (0 < n ∧ ¬ own_q1 f n < n ∧ kk = 1 ∧ x 0 = own_cpt f n 0) ∨ (0 < n ∧ own_q1 f n < n ∧ ¬ own_q2 f n < n ∧ kk = 2 ∧ x 0 = own_cpt f n 0 ∧ x 1 = own_cpt f n (own_q1 f n)) ∨ (0 < n ∧ own_q1 f n < n ∧ own_q2 f n < n ∧ kk = 3 ∧ x 0 = own_cpt f n 0 ∧ x 1 = own_cpt f n (own_q1 f n) ∧ x 2 = own_cpt f n (own_q2 f n))
theorem own_dcF {f : Nat → Int32} {n : Nat} {kk : Int32} {x : Nat → Int32} (h : own_dc f n kk x) : ∃ c : Nat, kk.toInt = (c : Int) ∧ (c = 0 ↔ n = 0) ∧ c ≤ 3 ∧ (0 < n → x 0 = own_cpt f n 0) ∧ (2 ≤ c ↔ 0 < n ∧ own_q1 f n < n) ∧ (2 ≤ c → x 1 = own_cpt f n (own_q1 f n)) ∧ (3 ≤ c ↔ 0 < n ∧ own_q1 f n < n ∧ own_q2 f n < n) ∧ (3 ≤ c → x 2 = own_cpt f n (own_q2 f n)) := by
  rcases h with ⟨a, rfl⟩ | ⟨a, b, rfl, e0⟩ | ⟨a, b, c, rfl, e0, e1⟩ | ⟨a, b, c, rfl, e0, e1, e2⟩
  · exact ⟨0, rfl, by omega, by omega, by omega, by omega, by omega, by omega, by omega⟩
  · exact ⟨1, rfl, by omega, by omega, fun _ => e0, by omega, by omega, by omega, by omega⟩
  · exact ⟨2, rfl, by omega, by omega, fun _ => e0, by omega, fun _ => e1, by omega, by omega⟩
  · exact ⟨3, rfl, by omega, by omega, fun _ => e0, by omega, fun _ => e1, by omega, fun _ => e2⟩
theorem own_zI {p : Int32} {c k : Nat} {z : Int32} (h : p.toInt = (c : Int)) (hz : z.toInt = (k : Int)) : p = z ↔ c = k := by rw [← Int32.toInt_inj]; omega
theorem own_stopN {c d n m q k : Nat} (h1 : k ≤ c) (h2 : k ≤ d) (c2 : k + 1 ≤ c ↔ q < n) (d2 : k + 1 ≤ d ↔ q < m) (hn : q ≤ n) (hm : q ≤ m) (h : ¬ (q < n ∧ q < m)) : (c = k ∨ d = k) ∧ (n < m ↔ c < d) ∧ (m < n ↔ d < c) := by
  by_cases a : q < n
  · have := c2.mpr a
    have b : ¬ q < m := fun b => h ⟨a, b⟩
    have e : ¬ k + 1 ≤ d := fun z => b (d2.mp z)
    omega
  · have e : ¬ k + 1 ≤ c := fun z => a (c2.mp z)
    by_cases b : q < m
    · have := d2.mpr b
      omega
    · have e2 : ¬ k + 1 ≤ d := fun z => b (d2.mp z)
      omega
theorem own_cmN {nn mm p q : Int32} {n m c d : Nat} (hn : nn.toInt = (n : Int)) (hm : mm.toInt = (m : Int)) (hc : p.toInt = (c : Int)) (hd : q.toInt = (d : Int)) (h1 : n < m ↔ c < d) (h2 : m < n ↔ d < c) : own_cm nn mm = own_cm p q := own_cmI (by rw [hn, hm, hc, hd]; omega) (by rw [hn, hm, hc, hd]; omega)
theorem own_qle {f : Nat → Int32} {n i : Nat} (h : i < n) : i + own_wd f n i ≤ n ∧ i + 1 ≤ i + own_wd f n i := by
  have := own_wd12 f n i
  omega
theorem own_main {f g : Nat → Int32} {n m : Nat} {nn mm p q : Int32} {x y : Nat → Int32} (hn : nn.toInt = (n : Int)) (hm : mm.toInt = (m : Int)) (hn3 : n ≤ 3) (hm3 : m ≤ 3) (hf : ∀ i, i < 3 → 0 ≤ (f i).toInt ∧ (f i).toInt ≤ 65535) (hg : ∀ i, i < 3 → 0 ≤ (g i).toInt ∧ (g i).toInt ≤ 65535) (hx : own_dc f n p x) (hy : own_dc g m q y) : own_cr f g n m nn mm 3 0 = own_lex x p y q := by
  obtain ⟨c, hc, c0, c3, x0, c2, x1, c4, x2⟩ := own_dcF hx
  obtain ⟨d, hd, d0, d3, y0, d2, y1, d4, y2⟩ := own_dcF hy
  clear hx hy
  have hp0 := own_zI hc (show (0 : Int32).toInt = ((0 : Nat) : Int) from rfl)
  have hp1 := own_zI hc (show (1 : Int32).toInt = ((1 : Nat) : Int) from rfl)
  have hp2 := own_zI hc (show (2 : Int32).toInt = ((2 : Nat) : Int) from rfl)
  have hq0 := own_zI hd (show (0 : Int32).toInt = ((0 : Nat) : Int) from rfl)
  have hq1 := own_zI hd (show (1 : Int32).toInt = ((1 : Nat) : Int) from rfl)
  have hq2 := own_zI hd (show (2 : Int32).toInt = ((2 : Nat) : Int) from rfl)
  have c1' : 0 + 1 ≤ c ↔ 0 < n := ⟨fun z => Nat.pos_of_ne_zero fun w => by rw [c0.mpr w] at z; exact absurd z (by decide), fun z => Nat.pos_of_ne_zero fun w => by rw [c0.mp w] at z; exact absurd z (by decide)⟩
  have d1' : 0 + 1 ≤ d ↔ 0 < m := ⟨fun z => Nat.pos_of_ne_zero fun w => by rw [d0.mpr w] at z; exact absurd z (by decide), fun z => Nat.pos_of_ne_zero fun w => by rw [d0.mp w] at z; exact absurd z (by decide)⟩
  unfold own_lex
  by_cases h0 : 0 < n ∧ 0 < m
  · have k1c := c1'.mpr h0.1
    have k1d := d1'.mpr h0.2
    rw [own_cr, if_pos h0, if_neg (show ¬ (p = 0 ∨ q = 0) from fun z => z.elim (fun z => by rw [hp0.mp z] at k1c; exact absurd k1c (by decide)) (fun z => by rw [hq0.mp z] at k1d; exact absurd k1d (by decide))), x0 h0.1, y0 h0.2]
    by_cases e0 : own_cpt f n 0 = own_cpt g m 0
    · rw [if_pos e0, if_pos e0]
      have k1 := own_wcp (hf 0 (by decide)) (hg 0 (by decide)) e0
      have E1 : own_q1 g m = own_q1 f n := by unfold own_q1; rw [k1]
      have l1 : own_q1 f n ≤ n ∧ 0 + 1 ≤ own_q1 f n := own_qle h0.1
      have l2 : own_q1 g m ≤ m ∧ 0 + 1 ≤ own_q1 g m := own_qle h0.2
      rw [E1] at l2 d2
      have c2' : 1 + 1 ≤ c ↔ own_q1 f n < n := ⟨fun z => (c2.mp z).2, fun z => c2.mpr ⟨h0.1, z⟩⟩
      have d2' : 1 + 1 ≤ d ↔ own_q1 f n < m := ⟨fun z => (d2.mp z).2, fun z => d2.mpr ⟨h0.2, z⟩⟩
      show own_cr f g n m nn mm 2 (own_q1 f n) = _
      by_cases h1 : own_q1 f n < n ∧ own_q1 f n < m
      · have k2c := c2'.mpr h1.1
        have k2d := d2'.mpr h1.2
        rw [own_cr, if_pos h1, if_neg (show ¬ (p = 1 ∨ q = 1) from fun z => z.elim (fun z => by rw [hp1.mp z] at k2c; exact absurd k2c (by decide)) (fun z => by rw [hq1.mp z] at k2d; exact absurd k2d (by decide))), x1 k2c, y1 k2d, E1]
        by_cases e1 : own_cpt f n (own_q1 f n) = own_cpt g m (own_q1 f n)
        · rw [if_pos e1, if_pos e1]
          have k2 := own_wcp (hf (own_q1 f n) (Nat.lt_of_lt_of_le h1.1 hn3)) (hg (own_q1 f n) (Nat.lt_of_lt_of_le h1.1 hn3)) e1
          have E2 : own_q2 g m = own_q2 f n := by unfold own_q2; rw [E1, k2]
          have m1 : own_q2 f n ≤ n ∧ own_q1 f n + 1 ≤ own_q2 f n := own_qle h1.1
          have m2 : own_q2 g m ≤ m ∧ own_q1 g m + 1 ≤ own_q2 g m := own_qle (by rw [E1]; exact h1.2)
          rw [E2, E1] at m2
          rw [E2] at d4
          rw [E1] at d4
          have c4' : 2 + 1 ≤ c ↔ own_q2 f n < n := ⟨fun z => (c4.mp z).2.2, fun z => c4.mpr ⟨h0.1, h1.1, z⟩⟩
          have d4' : 2 + 1 ≤ d ↔ own_q2 f n < m := ⟨fun z => (d4.mp z).2.2, fun z => d4.mpr ⟨h0.2, h1.2, z⟩⟩
          show own_cr f g n m nn mm 1 (own_q2 f n) = _
          by_cases h2 : own_q2 f n < n ∧ own_q2 f n < m
          · have k3c := c4'.mpr h2.1
            have k3d := d4'.mpr h2.2
            rw [own_cr, if_pos h2, if_neg (show ¬ (p = 2 ∨ q = 2) from fun z => z.elim (fun z => by rw [hp2.mp z] at k3c; exact absurd k3c (by decide)) (fun z => by rw [hq2.mp z] at k3d; exact absurd k3d (by decide))), x2 k3c, y2 k3d, E2]
            by_cases e2 : own_cpt f n (own_q2 f n) = own_cpt g m (own_q2 f n)
            · rw [if_pos e2, if_pos e2, own_cr]
              have hcd : c = d := by clear c0 c2 c4 d0 d2 d4 c1' d1' c2' d2' c4' d4'; omega
              have hnm : n = m := by clear c0 c2 c4 d0 d2 d4 c1' d1' c2' d2' c4' d4'; omega
              exact own_cmN hn hm hc hd (by rw [hcd, hnm]; exact ⟨fun z => absurd z (Nat.lt_irrefl _), fun z => absurd z (Nat.lt_irrefl _)⟩) (by rw [hcd, hnm]; exact ⟨fun z => absurd z (Nat.lt_irrefl _), fun z => absurd z (Nat.lt_irrefl _)⟩)
            · rw [if_neg e2, if_neg e2]
          · obtain ⟨a1, a2, a3⟩ := own_stopN k2c k2d c4' d4' m1.1 m2.1 h2
            rw [own_cr, if_neg h2, if_pos (show p = 2 ∨ q = 2 from a1.imp hp2.mpr hq2.mpr)]
            exact own_cmN hn hm hc hd a2 a3
        · rw [if_neg e1, if_neg e1]
      · obtain ⟨a1, a2, a3⟩ := own_stopN k1c k1d c2' d2' l1.1 l2.1 h1
        rw [own_cr, if_neg h1, if_pos (show p = 1 ∨ q = 1 from a1.imp hp1.mpr hq1.mpr)]
        exact own_cmN hn hm hc hd a2 a3
    · rw [if_neg e0, if_neg e0]
  · obtain ⟨a1, a2, a3⟩ := own_stopN (k := 0) (Nat.zero_le c) (Nat.zero_le d) c1' d1' (Nat.zero_le n) (Nat.zero_le m) h0
    rw [own_cr, if_neg h0, if_pos (show p = 0 ∨ q = 0 from a1.imp hp0.mpr hq0.mpr)]
    exact own_cmN hn hm hc hd a2 a3
theorem own_StrE {Z : State} {h : Heap} {x : Addr} {n : Nat} {f : Nat → Int32} (F : own_Str Z h x n f) : Exa Z h x "java/lang/String" := by obtain ⟨_, E, -⟩ := F; exact E
theorem own_Str.congr {Z : State} {h : Heap} {x : Addr} {n n' : Nat} {f g : Nat → Int32} (F : own_Str Z h x n f) (hn : n = n') (hf : ∀ i, i < n → f i = g i) : own_Str Z h x n' g := by
  subst hn
  obtain ⟨t, E, V, B, C⟩ := F
  refine ⟨t, E, V, fun i hi => by rw [← hf i hi]; exact B i hi, ?_⟩
  rcases C with ⟨c, A, r⟩ | ⟨c, A⟩
  · exact Or.inl ⟨c, A.congr fun i hi => by rw [hf i hi], fun i hi => by rw [← hf i hi]; exact r i hi⟩
  · refine Or.inr ⟨c, A.congr fun i hi => ?_⟩
    have q : i / 2 < n := by omega
    simp only [own_ub, hf _ q]
theorem own_Str.ofLat {Z : State} {h : Heap} {x t : Addr} {f : Nat → Int32} (F : own_Lat Z h x t 0 f) : own_Str Z h x 0 f := ⟨t, F.1, F.2.1, fun i hi => absurd hi (Nat.not_lt_zero i), Or.inl ⟨F.2.2.1, F.2.2.2.1, fun i hi => absurd hi (Nat.not_lt_zero i)⟩⟩
theorem own_i2cr (x : Int32) : 0 ≤ (x.toUInt32.toUInt16.toUInt32.toInt32).toInt ∧ (x.toUInt32.toUInt16.toUInt32.toInt32).toInt ≤ 65535 := by have := c_i2c x; omega
theorem own_and3 (x : Int32) : 0 ≤ (x &&& (3 : Int32)).toInt ∧ (x &&& (3 : Int32)).toInt ≤ 3 := c_and x 3 (by decide)
theorem own_rk {k : Nat} {g g' : Nat → Int32} {x : Int32} (hr : ∀ i, i < k → 0 ≤ (g i).toInt ∧ (g i).toInt ≤ 65535) (hx : 0 ≤ x.toInt ∧ x.toInt ≤ 65535) (hg : g' = fun q => if q = k then x else g q) : ∀ i, i < k + 1 → 0 ≤ (g' i).toInt ∧ (g' i).toInt ≤ 65535 := by
  intro i hi; rw [hg]
  by_cases q : i = k
  · simp only [q, if_true]; exact hx
  · simp only [q, if_false]; exact hr i (by omega)
theorem own_cst3 (x y : Int32) (r : Int32) (h : r = own_cm x y) : (r < 0 → r = -1) ∧ (¬ r < 0 → 0 < r → r = 1) ∧ (¬ r < 0 → ¬ 0 < r → r = 0) := by
  rcases own_cm3 x y with q | q | q <;> rw [h, q] <;> decide
theorem own_cr3 (f g : Nat → Int32) (n m : Nat) (nn mm : Int32) : ∀ r k, ∃ x y, own_cr f g n m nn mm r k = own_cm x y
  | 0, k => ⟨nn, mm, rfl⟩
  | r + 1, k => by
    rw [own_cr]
    by_cases h : k < n ∧ k < m
    · rw [if_pos h]
      by_cases e : own_cpt f n k = own_cpt g m k
      · rw [if_pos e]; exact own_cr3 f g n m nn mm r _
      · rw [if_neg e]; exact ⟨_, _, rfl⟩
    · rw [if_neg h]; exact ⟨_, _, rfl⟩
theorem own_d1_0 : decode method_2_code 0 = .ok (.lload_n 0, 1) := by decide +kernel
theorem own_d1_1 : decode method_2_code 1 = .ok (.bipush 18, 2) := by decide +kernel
theorem own_d1_3 : decode method_2_code 3 = .ok (.iload_n 2, 1) := by decide +kernel
theorem own_d1_4 : decode method_2_code 4 = .ok (.imul, 1) := by decide +kernel
theorem own_d1_5 : decode method_2_code 5 = .ok (.lushr, 1) := by decide +kernel
theorem own_d1_6 : decode method_2_code 6 = .ok (.ldc2_w 7, 3) := by decide +kernel
theorem own_d1_9 : decode method_2_code 9 = .ok (.land, 1) := by decide +kernel
theorem own_d1_10 : decode method_2_code 10 = .ok (.l2i, 1) := by decide +kernel
theorem own_d1_11 : decode method_2_code 11 = .ok (.istore_n 3, 1) := by decide +kernel
theorem own_d1_12 : decode method_2_code 12 = .ok (.iload_n 3, 1) := by decide +kernel
theorem own_d1_13 : decode method_2_code 13 = .ok (.iconst 3, 1) := by decide +kernel
theorem own_d1_14 : decode method_2_code 14 = .ok (.iand, 1) := by decide +kernel
theorem own_d1_15 : decode method_2_code 15 = .ok (.istore 4, 2) := by decide +kernel
theorem own_d1_17 : decode method_2_code 17 = .ok (.iload_n 3, 1) := by decide +kernel
theorem own_d1_18 : decode method_2_code 18 = .ok (.iconst 2, 1) := by decide +kernel
theorem own_d1_19 : decode method_2_code 19 = .ok (.iushr, 1) := by decide +kernel
theorem own_d1_20 : decode method_2_code 20 = .ok (.istore 5, 2) := by decide +kernel
theorem own_d1_22 : decode method_2_code 22 = .ok (.iload 4, 2) := by decide +kernel
theorem own_d1_24 : decode method_2_code 24 = .ok (.ifCond .ne 7, 3) := by decide +kernel
theorem own_d1_27 : decode method_2_code 27 = .ok (.iload 5, 2) := by decide +kernel
theorem own_d1_29 : decode method_2_code 29 = .ok (.i2c, 1) := by decide +kernel
theorem own_d1_30 : decode method_2_code 30 = .ok (.ireturn, 1) := by decide +kernel
theorem own_d1_31 : decode method_2_code 31 = .ok (.iload 4, 2) := by decide +kernel
theorem own_d1_33 : decode method_2_code 33 = .ok (.iconst 1, 1) := by decide +kernel
theorem own_d1_34 : decode method_2_code 34 = .ok (.if_icmp .ne 14, 3) := by decide +kernel
theorem own_d1_37 : decode method_2_code 37 = .ok (.ldc 9, 2) := by decide +kernel
theorem own_d1_39 : decode method_2_code 39 = .ok (.iload 5, 2) := by decide +kernel
theorem own_d1_41 : decode method_2_code 41 = .ok (.sipush 1023, 3) := by decide +kernel
theorem own_d1_44 : decode method_2_code 44 = .ok (.iand, 1) := by decide +kernel
theorem own_d1_45 : decode method_2_code 45 = .ok (.ior, 1) := by decide +kernel
theorem own_d1_46 : decode method_2_code 46 = .ok (.i2c, 1) := by decide +kernel
theorem own_d1_47 : decode method_2_code 47 = .ok (.ireturn, 1) := by decide +kernel
theorem own_d1_48 : decode method_2_code 48 = .ok (.iload 4, 2) := by decide +kernel
theorem own_d1_50 : decode method_2_code 50 = .ok (.iconst 2, 1) := by decide +kernel
theorem own_d1_51 : decode method_2_code 51 = .ok (.if_icmp .ne 14, 3) := by decide +kernel
theorem own_d1_54 : decode method_2_code 54 = .ok (.ldc 10, 2) := by decide +kernel
theorem own_d1_56 : decode method_2_code 56 = .ok (.iload 5, 2) := by decide +kernel
theorem own_d1_58 : decode method_2_code 58 = .ok (.sipush 1023, 3) := by decide +kernel
theorem own_d1_61 : decode method_2_code 61 = .ok (.iand, 1) := by decide +kernel
theorem own_d1_62 : decode method_2_code 62 = .ok (.ior, 1) := by decide +kernel
theorem own_d1_63 : decode method_2_code 63 = .ok (.i2c, 1) := by decide +kernel
theorem own_d1_64 : decode method_2_code 64 = .ok (.ireturn, 1) := by decide +kernel
theorem own_d1_65 : decode method_2_code 65 = .ok (.ldc 11, 2) := by decide +kernel
theorem own_d1_67 : decode method_2_code 67 = .ok (.iload 5, 2) := by decide +kernel
theorem own_d1_69 : decode method_2_code 69 = .ok (.sipush 8191, 3) := by decide +kernel
theorem own_d1_72 : decode method_2_code 72 = .ok (.iand, 1) := by decide +kernel
theorem own_d1_73 : decode method_2_code 73 = .ok (.iadd, 1) := by decide +kernel
theorem own_d1_74 : decode method_2_code 74 = .ok (.i2c, 1) := by decide +kernel
theorem own_d1_75 : decode method_2_code 75 = .ok (.ireturn, 1) := by decide +kernel
theorem own_d2_0 : decode method_3_code 0 = .ok (.iload_n 1, 1) := by decide +kernel
theorem own_d2_1 : decode method_3_code 1 = .ok (.ifCond .ne 14, 3) := by decide +kernel
theorem own_d2_4 : decode method_3_code 4 = .ok (.new 12, 3) := by decide +kernel
theorem own_d2_7 : decode method_3_code 7 = .ok (.dup, 1) := by decide +kernel
theorem own_d2_8 : decode method_3_code 8 = .ok (.iconst 0, 1) := by decide +kernel
theorem own_d2_9 : decode method_3_code 9 = .ok (.newarray .char, 2) := by decide +kernel
theorem own_d2_11 : decode method_3_code 11 = .ok (.invokespecial 14, 3) := by decide +kernel
theorem own_d2_14 : decode method_3_code 14 = .ok (.areturn, 1) := by decide +kernel
theorem own_d2_15 : decode method_3_code 15 = .ok (.iload_n 1, 1) := by decide +kernel
theorem own_d2_16 : decode method_3_code 16 = .ok (.iconst 1, 1) := by decide +kernel
theorem own_d2_17 : decode method_3_code 17 = .ok (.if_icmp .ne 20, 3) := by decide +kernel
theorem own_d2_20 : decode method_3_code 20 = .ok (.new 12, 3) := by decide +kernel
theorem own_d2_23 : decode method_3_code 23 = .ok (.dup, 1) := by decide +kernel
theorem own_d2_24 : decode method_3_code 24 = .ok (.iconst 1, 1) := by decide +kernel
theorem own_d2_25 : decode method_3_code 25 = .ok (.newarray .char, 2) := by decide +kernel
theorem own_d2_27 : decode method_3_code 27 = .ok (.dup, 1) := by decide +kernel
theorem own_d2_28 : decode method_3_code 28 = .ok (.iconst 0, 1) := by decide +kernel
theorem own_d2_29 : decode method_3_code 29 = .ok (.aload_n 0, 1) := by decide +kernel
theorem own_d2_30 : decode method_3_code 30 = .ok (.iconst 0, 1) := by decide +kernel
theorem own_d2_31 : decode method_3_code 31 = .ok (.caload, 1) := by decide +kernel
theorem own_d2_32 : decode method_3_code 32 = .ok (.castore, 1) := by decide +kernel
theorem own_d2_33 : decode method_3_code 33 = .ok (.invokespecial 14, 3) := by decide +kernel
theorem own_d2_36 : decode method_3_code 36 = .ok (.areturn, 1) := by decide +kernel
theorem own_d2_37 : decode method_3_code 37 = .ok (.iload_n 1, 1) := by decide +kernel
theorem own_d2_38 : decode method_3_code 38 = .ok (.iconst 2, 1) := by decide +kernel
theorem own_d2_39 : decode method_3_code 39 = .ok (.if_icmp .ne 26, 3) := by decide +kernel
theorem own_d2_42 : decode method_3_code 42 = .ok (.new 12, 3) := by decide +kernel
theorem own_d2_45 : decode method_3_code 45 = .ok (.dup, 1) := by decide +kernel
theorem own_d2_46 : decode method_3_code 46 = .ok (.iconst 2, 1) := by decide +kernel
theorem own_d2_47 : decode method_3_code 47 = .ok (.newarray .char, 2) := by decide +kernel
theorem own_d2_49 : decode method_3_code 49 = .ok (.dup, 1) := by decide +kernel
theorem own_d2_50 : decode method_3_code 50 = .ok (.iconst 0, 1) := by decide +kernel
theorem own_d2_51 : decode method_3_code 51 = .ok (.aload_n 0, 1) := by decide +kernel
theorem own_d2_52 : decode method_3_code 52 = .ok (.iconst 0, 1) := by decide +kernel
theorem own_d2_53 : decode method_3_code 53 = .ok (.caload, 1) := by decide +kernel
theorem own_d2_54 : decode method_3_code 54 = .ok (.castore, 1) := by decide +kernel
theorem own_d2_55 : decode method_3_code 55 = .ok (.dup, 1) := by decide +kernel
theorem own_d2_56 : decode method_3_code 56 = .ok (.iconst 1, 1) := by decide +kernel
theorem own_d2_57 : decode method_3_code 57 = .ok (.aload_n 0, 1) := by decide +kernel
theorem own_d2_58 : decode method_3_code 58 = .ok (.iconst 1, 1) := by decide +kernel
theorem own_d2_59 : decode method_3_code 59 = .ok (.caload, 1) := by decide +kernel
theorem own_d2_60 : decode method_3_code 60 = .ok (.castore, 1) := by decide +kernel
theorem own_d2_61 : decode method_3_code 61 = .ok (.invokespecial 14, 3) := by decide +kernel
theorem own_d2_64 : decode method_3_code 64 = .ok (.areturn, 1) := by decide +kernel
theorem own_d2_65 : decode method_3_code 65 = .ok (.new 12, 3) := by decide +kernel
theorem own_d2_68 : decode method_3_code 68 = .ok (.dup, 1) := by decide +kernel
theorem own_d2_69 : decode method_3_code 69 = .ok (.iconst 3, 1) := by decide +kernel
theorem own_d2_70 : decode method_3_code 70 = .ok (.newarray .char, 2) := by decide +kernel
theorem own_d2_72 : decode method_3_code 72 = .ok (.dup, 1) := by decide +kernel
theorem own_d2_73 : decode method_3_code 73 = .ok (.iconst 0, 1) := by decide +kernel
theorem own_d2_74 : decode method_3_code 74 = .ok (.aload_n 0, 1) := by decide +kernel
theorem own_d2_75 : decode method_3_code 75 = .ok (.iconst 0, 1) := by decide +kernel
theorem own_d2_76 : decode method_3_code 76 = .ok (.caload, 1) := by decide +kernel
theorem own_d2_77 : decode method_3_code 77 = .ok (.castore, 1) := by decide +kernel
theorem own_d2_78 : decode method_3_code 78 = .ok (.dup, 1) := by decide +kernel
theorem own_d2_79 : decode method_3_code 79 = .ok (.iconst 1, 1) := by decide +kernel
theorem own_d2_80 : decode method_3_code 80 = .ok (.aload_n 0, 1) := by decide +kernel
theorem own_d2_81 : decode method_3_code 81 = .ok (.iconst 1, 1) := by decide +kernel
theorem own_d2_82 : decode method_3_code 82 = .ok (.caload, 1) := by decide +kernel
theorem own_d2_83 : decode method_3_code 83 = .ok (.castore, 1) := by decide +kernel
theorem own_d2_84 : decode method_3_code 84 = .ok (.dup, 1) := by decide +kernel
theorem own_d2_85 : decode method_3_code 85 = .ok (.iconst 2, 1) := by decide +kernel
theorem own_d2_86 : decode method_3_code 86 = .ok (.aload_n 0, 1) := by decide +kernel
theorem own_d2_87 : decode method_3_code 87 = .ok (.iconst 2, 1) := by decide +kernel
theorem own_d2_88 : decode method_3_code 88 = .ok (.caload, 1) := by decide +kernel
theorem own_d2_89 : decode method_3_code 89 = .ok (.castore, 1) := by decide +kernel
theorem own_d2_90 : decode method_3_code 90 = .ok (.invokespecial 14, 3) := by decide +kernel
theorem own_d2_93 : decode method_3_code 93 = .ok (.areturn, 1) := by decide +kernel
theorem own_d3_0 : decode jdk_42_method_3_code 0 = .ok (.aload_n 0, 1) := by decide +kernel
theorem own_d3_1 : decode jdk_42_method_3_code 1 = .ok (.aload_n 1, 1) := by decide +kernel
theorem own_d3_2 : decode jdk_42_method_3_code 2 = .ok (.iconst 0, 1) := by decide +kernel
theorem own_d3_3 : decode jdk_42_method_3_code 3 = .ok (.aload_n 1, 1) := by decide +kernel
theorem own_d3_4 : decode jdk_42_method_3_code 4 = .ok (.arraylength, 1) := by decide +kernel
theorem own_d3_5 : decode jdk_42_method_3_code 5 = .ok (.aconst_null, 1) := by decide +kernel
theorem own_d3_6 : decode jdk_42_method_3_code 6 = .ok (.invokespecial 27, 3) := by decide +kernel
theorem own_d3_9 : decode jdk_42_method_3_code 9 = .ok (.return_, 1) := by decide +kernel
theorem own_d4_0 : decode jdk_42_method_149_code 0 = .ok (.aload_n 0, 1) := by decide +kernel
theorem own_d4_1 : decode jdk_42_method_149_code 1 = .ok (.invokespecial 1, 3) := by decide +kernel
theorem own_d4_4 : decode jdk_42_method_149_code 4 = .ok (.iload_n 3, 1) := by decide +kernel
theorem own_d4_5 : decode jdk_42_method_149_code 5 = .ok (.ifCond .ne 22, 3) := by decide +kernel
theorem own_d4_8 : decode jdk_42_method_149_code 8 = .ok (.aload_n 0, 1) := by decide +kernel
theorem own_d4_9 : decode jdk_42_method_149_code 9 = .ok (.ldc 7, 2) := by decide +kernel
theorem own_d4_11 : decode jdk_42_method_149_code 11 = .ok (.getfield 9, 3) := by decide +kernel
theorem own_d4_14 : decode jdk_42_method_149_code 14 = .ok (.putfield 9, 3) := by decide +kernel
theorem own_d4_17 : decode jdk_42_method_149_code 17 = .ok (.aload_n 0, 1) := by decide +kernel
theorem own_d4_18 : decode jdk_42_method_149_code 18 = .ok (.ldc 7, 2) := by decide +kernel
theorem own_d4_20 : decode jdk_42_method_149_code 20 = .ok (.getfield 15, 3) := by decide +kernel
theorem own_d4_23 : decode jdk_42_method_149_code 23 = .ok (.putfield 15, 3) := by decide +kernel
theorem own_d4_26 : decode jdk_42_method_149_code 26 = .ok (.return_, 1) := by decide +kernel
theorem own_d4_27 : decode jdk_42_method_149_code 27 = .ok (.getstatic 38, 3) := by decide +kernel
theorem own_d4_30 : decode jdk_42_method_149_code 30 = .ok (.ifCond .eq 28, 3) := by decide +kernel
theorem own_d4_33 : decode jdk_42_method_149_code 33 = .ok (.aload_n 1, 1) := by decide +kernel
theorem own_d4_34 : decode jdk_42_method_149_code 34 = .ok (.iload_n 2, 1) := by decide +kernel
theorem own_d4_35 : decode jdk_42_method_149_code 35 = .ok (.iload_n 3, 1) := by decide +kernel
theorem own_d4_36 : decode jdk_42_method_149_code 36 = .ok (.invokestatic 177, 3) := by decide +kernel
theorem own_d4_39 : decode jdk_42_method_149_code 39 = .ok (.astore 5, 2) := by decide +kernel
theorem own_d4_41 : decode jdk_42_method_149_code 41 = .ok (.aload_n 0, 1) := by decide +kernel
theorem own_d4_42 : decode jdk_42_method_149_code 42 = .ok (.aload 5, 2) := by decide +kernel
theorem own_d4_44 : decode jdk_42_method_149_code 44 = .ok (.iload_n 3, 1) := by decide +kernel
theorem own_d4_45 : decode jdk_42_method_149_code 45 = .ok (.invokestatic 47, 3) := by decide +kernel
theorem own_d4_48 : decode jdk_42_method_149_code 48 = .ok (.putfield 15, 3) := by decide +kernel
theorem own_d4_51 : decode jdk_42_method_149_code 51 = .ok (.aload_n 0, 1) := by decide +kernel
theorem own_d4_52 : decode jdk_42_method_149_code 52 = .ok (.aload 5, 2) := by decide +kernel
theorem own_d4_54 : decode jdk_42_method_149_code 54 = .ok (.putfield 9, 3) := by decide +kernel
theorem own_d4_57 : decode jdk_42_method_149_code 57 = .ok (.return_, 1) := by decide +kernel
theorem own_d6_0 : decode prog_1_method_2_code 0 = .ok (.iconst 0, 1) := by decide +kernel
theorem own_d6_1 : decode prog_1_method_2_code 1 = .ok (.istore_n 2, 1) := by decide +kernel
theorem own_d6_2 : decode prog_1_method_2_code 2 = .ok (.iload_n 2, 1) := by decide +kernel
theorem own_d6_3 : decode prog_1_method_2_code 3 = .ok (.aload_n 0, 1) := by decide +kernel
theorem own_d6_4 : decode prog_1_method_2_code 4 = .ok (.invokevirtual 7, 3) := by decide +kernel
theorem own_d6_7 : decode prog_1_method_2_code 7 = .ok (.if_icmp .ge 47, 3) := by decide +kernel
theorem own_d6_10 : decode prog_1_method_2_code 10 = .ok (.iload_n 2, 1) := by decide +kernel
theorem own_d6_11 : decode prog_1_method_2_code 11 = .ok (.aload_n 1, 1) := by decide +kernel
theorem own_d6_12 : decode prog_1_method_2_code 12 = .ok (.invokevirtual 7, 3) := by decide +kernel
theorem own_d6_15 : decode prog_1_method_2_code 15 = .ok (.if_icmp .ge 39, 3) := by decide +kernel
theorem own_d6_18 : decode prog_1_method_2_code 18 = .ok (.aload_n 0, 1) := by decide +kernel
theorem own_d6_19 : decode prog_1_method_2_code 19 = .ok (.iload_n 2, 1) := by decide +kernel
theorem own_d6_20 : decode prog_1_method_2_code 20 = .ok (.invokevirtual 13, 3) := by decide +kernel
theorem own_d6_23 : decode prog_1_method_2_code 23 = .ok (.istore_n 3, 1) := by decide +kernel
theorem own_d6_24 : decode prog_1_method_2_code 24 = .ok (.aload_n 1, 1) := by decide +kernel
theorem own_d6_25 : decode prog_1_method_2_code 25 = .ok (.iload_n 2, 1) := by decide +kernel
theorem own_d6_26 : decode prog_1_method_2_code 26 = .ok (.invokevirtual 13, 3) := by decide +kernel
theorem own_d6_29 : decode prog_1_method_2_code 29 = .ok (.istore 4, 2) := by decide +kernel
theorem own_d6_31 : decode prog_1_method_2_code 31 = .ok (.iload_n 3, 1) := by decide +kernel
theorem own_d6_32 : decode prog_1_method_2_code 32 = .ok (.iload 4, 2) := by decide +kernel
theorem own_d6_34 : decode prog_1_method_2_code 34 = .ok (.if_icmp .eq 10, 3) := by decide +kernel
theorem own_d6_37 : decode prog_1_method_2_code 37 = .ok (.iload_n 3, 1) := by decide +kernel
theorem own_d6_38 : decode prog_1_method_2_code 38 = .ok (.iload 4, 2) := by decide +kernel
theorem own_d6_40 : decode prog_1_method_2_code 40 = .ok (.invokestatic 17, 3) := by decide +kernel
theorem own_d6_43 : decode prog_1_method_2_code 43 = .ok (.ireturn, 1) := by decide +kernel
theorem own_d6_44 : decode prog_1_method_2_code 44 = .ok (.iload_n 2, 1) := by decide +kernel
theorem own_d6_45 : decode prog_1_method_2_code 45 = .ok (.iload_n 3, 1) := by decide +kernel
theorem own_d6_46 : decode prog_1_method_2_code 46 = .ok (.invokestatic 23, 3) := by decide +kernel
theorem own_d6_49 : decode prog_1_method_2_code 49 = .ok (.iadd, 1) := by decide +kernel
theorem own_d6_50 : decode prog_1_method_2_code 50 = .ok (.istore_n 2, 1) := by decide +kernel
theorem own_d6_51 : decode prog_1_method_2_code 51 = .ok (.goto (-49), 3) := by decide +kernel
theorem own_d6_54 : decode prog_1_method_2_code 54 = .ok (.aload_n 0, 1) := by decide +kernel
theorem own_d6_55 : decode prog_1_method_2_code 55 = .ok (.invokevirtual 7, 3) := by decide +kernel
theorem own_d6_58 : decode prog_1_method_2_code 58 = .ok (.aload_n 1, 1) := by decide +kernel
theorem own_d6_59 : decode prog_1_method_2_code 59 = .ok (.invokevirtual 7, 3) := by decide +kernel
theorem own_d6_62 : decode prog_1_method_2_code 62 = .ok (.invokestatic 17, 3) := by decide +kernel
theorem own_d6_65 : decode prog_1_method_2_code 65 = .ok (.ireturn, 1) := by decide +kernel
theorem own_d7_0 : decode jdk_42_method_54_code 0 = .ok (.aload_n 0, 1) := by decide +kernel
theorem own_d7_1 : decode jdk_42_method_54_code 1 = .ok (.getfield 9, 3) := by decide +kernel
theorem own_d7_4 : decode jdk_42_method_54_code 4 = .ok (.arraylength, 1) := by decide +kernel
theorem own_d7_5 : decode jdk_42_method_54_code 5 = .ok (.aload_n 0, 1) := by decide +kernel
theorem own_d7_6 : decode jdk_42_method_54_code 6 = .ok (.invokevirtual 335, 3) := by decide +kernel
theorem own_d7_9 : decode jdk_42_method_54_code 9 = .ok (.ishr, 1) := by decide +kernel
theorem own_d7_10 : decode jdk_42_method_54_code 10 = .ok (.ireturn, 1) := by decide +kernel
theorem own_d8_0 : decode jdk_42_method_152_code 0 = .ok (.getstatic 38, 3) := by decide +kernel
theorem own_d8_3 : decode jdk_42_method_152_code 3 = .ok (.ifCond .eq 10, 3) := by decide +kernel
theorem own_d8_6 : decode jdk_42_method_152_code 6 = .ok (.aload_n 0, 1) := by decide +kernel
theorem own_d8_7 : decode jdk_42_method_152_code 7 = .ok (.getfield 15, 3) := by decide +kernel
theorem own_d8_10 : decode jdk_42_method_152_code 10 = .ok (.goto 4, 3) := by decide +kernel
theorem own_d8_14 : decode jdk_42_method_152_code 14 = .ok (.ireturn, 1) := by decide +kernel
theorem own_d9_0 : decode jdk_33_method_40_code 0 = .ok (.iload_n 0, 1) := by decide +kernel
theorem own_d9_1 : decode jdk_33_method_40_code 1 = .ok (.iload_n 1, 1) := by decide +kernel
theorem own_d9_2 : decode jdk_33_method_40_code 2 = .ok (.if_icmp .ge 7, 3) := by decide +kernel
theorem own_d9_5 : decode jdk_33_method_40_code 5 = .ok (.iconst (-1), 1) := by decide +kernel
theorem own_d9_6 : decode jdk_33_method_40_code 6 = .ok (.goto 13, 3) := by decide +kernel
theorem own_d9_9 : decode jdk_33_method_40_code 9 = .ok (.iload_n 0, 1) := by decide +kernel
theorem own_d9_10 : decode jdk_33_method_40_code 10 = .ok (.iload_n 1, 1) := by decide +kernel
theorem own_d9_11 : decode jdk_33_method_40_code 11 = .ok (.if_icmp .ne 7, 3) := by decide +kernel
theorem own_d9_14 : decode jdk_33_method_40_code 14 = .ok (.iconst 0, 1) := by decide +kernel
theorem own_d9_15 : decode jdk_33_method_40_code 15 = .ok (.goto 4, 3) := by decide +kernel
theorem own_d9_18 : decode jdk_33_method_40_code 18 = .ok (.iconst 1, 1) := by decide +kernel
theorem own_d9_19 : decode jdk_33_method_40_code 19 = .ok (.ireturn, 1) := by decide +kernel
theorem own_d10_0 : decode method_7_code 0 = .ok (.iconst 0, 1) := by decide +kernel
theorem own_d10_1 : decode method_7_code 1 = .ok (.istore_n 3, 1) := by decide +kernel
theorem own_d10_2 : decode method_7_code 2 = .ok (.iconst 0, 1) := by decide +kernel
theorem own_d10_3 : decode method_7_code 3 = .ok (.istore 4, 2) := by decide +kernel
theorem own_d10_5 : decode method_7_code 5 = .ok (.iload_n 3, 1) := by decide +kernel
theorem own_d10_6 : decode method_7_code 6 = .ok (.iload_n 1, 1) := by decide +kernel
theorem own_d10_7 : decode method_7_code 7 = .ok (.if_icmp .ge 25, 3) := by decide +kernel
theorem own_d10_10 : decode method_7_code 10 = .ok (.aload_n 2, 1) := by decide +kernel
theorem own_d10_11 : decode method_7_code 11 = .ok (.iload 4, 2) := by decide +kernel
theorem own_d10_13 : decode method_7_code 13 = .ok (.aload_n 0, 1) := by decide +kernel
theorem own_d10_14 : decode method_7_code 14 = .ok (.iload_n 1, 1) := by decide +kernel
theorem own_d10_15 : decode method_7_code 15 = .ok (.iload_n 3, 1) := by decide +kernel
theorem own_d10_16 : decode method_7_code 16 = .ok (.invokestatic 26, 3) := by decide +kernel
theorem own_d10_19 : decode method_7_code 19 = .ok (.iastore, 1) := by decide +kernel
theorem own_d10_20 : decode method_7_code 20 = .ok (.iload_n 3, 1) := by decide +kernel
theorem own_d10_21 : decode method_7_code 21 = .ok (.aload_n 0, 1) := by decide +kernel
theorem own_d10_22 : decode method_7_code 22 = .ok (.iload_n 1, 1) := by decide +kernel
theorem own_d10_23 : decode method_7_code 23 = .ok (.iload_n 3, 1) := by decide +kernel
theorem own_d10_24 : decode method_7_code 24 = .ok (.invokestatic 30, 3) := by decide +kernel
theorem own_d10_27 : decode method_7_code 27 = .ok (.iadd, 1) := by decide +kernel
theorem own_d10_28 : decode method_7_code 28 = .ok (.istore_n 3, 1) := by decide +kernel
theorem own_d10_29 : decode method_7_code 29 = .ok (.iinc 4 1, 3) := by decide +kernel
theorem own_d10_32 : decode method_7_code 32 = .ok (.iload_n 3, 1) := by decide +kernel
theorem own_d10_33 : decode method_7_code 33 = .ok (.iload_n 1, 1) := by decide +kernel
theorem own_d10_34 : decode method_7_code 34 = .ok (.if_icmp .ge 25, 3) := by decide +kernel
theorem own_d10_37 : decode method_7_code 37 = .ok (.aload_n 2, 1) := by decide +kernel
theorem own_d10_38 : decode method_7_code 38 = .ok (.iload 4, 2) := by decide +kernel
theorem own_d10_40 : decode method_7_code 40 = .ok (.aload_n 0, 1) := by decide +kernel
theorem own_d10_41 : decode method_7_code 41 = .ok (.iload_n 1, 1) := by decide +kernel
theorem own_d10_42 : decode method_7_code 42 = .ok (.iload_n 3, 1) := by decide +kernel
theorem own_d10_43 : decode method_7_code 43 = .ok (.invokestatic 26, 3) := by decide +kernel
theorem own_d10_46 : decode method_7_code 46 = .ok (.iastore, 1) := by decide +kernel
theorem own_d10_47 : decode method_7_code 47 = .ok (.iload_n 3, 1) := by decide +kernel
theorem own_d10_48 : decode method_7_code 48 = .ok (.aload_n 0, 1) := by decide +kernel
theorem own_d10_49 : decode method_7_code 49 = .ok (.iload_n 1, 1) := by decide +kernel
theorem own_d10_50 : decode method_7_code 50 = .ok (.iload_n 3, 1) := by decide +kernel
theorem own_d10_51 : decode method_7_code 51 = .ok (.invokestatic 30, 3) := by decide +kernel
theorem own_d10_54 : decode method_7_code 54 = .ok (.iadd, 1) := by decide +kernel
theorem own_d10_55 : decode method_7_code 55 = .ok (.istore_n 3, 1) := by decide +kernel
theorem own_d10_56 : decode method_7_code 56 = .ok (.iinc 4 1, 3) := by decide +kernel
theorem own_d10_59 : decode method_7_code 59 = .ok (.iload_n 3, 1) := by decide +kernel
theorem own_d10_60 : decode method_7_code 60 = .ok (.iload_n 1, 1) := by decide +kernel
theorem own_d10_61 : decode method_7_code 61 = .ok (.if_icmp .ge 25, 3) := by decide +kernel
theorem own_d10_64 : decode method_7_code 64 = .ok (.aload_n 2, 1) := by decide +kernel
theorem own_d10_65 : decode method_7_code 65 = .ok (.iload 4, 2) := by decide +kernel
theorem own_d10_67 : decode method_7_code 67 = .ok (.aload_n 0, 1) := by decide +kernel
theorem own_d10_68 : decode method_7_code 68 = .ok (.iload_n 1, 1) := by decide +kernel
theorem own_d10_69 : decode method_7_code 69 = .ok (.iload_n 3, 1) := by decide +kernel
theorem own_d10_70 : decode method_7_code 70 = .ok (.invokestatic 26, 3) := by decide +kernel
theorem own_d10_73 : decode method_7_code 73 = .ok (.iastore, 1) := by decide +kernel
theorem own_d10_74 : decode method_7_code 74 = .ok (.iload_n 3, 1) := by decide +kernel
theorem own_d10_75 : decode method_7_code 75 = .ok (.aload_n 0, 1) := by decide +kernel
theorem own_d10_76 : decode method_7_code 76 = .ok (.iload_n 1, 1) := by decide +kernel
theorem own_d10_77 : decode method_7_code 77 = .ok (.iload_n 3, 1) := by decide +kernel
theorem own_d10_78 : decode method_7_code 78 = .ok (.invokestatic 30, 3) := by decide +kernel
theorem own_d10_81 : decode method_7_code 81 = .ok (.iadd, 1) := by decide +kernel
theorem own_d10_82 : decode method_7_code 82 = .ok (.istore_n 3, 1) := by decide +kernel
theorem own_d10_83 : decode method_7_code 83 = .ok (.iinc 4 1, 3) := by decide +kernel
theorem own_d10_86 : decode method_7_code 86 = .ok (.iload 4, 2) := by decide +kernel
theorem own_d10_88 : decode method_7_code 88 = .ok (.ireturn, 1) := by decide +kernel
theorem own_d11_0 : decode method_9_code 0 = .ok (.iload_n 1, 1) := by decide +kernel
theorem own_d11_1 : decode method_9_code 1 = .ok (.ifCond .eq 7, 3) := by decide +kernel
theorem own_d11_4 : decode method_9_code 4 = .ok (.iload_n 3, 1) := by decide +kernel
theorem own_d11_5 : decode method_9_code 5 = .ok (.ifCond .ne 9, 3) := by decide +kernel
theorem own_d11_8 : decode method_9_code 8 = .ok (.iload_n 1, 1) := by decide +kernel
theorem own_d11_9 : decode method_9_code 9 = .ok (.iload_n 3, 1) := by decide +kernel
theorem own_d11_10 : decode method_9_code 10 = .ok (.invokestatic 33, 3) := by decide +kernel
theorem own_d11_13 : decode method_9_code 13 = .ok (.ireturn, 1) := by decide +kernel
theorem own_d11_14 : decode method_9_code 14 = .ok (.aload_n 0, 1) := by decide +kernel
theorem own_d11_15 : decode method_9_code 15 = .ok (.iconst 0, 1) := by decide +kernel
theorem own_d11_16 : decode method_9_code 16 = .ok (.iaload, 1) := by decide +kernel
theorem own_d11_17 : decode method_9_code 17 = .ok (.aload_n 2, 1) := by decide +kernel
theorem own_d11_18 : decode method_9_code 18 = .ok (.iconst 0, 1) := by decide +kernel
theorem own_d11_19 : decode method_9_code 19 = .ok (.iaload, 1) := by decide +kernel
theorem own_d11_20 : decode method_9_code 20 = .ok (.if_icmp .eq 13, 3) := by decide +kernel
theorem own_d11_23 : decode method_9_code 23 = .ok (.aload_n 0, 1) := by decide +kernel
theorem own_d11_24 : decode method_9_code 24 = .ok (.iconst 0, 1) := by decide +kernel
theorem own_d11_25 : decode method_9_code 25 = .ok (.iaload, 1) := by decide +kernel
theorem own_d11_26 : decode method_9_code 26 = .ok (.aload_n 2, 1) := by decide +kernel
theorem own_d11_27 : decode method_9_code 27 = .ok (.iconst 0, 1) := by decide +kernel
theorem own_d11_28 : decode method_9_code 28 = .ok (.iaload, 1) := by decide +kernel
theorem own_d11_29 : decode method_9_code 29 = .ok (.invokestatic 33, 3) := by decide +kernel
theorem own_d11_32 : decode method_9_code 32 = .ok (.ireturn, 1) := by decide +kernel
theorem own_d11_33 : decode method_9_code 33 = .ok (.iload_n 1, 1) := by decide +kernel
theorem own_d11_34 : decode method_9_code 34 = .ok (.iconst 1, 1) := by decide +kernel
theorem own_d11_35 : decode method_9_code 35 = .ok (.if_icmp .eq 8, 3) := by decide +kernel
theorem own_d11_38 : decode method_9_code 38 = .ok (.iload_n 3, 1) := by decide +kernel
theorem own_d11_39 : decode method_9_code 39 = .ok (.iconst 1, 1) := by decide +kernel
theorem own_d11_40 : decode method_9_code 40 = .ok (.if_icmp .ne 9, 3) := by decide +kernel
theorem own_d11_43 : decode method_9_code 43 = .ok (.iload_n 1, 1) := by decide +kernel
theorem own_d11_44 : decode method_9_code 44 = .ok (.iload_n 3, 1) := by decide +kernel
theorem own_d11_45 : decode method_9_code 45 = .ok (.invokestatic 33, 3) := by decide +kernel
theorem own_d11_48 : decode method_9_code 48 = .ok (.ireturn, 1) := by decide +kernel
theorem own_d11_49 : decode method_9_code 49 = .ok (.aload_n 0, 1) := by decide +kernel
theorem own_d11_50 : decode method_9_code 50 = .ok (.iconst 1, 1) := by decide +kernel
theorem own_d11_51 : decode method_9_code 51 = .ok (.iaload, 1) := by decide +kernel
theorem own_d11_52 : decode method_9_code 52 = .ok (.aload_n 2, 1) := by decide +kernel
theorem own_d11_53 : decode method_9_code 53 = .ok (.iconst 1, 1) := by decide +kernel
theorem own_d11_54 : decode method_9_code 54 = .ok (.iaload, 1) := by decide +kernel
theorem own_d11_55 : decode method_9_code 55 = .ok (.if_icmp .eq 13, 3) := by decide +kernel
theorem own_d11_58 : decode method_9_code 58 = .ok (.aload_n 0, 1) := by decide +kernel
theorem own_d11_59 : decode method_9_code 59 = .ok (.iconst 1, 1) := by decide +kernel
theorem own_d11_60 : decode method_9_code 60 = .ok (.iaload, 1) := by decide +kernel
theorem own_d11_61 : decode method_9_code 61 = .ok (.aload_n 2, 1) := by decide +kernel
theorem own_d11_62 : decode method_9_code 62 = .ok (.iconst 1, 1) := by decide +kernel
theorem own_d11_63 : decode method_9_code 63 = .ok (.iaload, 1) := by decide +kernel
theorem own_d11_64 : decode method_9_code 64 = .ok (.invokestatic 33, 3) := by decide +kernel
theorem own_d11_67 : decode method_9_code 67 = .ok (.ireturn, 1) := by decide +kernel
theorem own_d11_68 : decode method_9_code 68 = .ok (.iload_n 1, 1) := by decide +kernel
theorem own_d11_69 : decode method_9_code 69 = .ok (.iconst 2, 1) := by decide +kernel
theorem own_d11_70 : decode method_9_code 70 = .ok (.if_icmp .eq 8, 3) := by decide +kernel
theorem own_d11_73 : decode method_9_code 73 = .ok (.iload_n 3, 1) := by decide +kernel
theorem own_d11_74 : decode method_9_code 74 = .ok (.iconst 2, 1) := by decide +kernel
theorem own_d11_75 : decode method_9_code 75 = .ok (.if_icmp .ne 9, 3) := by decide +kernel
theorem own_d11_78 : decode method_9_code 78 = .ok (.iload_n 1, 1) := by decide +kernel
theorem own_d11_79 : decode method_9_code 79 = .ok (.iload_n 3, 1) := by decide +kernel
theorem own_d11_80 : decode method_9_code 80 = .ok (.invokestatic 33, 3) := by decide +kernel
theorem own_d11_83 : decode method_9_code 83 = .ok (.ireturn, 1) := by decide +kernel
theorem own_d11_84 : decode method_9_code 84 = .ok (.aload_n 0, 1) := by decide +kernel
theorem own_d11_85 : decode method_9_code 85 = .ok (.iconst 2, 1) := by decide +kernel
theorem own_d11_86 : decode method_9_code 86 = .ok (.iaload, 1) := by decide +kernel
theorem own_d11_87 : decode method_9_code 87 = .ok (.aload_n 2, 1) := by decide +kernel
theorem own_d11_88 : decode method_9_code 88 = .ok (.iconst 2, 1) := by decide +kernel
theorem own_d11_89 : decode method_9_code 89 = .ok (.iaload, 1) := by decide +kernel
theorem own_d11_90 : decode method_9_code 90 = .ok (.if_icmp .eq 13, 3) := by decide +kernel
theorem own_d11_93 : decode method_9_code 93 = .ok (.aload_n 0, 1) := by decide +kernel
theorem own_d11_94 : decode method_9_code 94 = .ok (.iconst 2, 1) := by decide +kernel
theorem own_d11_95 : decode method_9_code 95 = .ok (.iaload, 1) := by decide +kernel
theorem own_d11_96 : decode method_9_code 96 = .ok (.aload_n 2, 1) := by decide +kernel
theorem own_d11_97 : decode method_9_code 97 = .ok (.iconst 2, 1) := by decide +kernel
theorem own_d11_98 : decode method_9_code 98 = .ok (.iaload, 1) := by decide +kernel
theorem own_d11_99 : decode method_9_code 99 = .ok (.invokestatic 33, 3) := by decide +kernel
theorem own_d11_102 : decode method_9_code 102 = .ok (.ireturn, 1) := by decide +kernel
theorem own_d11_103 : decode method_9_code 103 = .ok (.iload_n 1, 1) := by decide +kernel
theorem own_d11_104 : decode method_9_code 104 = .ok (.iload_n 3, 1) := by decide +kernel
theorem own_d11_105 : decode method_9_code 105 = .ok (.invokestatic 33, 3) := by decide +kernel
theorem own_d11_108 : decode method_9_code 108 = .ok (.ireturn, 1) := by decide +kernel
theorem own_d12_0 : decode method_8_code 0 = .ok (.iload_n 0, 1) := by decide +kernel
theorem own_d12_1 : decode method_8_code 1 = .ok (.iload_n 1, 1) := by decide +kernel
theorem own_d12_2 : decode method_8_code 2 = .ok (.if_icmp .ge 7, 3) := by decide +kernel
theorem own_d12_5 : decode method_8_code 5 = .ok (.iconst (-1), 1) := by decide +kernel
theorem own_d12_6 : decode method_8_code 6 = .ok (.goto 13, 3) := by decide +kernel
theorem own_d12_9 : decode method_8_code 9 = .ok (.iload_n 0, 1) := by decide +kernel
theorem own_d12_10 : decode method_8_code 10 = .ok (.iload_n 1, 1) := by decide +kernel
theorem own_d12_11 : decode method_8_code 11 = .ok (.if_icmp .le 7, 3) := by decide +kernel
theorem own_d12_14 : decode method_8_code 14 = .ok (.iconst 1, 1) := by decide +kernel
theorem own_d12_15 : decode method_8_code 15 = .ok (.goto 4, 3) := by decide +kernel
theorem own_d12_18 : decode method_8_code 18 = .ok (.iconst 0, 1) := by decide +kernel
theorem own_d12_19 : decode method_8_code 19 = .ok (.ireturn, 1) := by decide +kernel
theorem own_d13_0 : decode jdk_52_method_16_code 0 = .ok (.iload_n 2, 1) := by decide +kernel
theorem own_d13_1 : decode jdk_52_method_16_code 1 = .ok (.newarray .byte, 2) := by decide +kernel
theorem own_d13_3 : decode jdk_52_method_16_code 3 = .ok (.astore_n 3, 1) := by decide +kernel
theorem own_d13_4 : decode jdk_52_method_16_code 4 = .ok (.aload_n 0, 1) := by decide +kernel
theorem own_d13_5 : decode jdk_52_method_16_code 5 = .ok (.iload_n 1, 1) := by decide +kernel
theorem own_d13_6 : decode jdk_52_method_16_code 6 = .ok (.aload_n 3, 1) := by decide +kernel
theorem own_d13_7 : decode jdk_52_method_16_code 7 = .ok (.iconst 0, 1) := by decide +kernel
theorem own_d13_8 : decode jdk_52_method_16_code 8 = .ok (.iload_n 2, 1) := by decide +kernel
theorem own_d13_9 : decode jdk_52_method_16_code 9 = .ok (.invokestatic 115, 3) := by decide +kernel
theorem own_d13_12 : decode jdk_52_method_16_code 12 = .ok (.istore 4, 2) := by decide +kernel
theorem own_d13_14 : decode jdk_52_method_16_code 14 = .ok (.iload 4, 2) := by decide +kernel
theorem own_d13_16 : decode jdk_52_method_16_code 16 = .ok (.iload_n 2, 1) := by decide +kernel
theorem own_d13_17 : decode jdk_52_method_16_code 17 = .ok (.if_icmp .eq 40, 3) := by decide +kernel
theorem own_d13_20 : decode jdk_52_method_16_code 20 = .ok (.aload_n 0, 1) := by decide +kernel
theorem own_d13_21 : decode jdk_52_method_16_code 21 = .ok (.iload_n 1, 1) := by decide +kernel
theorem own_d13_22 : decode jdk_52_method_16_code 22 = .ok (.iload_n 2, 1) := by decide +kernel
theorem own_d13_23 : decode jdk_52_method_16_code 23 = .ok (.invokestatic 119, 3) := by decide +kernel
theorem own_d13_26 : decode jdk_52_method_16_code 26 = .ok (.astore 5, 2) := by decide +kernel
theorem own_d13_28 : decode jdk_52_method_16_code 28 = .ok (.aload 5, 2) := by decide +kernel
theorem own_d13_30 : decode jdk_52_method_16_code 30 = .ok (.iload 4, 2) := by decide +kernel
theorem own_d13_32 : decode jdk_52_method_16_code 32 = .ok (.invokestatic 71, 3) := by decide +kernel
theorem own_d13_35 : decode jdk_52_method_16_code 35 = .ok (.sipush 255, 3) := by decide +kernel
theorem own_d13_38 : decode jdk_52_method_16_code 38 = .ok (.if_icmp .gt 16, 3) := by decide +kernel
theorem own_d13_54 : decode jdk_52_method_16_code 54 = .ok (.aload 5, 2) := by decide +kernel
theorem own_d13_56 : decode jdk_52_method_16_code 56 = .ok (.areturn, 1) := by decide +kernel
theorem own_d13_57 : decode jdk_52_method_16_code 57 = .ok (.aload_n 3, 1) := by decide +kernel
theorem own_d13_58 : decode jdk_52_method_16_code 58 = .ok (.areturn, 1) := by decide +kernel
theorem own_d14_0 : decode jdk_52_method_21_code 0 = .ok (.iconst 0, 1) := by decide +kernel
theorem own_d14_1 : decode jdk_52_method_21_code 1 = .ok (.istore 5, 2) := by decide +kernel
theorem own_d14_3 : decode jdk_52_method_21_code 3 = .ok (.iload 5, 2) := by decide +kernel
theorem own_d14_5 : decode jdk_52_method_21_code 5 = .ok (.iload 4, 2) := by decide +kernel
theorem own_d14_7 : decode jdk_52_method_21_code 7 = .ok (.if_icmp .ge 37, 3) := by decide +kernel
theorem own_d14_10 : decode jdk_52_method_21_code 10 = .ok (.aload_n 0, 1) := by decide +kernel
theorem own_d14_11 : decode jdk_52_method_21_code 11 = .ok (.iload_n 1, 1) := by decide +kernel
theorem own_d14_12 : decode jdk_52_method_21_code 12 = .ok (.caload, 1) := by decide +kernel
theorem own_d14_13 : decode jdk_52_method_21_code 13 = .ok (.istore 6, 2) := by decide +kernel
theorem own_d14_15 : decode jdk_52_method_21_code 15 = .ok (.iload 6, 2) := by decide +kernel
theorem own_d14_17 : decode jdk_52_method_21_code 17 = .ok (.sipush 255, 3) := by decide +kernel
theorem own_d14_20 : decode jdk_52_method_21_code 20 = .ok (.if_icmp .le 6, 3) := by decide +kernel
theorem own_d14_23 : decode jdk_52_method_21_code 23 = .ok (.iload 5, 2) := by decide +kernel
theorem own_d14_25 : decode jdk_52_method_21_code 25 = .ok (.ireturn, 1) := by decide +kernel
theorem own_d14_26 : decode jdk_52_method_21_code 26 = .ok (.aload_n 2, 1) := by decide +kernel
theorem own_d14_27 : decode jdk_52_method_21_code 27 = .ok (.iload_n 3, 1) := by decide +kernel
theorem own_d14_28 : decode jdk_52_method_21_code 28 = .ok (.iload 6, 2) := by decide +kernel
theorem own_d14_30 : decode jdk_52_method_21_code 30 = .ok (.i2b, 1) := by decide +kernel
theorem own_d14_31 : decode jdk_52_method_21_code 31 = .ok (.bastore, 1) := by decide +kernel
theorem own_d14_32 : decode jdk_52_method_21_code 32 = .ok (.iinc 1 1, 3) := by decide +kernel
theorem own_d14_35 : decode jdk_52_method_21_code 35 = .ok (.iinc 3 1, 3) := by decide +kernel
theorem own_d14_38 : decode jdk_52_method_21_code 38 = .ok (.iinc 5 1, 3) := by decide +kernel
theorem own_d14_41 : decode jdk_52_method_21_code 41 = .ok (.goto (-38), 3) := by decide +kernel
theorem own_d14_44 : decode jdk_52_method_21_code 44 = .ok (.iload 4, 2) := by decide +kernel
theorem own_d14_46 : decode jdk_52_method_21_code 46 = .ok (.ireturn, 1) := by decide +kernel
theorem own_d15_0 : decode jdk_52_method_15_code 0 = .ok (.iload_n 1, 1) := by decide +kernel
theorem own_d15_1 : decode jdk_52_method_15_code 1 = .ok (.aload_n 0, 1) := by decide +kernel
theorem own_d15_2 : decode jdk_52_method_15_code 2 = .ok (.arraylength, 1) := by decide +kernel
theorem own_d15_3 : decode jdk_52_method_15_code 3 = .ok (.isub, 1) := by decide +kernel
theorem own_d15_4 : decode jdk_52_method_15_code 4 = .ok (.bipush 31, 2) := by decide +kernel
theorem own_d15_6 : decode jdk_52_method_15_code 6 = .ok (.iushr, 1) := by decide +kernel
theorem own_d15_7 : decode jdk_52_method_15_code 7 = .ok (.i2b, 1) := by decide +kernel
theorem own_d15_8 : decode jdk_52_method_15_code 8 = .ok (.ireturn, 1) := by decide +kernel
theorem own_d16_0 : decode jdk_52_method_14_code 0 = .ok (.iload_n 2, 1) := by decide +kernel
theorem own_d16_1 : decode jdk_52_method_14_code 1 = .ok (.invokestatic 107, 3) := by decide +kernel
theorem own_d16_4 : decode jdk_52_method_14_code 4 = .ok (.astore_n 3, 1) := by decide +kernel
theorem own_d16_5 : decode jdk_52_method_14_code 5 = .ok (.iconst 0, 1) := by decide +kernel
theorem own_d16_6 : decode jdk_52_method_14_code 6 = .ok (.istore 4, 2) := by decide +kernel
theorem own_d16_8 : decode jdk_52_method_14_code 8 = .ok (.iload 4, 2) := by decide +kernel
theorem own_d16_10 : decode jdk_52_method_14_code 10 = .ok (.iload_n 2, 1) := by decide +kernel
theorem own_d16_11 : decode jdk_52_method_14_code 11 = .ok (.if_icmp .ge 21, 3) := by decide +kernel
theorem own_d16_14 : decode jdk_52_method_14_code 14 = .ok (.aload_n 3, 1) := by decide +kernel
theorem own_d16_15 : decode jdk_52_method_14_code 15 = .ok (.iload 4, 2) := by decide +kernel
theorem own_d16_17 : decode jdk_52_method_14_code 17 = .ok (.aload_n 0, 1) := by decide +kernel
theorem own_d16_18 : decode jdk_52_method_14_code 18 = .ok (.iload_n 1, 1) := by decide +kernel
theorem own_d16_19 : decode jdk_52_method_14_code 19 = .ok (.caload, 1) := by decide +kernel
theorem own_d16_20 : decode jdk_52_method_14_code 20 = .ok (.invokestatic 111, 3) := by decide +kernel
theorem own_d16_23 : decode jdk_52_method_14_code 23 = .ok (.iinc 1 1, 3) := by decide +kernel
theorem own_d16_26 : decode jdk_52_method_14_code 26 = .ok (.iinc 4 1, 3) := by decide +kernel
theorem own_d16_29 : decode jdk_52_method_14_code 29 = .ok (.goto (-21), 3) := by decide +kernel
theorem own_d16_32 : decode jdk_52_method_14_code 32 = .ok (.aload_n 3, 1) := by decide +kernel
theorem own_d16_33 : decode jdk_52_method_14_code 33 = .ok (.areturn, 1) := by decide +kernel
theorem own_d17_0 : decode jdk_52_method_2_code 0 = .ok (.iload_n 0, 1) := by decide +kernel
theorem own_d17_1 : decode jdk_52_method_2_code 1 = .ok (.invokestatic 11, 3) := by decide +kernel
theorem own_d17_4 : decode jdk_52_method_2_code 4 = .ok (.newarray .byte, 2) := by decide +kernel
theorem own_d17_6 : decode jdk_52_method_2_code 6 = .ok (.areturn, 1) := by decide +kernel
theorem own_d18_0 : decode jdk_52_method_3_code 0 = .ok (.iload_n 0, 1) := by decide +kernel
theorem own_d18_1 : decode jdk_52_method_3_code 1 = .ok (.ifCond .ge 11, 3) := by decide +kernel
theorem own_d18_12 : decode jdk_52_method_3_code 12 = .ok (.iload_n 0, 1) := by decide +kernel
theorem own_d18_13 : decode jdk_52_method_3_code 13 = .ok (.ldc 20, 2) := by decide +kernel
theorem own_d18_15 : decode jdk_52_method_3_code 15 = .ok (.if_icmp .lt 40, 3) := by decide +kernel
theorem own_d18_55 : decode jdk_52_method_3_code 55 = .ok (.iload_n 0, 1) := by decide +kernel
theorem own_d18_56 : decode jdk_52_method_3_code 56 = .ok (.iconst 1, 1) := by decide +kernel
theorem own_d18_57 : decode jdk_52_method_3_code 57 = .ok (.ishl, 1) := by decide +kernel
theorem own_d18_58 : decode jdk_52_method_3_code 58 = .ok (.ireturn, 1) := by decide +kernel
theorem own_d19_0 : decode jdk_52_method_4_code 0 = .ok (.getstatic 44, 3) := by decide +kernel
theorem own_d19_3 : decode jdk_52_method_4_code 3 = .ok (.ifCond .ne 25, 3) := by decide +kernel
theorem own_d19_28 : decode jdk_52_method_4_code 28 = .ok (.iload_n 1, 1) := by decide +kernel
theorem own_d19_29 : decode jdk_52_method_4_code 29 = .ok (.iconst 1, 1) := by decide +kernel
theorem own_d19_30 : decode jdk_52_method_4_code 30 = .ok (.ishl, 1) := by decide +kernel
theorem own_d19_31 : decode jdk_52_method_4_code 31 = .ok (.istore_n 1, 1) := by decide +kernel
theorem own_d19_32 : decode jdk_52_method_4_code 32 = .ok (.aload_n 0, 1) := by decide +kernel
theorem own_d19_33 : decode jdk_52_method_4_code 33 = .ok (.iload_n 1, 1) := by decide +kernel
theorem own_d19_34 : decode jdk_52_method_4_code 34 = .ok (.iinc 1 1, 3) := by decide +kernel
theorem own_d19_37 : decode jdk_52_method_4_code 37 = .ok (.iload_n 2, 1) := by decide +kernel
theorem own_d19_38 : decode jdk_52_method_4_code 38 = .ok (.getstatic 59, 3) := by decide +kernel
theorem own_d19_41 : decode jdk_52_method_4_code 41 = .ok (.ishr, 1) := by decide +kernel
theorem own_d19_42 : decode jdk_52_method_4_code 42 = .ok (.i2b, 1) := by decide +kernel
theorem own_d19_43 : decode jdk_52_method_4_code 43 = .ok (.bastore, 1) := by decide +kernel
theorem own_d19_44 : decode jdk_52_method_4_code 44 = .ok (.aload_n 0, 1) := by decide +kernel
theorem own_d19_45 : decode jdk_52_method_4_code 45 = .ok (.iload_n 1, 1) := by decide +kernel
theorem own_d19_46 : decode jdk_52_method_4_code 46 = .ok (.iload_n 2, 1) := by decide +kernel
theorem own_d19_47 : decode jdk_52_method_4_code 47 = .ok (.getstatic 63, 3) := by decide +kernel
theorem own_d19_50 : decode jdk_52_method_4_code 50 = .ok (.ishr, 1) := by decide +kernel
theorem own_d19_51 : decode jdk_52_method_4_code 51 = .ok (.i2b, 1) := by decide +kernel
theorem own_d19_52 : decode jdk_52_method_4_code 52 = .ok (.bastore, 1) := by decide +kernel
theorem own_d19_53 : decode jdk_52_method_4_code 53 = .ok (.return_, 1) := by decide +kernel
theorem own_d20_0 : decode jdk_52_method_5_code 0 = .ok (.getstatic 44, 3) := by decide +kernel
theorem own_d20_3 : decode jdk_52_method_5_code 3 = .ok (.ifCond .ne 25, 3) := by decide +kernel
theorem own_d20_28 : decode jdk_52_method_5_code 28 = .ok (.iload_n 1, 1) := by decide +kernel
theorem own_d20_29 : decode jdk_52_method_5_code 29 = .ok (.iconst 1, 1) := by decide +kernel
theorem own_d20_30 : decode jdk_52_method_5_code 30 = .ok (.ishl, 1) := by decide +kernel
theorem own_d20_31 : decode jdk_52_method_5_code 31 = .ok (.istore_n 1, 1) := by decide +kernel
theorem own_d20_32 : decode jdk_52_method_5_code 32 = .ok (.aload_n 0, 1) := by decide +kernel
theorem own_d20_33 : decode jdk_52_method_5_code 33 = .ok (.iload_n 1, 1) := by decide +kernel
theorem own_d20_34 : decode jdk_52_method_5_code 34 = .ok (.iinc 1 1, 3) := by decide +kernel
theorem own_d20_37 : decode jdk_52_method_5_code 37 = .ok (.baload, 1) := by decide +kernel
theorem own_d20_38 : decode jdk_52_method_5_code 38 = .ok (.sipush 255, 3) := by decide +kernel
theorem own_d20_41 : decode jdk_52_method_5_code 41 = .ok (.iand, 1) := by decide +kernel
theorem own_d20_42 : decode jdk_52_method_5_code 42 = .ok (.getstatic 59, 3) := by decide +kernel
theorem own_d20_45 : decode jdk_52_method_5_code 45 = .ok (.ishl, 1) := by decide +kernel
theorem own_d20_46 : decode jdk_52_method_5_code 46 = .ok (.aload_n 0, 1) := by decide +kernel
theorem own_d20_47 : decode jdk_52_method_5_code 47 = .ok (.iload_n 1, 1) := by decide +kernel
theorem own_d20_48 : decode jdk_52_method_5_code 48 = .ok (.baload, 1) := by decide +kernel
theorem own_d20_49 : decode jdk_52_method_5_code 49 = .ok (.sipush 255, 3) := by decide +kernel
theorem own_d20_52 : decode jdk_52_method_5_code 52 = .ok (.iand, 1) := by decide +kernel
theorem own_d20_53 : decode jdk_52_method_5_code 53 = .ok (.getstatic 63, 3) := by decide +kernel
theorem own_d20_56 : decode jdk_52_method_5_code 56 = .ok (.ishl, 1) := by decide +kernel
theorem own_d20_57 : decode jdk_52_method_5_code 57 = .ok (.ior, 1) := by decide +kernel
theorem own_d20_58 : decode jdk_52_method_5_code 58 = .ok (.i2c, 1) := by decide +kernel
theorem own_d20_59 : decode jdk_52_method_5_code 59 = .ok (.ireturn, 1) := by decide +kernel
theorem own_d21_0 : decode jdk_42_method_57_code 0 = .ok (.aload_n 0, 1) := by decide +kernel
theorem own_d21_1 : decode jdk_42_method_57_code 1 = .ok (.invokevirtual 492, 3) := by decide +kernel
theorem own_d21_4 : decode jdk_42_method_57_code 4 = .ok (.ifCond .eq 23, 3) := by decide +kernel
theorem own_d21_7 : decode jdk_42_method_57_code 7 = .ok (.iload_n 1, 1) := by decide +kernel
theorem own_d21_8 : decode jdk_42_method_57_code 8 = .ok (.aload_n 0, 1) := by decide +kernel
theorem own_d21_9 : decode jdk_42_method_57_code 9 = .ok (.getfield 9, 3) := by decide +kernel
theorem own_d21_12 : decode jdk_42_method_57_code 12 = .ok (.arraylength, 1) := by decide +kernel
theorem own_d21_13 : decode jdk_42_method_57_code 13 = .ok (.invokestatic 499, 3) := by decide +kernel
theorem own_d21_16 : decode jdk_42_method_57_code 16 = .ok (.aload_n 0, 1) := by decide +kernel
theorem own_d21_17 : decode jdk_42_method_57_code 17 = .ok (.getfield 9, 3) := by decide +kernel
theorem own_d21_20 : decode jdk_42_method_57_code 20 = .ok (.iload_n 1, 1) := by decide +kernel
theorem own_d21_21 : decode jdk_42_method_57_code 21 = .ok (.baload, 1) := by decide +kernel
theorem own_d21_22 : decode jdk_42_method_57_code 22 = .ok (.sipush 255, 3) := by decide +kernel
theorem own_d21_25 : decode jdk_42_method_57_code 25 = .ok (.iand, 1) := by decide +kernel
theorem own_d21_26 : decode jdk_42_method_57_code 26 = .ok (.ireturn, 1) := by decide +kernel
theorem own_d21_27 : decode jdk_42_method_57_code 27 = .ok (.aload_n 0, 1) := by decide +kernel
theorem own_d21_28 : decode jdk_42_method_57_code 28 = .ok (.getfield 9, 3) := by decide +kernel
theorem own_d21_31 : decode jdk_42_method_57_code 31 = .ok (.arraylength, 1) := by decide +kernel
theorem own_d21_32 : decode jdk_42_method_57_code 32 = .ok (.iconst 1, 1) := by decide +kernel
theorem own_d21_33 : decode jdk_42_method_57_code 33 = .ok (.ishr, 1) := by decide +kernel
theorem own_d21_34 : decode jdk_42_method_57_code 34 = .ok (.istore_n 2, 1) := by decide +kernel
theorem own_d21_35 : decode jdk_42_method_57_code 35 = .ok (.iload_n 1, 1) := by decide +kernel
theorem own_d21_36 : decode jdk_42_method_57_code 36 = .ok (.iload_n 2, 1) := by decide +kernel
theorem own_d21_37 : decode jdk_42_method_57_code 37 = .ok (.invokestatic 499, 3) := by decide +kernel
theorem own_d21_40 : decode jdk_42_method_57_code 40 = .ok (.aload_n 0, 1) := by decide +kernel
theorem own_d21_41 : decode jdk_42_method_57_code 41 = .ok (.getfield 9, 3) := by decide +kernel
theorem own_d21_44 : decode jdk_42_method_57_code 44 = .ok (.iload_n 1, 1) := by decide +kernel
theorem own_d21_45 : decode jdk_42_method_57_code 45 = .ok (.iload_n 2, 1) := by decide +kernel
theorem own_d21_46 : decode jdk_42_method_57_code 46 = .ok (.invokestatic 502, 3) := by decide +kernel
theorem own_d21_49 : decode jdk_42_method_57_code 49 = .ok (.ireturn, 1) := by decide +kernel
theorem own_d22_0 : decode jdk_42_method_154_code 0 = .ok (.getstatic 38, 3) := by decide +kernel
theorem own_d22_3 : decode jdk_42_method_154_code 3 = .ok (.ifCond .eq 14, 3) := by decide +kernel
theorem own_d22_6 : decode jdk_42_method_154_code 6 = .ok (.aload_n 0, 1) := by decide +kernel
theorem own_d22_7 : decode jdk_42_method_154_code 7 = .ok (.getfield 15, 3) := by decide +kernel
theorem own_d22_10 : decode jdk_42_method_154_code 10 = .ok (.ifCond .ne 7, 3) := by decide +kernel
theorem own_d22_13 : decode jdk_42_method_154_code 13 = .ok (.iconst 1, 1) := by decide +kernel
theorem own_d22_14 : decode jdk_42_method_154_code 14 = .ok (.goto 4, 3) := by decide +kernel
theorem own_d22_17 : decode jdk_42_method_154_code 17 = .ok (.iconst 0, 1) := by decide +kernel
theorem own_d22_18 : decode jdk_42_method_154_code 18 = .ok (.ireturn, 1) := by decide +kernel
theorem own_d23_0 : decode jdk_42_method_155_code 0 = .ok (.iload_n 0, 1) := by decide +kernel
theorem own_d23_1 : decode jdk_42_method_155_code 1 = .ok (.iload_n 1, 1) := by decide +kernel
theorem own_d23_2 : decode jdk_42_method_155_code 2 = .ok (.getstatic 1053, 3) := by decide +kernel
theorem own_d23_5 : decode jdk_42_method_155_code 5 = .ok (.invokestatic 1059, 3) := by decide +kernel
theorem own_d23_8 : decode jdk_42_method_155_code 8 = .ok (.pop, 1) := by decide +kernel
theorem own_d23_9 : decode jdk_42_method_155_code 9 = .ok (.return_, 1) := by decide +kernel
theorem own_d24_0 : decode jdk_41_method_11_code 0 = .ok (.iload_n 0, 1) := by decide +kernel
theorem own_d24_1 : decode jdk_41_method_11_code 1 = .ok (.ifCond .lt 8, 3) := by decide +kernel
theorem own_d24_4 : decode jdk_41_method_11_code 4 = .ok (.iload_n 0, 1) := by decide +kernel
theorem own_d24_5 : decode jdk_41_method_11_code 5 = .ok (.iload_n 1, 1) := by decide +kernel
theorem own_d24_6 : decode jdk_41_method_11_code 6 = .ok (.if_icmp .lt 10, 3) := by decide +kernel
theorem own_d24_16 : decode jdk_41_method_11_code 16 = .ok (.iload_n 0, 1) := by decide +kernel
theorem own_d24_17 : decode jdk_41_method_11_code 17 = .ok (.ireturn, 1) := by decide +kernel
theorem own_d25_0 : decode jdk_52_method_8_code 0 = .ok (.aload_n 0, 1) := by decide +kernel
theorem own_d25_1 : decode jdk_52_method_8_code 1 = .ok (.iload_n 1, 1) := by decide +kernel
theorem own_d25_2 : decode jdk_52_method_8_code 2 = .ok (.iload_n 2, 1) := by decide +kernel
theorem own_d25_3 : decode jdk_52_method_8_code 3 = .ok (.iconst 0, 1) := by decide +kernel
theorem own_d25_4 : decode jdk_52_method_8_code 4 = .ok (.invokestatic 88, 3) := by decide +kernel
theorem own_d25_7 : decode jdk_52_method_8_code 7 = .ok (.ireturn, 1) := by decide +kernel
theorem own_d26_0 : decode jdk_52_method_7_code 0 = .ok (.getstatic 44, 3) := by decide +kernel
theorem own_d26_3 : decode jdk_52_method_7_code 3 = .ok (.ifCond .ne 16, 3) := by decide +kernel
theorem own_d26_19 : decode jdk_52_method_7_code 19 = .ok (.iload_n 3, 1) := by decide +kernel
theorem own_d26_20 : decode jdk_52_method_7_code 20 = .ok (.ifCond .eq 8, 3) := by decide +kernel
theorem own_d26_28 : decode jdk_52_method_7_code 28 = .ok (.aload_n 0, 1) := by decide +kernel
theorem own_d26_29 : decode jdk_52_method_7_code 29 = .ok (.iload_n 1, 1) := by decide +kernel
theorem own_d26_30 : decode jdk_52_method_7_code 30 = .ok (.invokestatic 71, 3) := by decide +kernel
theorem own_d26_33 : decode jdk_52_method_7_code 33 = .ok (.istore 4, 2) := by decide +kernel
theorem own_d26_35 : decode jdk_52_method_7_code 35 = .ok (.iload 4, 2) := by decide +kernel
theorem own_d26_37 : decode jdk_52_method_7_code 37 = .ok (.invokestatic 75, 3) := by decide +kernel
theorem own_d26_40 : decode jdk_52_method_7_code 40 = .ok (.ifCond .eq 43, 3) := by decide +kernel
theorem own_d26_43 : decode jdk_52_method_7_code 43 = .ok (.iinc 1 1, 3) := by decide +kernel
theorem own_d26_46 : decode jdk_52_method_7_code 46 = .ok (.iload_n 1, 1) := by decide +kernel
theorem own_d26_47 : decode jdk_52_method_7_code 47 = .ok (.iload_n 2, 1) := by decide +kernel
theorem own_d26_48 : decode jdk_52_method_7_code 48 = .ok (.if_icmp .ge 35, 3) := by decide +kernel
theorem own_d26_51 : decode jdk_52_method_7_code 51 = .ok (.iload_n 3, 1) := by decide +kernel
theorem own_d26_52 : decode jdk_52_method_7_code 52 = .ok (.ifCond .eq 8, 3) := by decide +kernel
theorem own_d26_60 : decode jdk_52_method_7_code 60 = .ok (.aload_n 0, 1) := by decide +kernel
theorem own_d26_61 : decode jdk_52_method_7_code 61 = .ok (.iload_n 1, 1) := by decide +kernel
theorem own_d26_62 : decode jdk_52_method_7_code 62 = .ok (.invokestatic 71, 3) := by decide +kernel
theorem own_d26_65 : decode jdk_52_method_7_code 65 = .ok (.istore 5, 2) := by decide +kernel
theorem own_d26_67 : decode jdk_52_method_7_code 67 = .ok (.iload 5, 2) := by decide +kernel
theorem own_d26_69 : decode jdk_52_method_7_code 69 = .ok (.invokestatic 81, 3) := by decide +kernel
theorem own_d26_72 : decode jdk_52_method_7_code 72 = .ok (.ifCond .eq 11, 3) := by decide +kernel
theorem own_d26_75 : decode jdk_52_method_7_code 75 = .ok (.iload 4, 2) := by decide +kernel
theorem own_d26_77 : decode jdk_52_method_7_code 77 = .ok (.iload 5, 2) := by decide +kernel
theorem own_d26_79 : decode jdk_52_method_7_code 79 = .ok (.invokestatic 84, 3) := by decide +kernel
theorem own_d26_82 : decode jdk_52_method_7_code 82 = .ok (.ireturn, 1) := by decide +kernel
theorem own_d26_83 : decode jdk_52_method_7_code 83 = .ok (.iload 4, 2) := by decide +kernel
theorem own_d26_85 : decode jdk_52_method_7_code 85 = .ok (.ireturn, 1) := by decide +kernel
theorem own_d27_0 : decode jdk_89_method_14_code 0 = .ok (.iload_n 0, 1) := by decide +kernel
theorem own_d27_1 : decode jdk_89_method_14_code 1 = .ok (.ldc 75, 2) := by decide +kernel
theorem own_d27_3 : decode jdk_89_method_14_code 3 = .ok (.if_icmp .lt 13, 3) := by decide +kernel
theorem own_d27_6 : decode jdk_89_method_14_code 6 = .ok (.iload_n 0, 1) := by decide +kernel
theorem own_d27_7 : decode jdk_89_method_14_code 7 = .ok (.ldc 76, 2) := by decide +kernel
theorem own_d27_9 : decode jdk_89_method_14_code 9 = .ok (.if_icmp .ge 7, 3) := by decide +kernel
theorem own_d27_12 : decode jdk_89_method_14_code 12 = .ok (.iconst 1, 1) := by decide +kernel
theorem own_d27_13 : decode jdk_89_method_14_code 13 = .ok (.goto 4, 3) := by decide +kernel
theorem own_d27_16 : decode jdk_89_method_14_code 16 = .ok (.iconst 0, 1) := by decide +kernel
theorem own_d27_17 : decode jdk_89_method_14_code 17 = .ok (.ireturn, 1) := by decide +kernel
theorem own_d28_0 : decode method_5_code 0 = .ok (.aload_n 0, 1) := by decide +kernel
theorem own_d28_1 : decode method_5_code 1 = .ok (.iload_n 1, 1) := by decide +kernel
theorem own_d28_2 : decode method_5_code 2 = .ok (.iload_n 2, 1) := by decide +kernel
theorem own_d28_3 : decode method_5_code 3 = .ok (.invokestatic 19, 3) := by decide +kernel
theorem own_d28_6 : decode method_5_code 6 = .ok (.ifCond .eq 25, 3) := by decide +kernel
theorem own_d28_9 : decode method_5_code 9 = .ok (.aload_n 0, 1) := by decide +kernel
theorem own_d28_10 : decode method_5_code 10 = .ok (.iload_n 2, 1) := by decide +kernel
theorem own_d28_11 : decode method_5_code 11 = .ok (.caload, 1) := by decide +kernel
theorem own_d28_12 : decode method_5_code 12 = .ok (.ldc 9, 2) := by decide +kernel
theorem own_d28_14 : decode method_5_code 14 = .ok (.isub, 1) := by decide +kernel
theorem own_d28_15 : decode method_5_code 15 = .ok (.bipush 10, 2) := by decide +kernel
theorem own_d28_17 : decode method_5_code 17 = .ok (.ishl, 1) := by decide +kernel
theorem own_d28_18 : decode method_5_code 18 = .ok (.aload_n 0, 1) := by decide +kernel
theorem own_d28_19 : decode method_5_code 19 = .ok (.iload_n 2, 1) := by decide +kernel
theorem own_d28_20 : decode method_5_code 20 = .ok (.iconst 1, 1) := by decide +kernel
theorem own_d28_21 : decode method_5_code 21 = .ok (.iadd, 1) := by decide +kernel
theorem own_d28_22 : decode method_5_code 22 = .ok (.caload, 1) := by decide +kernel
theorem own_d28_23 : decode method_5_code 23 = .ok (.ldc 10, 2) := by decide +kernel
theorem own_d28_25 : decode method_5_code 25 = .ok (.isub, 1) := by decide +kernel
theorem own_d28_26 : decode method_5_code 26 = .ok (.iadd, 1) := by decide +kernel
theorem own_d28_27 : decode method_5_code 27 = .ok (.ldc 25, 2) := by decide +kernel
theorem own_d28_29 : decode method_5_code 29 = .ok (.iadd, 1) := by decide +kernel
theorem own_d28_30 : decode method_5_code 30 = .ok (.ireturn, 1) := by decide +kernel
theorem own_d28_31 : decode method_5_code 31 = .ok (.aload_n 0, 1) := by decide +kernel
theorem own_d28_32 : decode method_5_code 32 = .ok (.iload_n 2, 1) := by decide +kernel
theorem own_d28_33 : decode method_5_code 33 = .ok (.caload, 1) := by decide +kernel
theorem own_d28_34 : decode method_5_code 34 = .ok (.ireturn, 1) := by decide +kernel
theorem own_d29_0 : decode method_4_code 0 = .ok (.aload_n 0, 1) := by decide +kernel
theorem own_d29_1 : decode method_4_code 1 = .ok (.iload_n 2, 1) := by decide +kernel
theorem own_d29_2 : decode method_4_code 2 = .ok (.caload, 1) := by decide +kernel
theorem own_d29_3 : decode method_4_code 3 = .ok (.ldc 9, 2) := by decide +kernel
theorem own_d29_5 : decode method_4_code 5 = .ok (.if_icmp .lt 42, 3) := by decide +kernel
theorem own_d29_8 : decode method_4_code 8 = .ok (.aload_n 0, 1) := by decide +kernel
theorem own_d29_9 : decode method_4_code 9 = .ok (.iload_n 2, 1) := by decide +kernel
theorem own_d29_10 : decode method_4_code 10 = .ok (.caload, 1) := by decide +kernel
theorem own_d29_11 : decode method_4_code 11 = .ok (.ldc 17, 2) := by decide +kernel
theorem own_d29_13 : decode method_4_code 13 = .ok (.if_icmp .gt 34, 3) := by decide +kernel
theorem own_d29_16 : decode method_4_code 16 = .ok (.iload_n 2, 1) := by decide +kernel
theorem own_d29_17 : decode method_4_code 17 = .ok (.iconst 1, 1) := by decide +kernel
theorem own_d29_18 : decode method_4_code 18 = .ok (.iadd, 1) := by decide +kernel
theorem own_d29_19 : decode method_4_code 19 = .ok (.iload_n 1, 1) := by decide +kernel
theorem own_d29_20 : decode method_4_code 20 = .ok (.if_icmp .ge 27, 3) := by decide +kernel
theorem own_d29_23 : decode method_4_code 23 = .ok (.aload_n 0, 1) := by decide +kernel
theorem own_d29_24 : decode method_4_code 24 = .ok (.iload_n 2, 1) := by decide +kernel
theorem own_d29_25 : decode method_4_code 25 = .ok (.iconst 1, 1) := by decide +kernel
theorem own_d29_26 : decode method_4_code 26 = .ok (.iadd, 1) := by decide +kernel
theorem own_d29_27 : decode method_4_code 27 = .ok (.caload, 1) := by decide +kernel
theorem own_d29_28 : decode method_4_code 28 = .ok (.ldc 10, 2) := by decide +kernel
theorem own_d29_30 : decode method_4_code 30 = .ok (.if_icmp .lt 17, 3) := by decide +kernel
theorem own_d29_33 : decode method_4_code 33 = .ok (.aload_n 0, 1) := by decide +kernel
theorem own_d29_34 : decode method_4_code 34 = .ok (.iload_n 2, 1) := by decide +kernel
theorem own_d29_35 : decode method_4_code 35 = .ok (.iconst 1, 1) := by decide +kernel
theorem own_d29_36 : decode method_4_code 36 = .ok (.iadd, 1) := by decide +kernel
theorem own_d29_37 : decode method_4_code 37 = .ok (.caload, 1) := by decide +kernel
theorem own_d29_38 : decode method_4_code 38 = .ok (.ldc 18, 2) := by decide +kernel
theorem own_d29_40 : decode method_4_code 40 = .ok (.if_icmp .gt 7, 3) := by decide +kernel
theorem own_d29_43 : decode method_4_code 43 = .ok (.iconst 1, 1) := by decide +kernel
theorem own_d29_44 : decode method_4_code 44 = .ok (.goto 4, 3) := by decide +kernel
theorem own_d29_47 : decode method_4_code 47 = .ok (.iconst 0, 1) := by decide +kernel
theorem own_d29_48 : decode method_4_code 48 = .ok (.ireturn, 1) := by decide +kernel
theorem own_d30_0 : decode method_6_code 0 = .ok (.aload_n 0, 1) := by decide +kernel
theorem own_d30_1 : decode method_6_code 1 = .ok (.iload_n 1, 1) := by decide +kernel
theorem own_d30_2 : decode method_6_code 2 = .ok (.iload_n 2, 1) := by decide +kernel
theorem own_d30_3 : decode method_6_code 3 = .ok (.invokestatic 19, 3) := by decide +kernel
theorem own_d30_6 : decode method_6_code 6 = .ok (.ifCond .eq 7, 3) := by decide +kernel
theorem own_d30_9 : decode method_6_code 9 = .ok (.iconst 2, 1) := by decide +kernel
theorem own_d30_10 : decode method_6_code 10 = .ok (.goto 4, 3) := by decide +kernel
theorem own_d30_13 : decode method_6_code 13 = .ok (.iconst 1, 1) := by decide +kernel
theorem own_d30_14 : decode method_6_code 14 = .ok (.ireturn, 1) := by decide +kernel
theorem own_d31_0 : decode jdk_89_method_18_code 0 = .ok (.iload_n 0, 1) := by decide +kernel
theorem own_d31_1 : decode jdk_89_method_18_code 1 = .ok (.ldc 73, 2) := by decide +kernel
theorem own_d31_3 : decode jdk_89_method_18_code 3 = .ok (.if_icmp .lt 7, 3) := by decide +kernel
theorem own_d31_6 : decode jdk_89_method_18_code 6 = .ok (.iconst 2, 1) := by decide +kernel
theorem own_d31_7 : decode jdk_89_method_18_code 7 = .ok (.goto 4, 3) := by decide +kernel
theorem own_d31_10 : decode jdk_89_method_18_code 10 = .ok (.iconst 1, 1) := by decide +kernel
theorem own_d31_11 : decode jdk_89_method_18_code 11 = .ok (.ireturn, 1) := by decide +kernel
theorem own_d32_0 : decode jdk_89_method_15_code 0 = .ok (.iload_n 0, 1) := by decide +kernel
theorem own_d32_1 : decode jdk_89_method_15_code 1 = .ok (.ldc 76, 2) := by decide +kernel
theorem own_d32_3 : decode jdk_89_method_15_code 3 = .ok (.if_icmp .lt 13, 3) := by decide +kernel
theorem own_d32_6 : decode jdk_89_method_15_code 6 = .ok (.iload_n 0, 1) := by decide +kernel
theorem own_d32_7 : decode jdk_89_method_15_code 7 = .ok (.ldc 77, 2) := by decide +kernel
theorem own_d32_9 : decode jdk_89_method_15_code 9 = .ok (.if_icmp .ge 7, 3) := by decide +kernel
theorem own_d32_12 : decode jdk_89_method_15_code 12 = .ok (.iconst 1, 1) := by decide +kernel
theorem own_d32_13 : decode jdk_89_method_15_code 13 = .ok (.goto 4, 3) := by decide +kernel
theorem own_d32_16 : decode jdk_89_method_15_code 16 = .ok (.iconst 0, 1) := by decide +kernel
theorem own_d32_17 : decode jdk_89_method_15_code 17 = .ok (.ireturn, 1) := by decide +kernel
theorem own_d33_0 : decode jdk_89_method_19_code 0 = .ok (.iload_n 0, 1) := by decide +kernel
theorem own_d33_1 : decode jdk_89_method_19_code 1 = .ok (.bipush 10, 2) := by decide +kernel
theorem own_d33_3 : decode jdk_89_method_19_code 3 = .ok (.ishl, 1) := by decide +kernel
theorem own_d33_4 : decode jdk_89_method_19_code 4 = .ok (.iload_n 1, 1) := by decide +kernel
theorem own_d33_5 : decode jdk_89_method_19_code 5 = .ok (.iadd, 1) := by decide +kernel
theorem own_d33_6 : decode jdk_89_method_19_code 6 = .ok (.ldc 85, 2) := by decide +kernel
theorem own_d33_8 : decode jdk_89_method_19_code 8 = .ok (.iadd, 1) := by decide +kernel
theorem own_d33_9 : decode jdk_89_method_19_code 9 = .ok (.ireturn, 1) := by decide +kernel
theorem own_pn0 : plainFor (⟨"com/example/kunci/kunci/CodePointsComparePinLaw", "mk", "(JI)C"⟩ : MethodName) = true := by first | exact plainFor_of_name (by first | (simp [plainName, overriddenIn]; done) | decide +kernel) | decide +kernel
theorem own_pn1 : plainFor (⟨"java/lang/StringUTF16", "putChar", "([BII)V"⟩ : MethodName) = true := by first | exact plainFor_of_name (by first | (simp [plainName, overriddenIn]; done) | decide +kernel) | decide +kernel
theorem own_pn2 : plainFor (⟨"java/lang/StringUTF16", "getChar", "([BI)C"⟩ : MethodName) = true := by first | exact plainFor_of_name (by first | (simp [plainName, overriddenIn]; done) | decide +kernel) | decide +kernel
theorem own_pn3 : plainFor (⟨"java/lang/StringUTF16", "newBytesLength", "(I)I"⟩ : MethodName) = true := by first | exact plainFor_of_name (by first | (simp [plainName, overriddenIn]; done) | decide +kernel) | decide +kernel
theorem own_pn4 : plainFor (⟨"java/lang/StringUTF16", "newBytesFor", "(I)[B"⟩ : MethodName) = true := by first | exact plainFor_of_name (by first | (simp [plainName, overriddenIn]; done) | decide +kernel) | decide +kernel
theorem own_pn5 : plainFor (⟨"java/lang/StringUTF16", "toBytes", "([CII)[B"⟩ : MethodName) = true := by first | exact plainFor_of_name (by first | (simp [plainName, overriddenIn]; done) | decide +kernel) | decide +kernel
theorem own_pn6 : plainFor (⟨"java/lang/StringUTF16", "compress", "([CI[BII)I"⟩ : MethodName) = true := by first | exact plainFor_of_name (by first | (simp [plainName, overriddenIn]; done) | decide +kernel) | decide +kernel
theorem own_pn7 : plainFor (⟨"java/lang/StringUTF16", "compress", "([CII)[B"⟩ : MethodName) = true := by first | exact plainFor_of_name (by first | (simp [plainName, overriddenIn]; done) | decide +kernel) | decide +kernel
theorem own_pn8 : plainFor (⟨"java/lang/StringUTF16", "coderFromArrayLen", "([BI)B"⟩ : MethodName) = true := by first | exact plainFor_of_name (by first | (simp [plainName, overriddenIn]; done) | decide +kernel) | decide +kernel
theorem own_pn9 : plainFor (⟨"java/lang/String", "<init>", "([CIILjava/lang/Void;)V"⟩ : MethodName) = true := by first | exact plainFor_of_name (by first | (simp [plainName, overriddenIn]; done) | decide +kernel) | decide +kernel
theorem own_pn10 : plainFor (⟨"java/lang/String", "<init>", "([C)V"⟩ : MethodName) = true := by first | exact plainFor_of_name (by first | (simp [plainName, overriddenIn]; done) | decide +kernel) | decide +kernel
theorem own_pn11 : plainFor (⟨"com/example/kunci/kunci/CodePointsComparePinLaw", "str", "([CI)Ljava/lang/String;"⟩ : MethodName) = true := by first | exact plainFor_of_name (by first | (simp [plainName, overriddenIn]; done) | decide +kernel) | decide +kernel
theorem own_pn12 : plainFor (⟨"java/lang/String", "coder", "()B"⟩ : MethodName) = true := by first | exact plainFor_of_name (by first | (simp [plainName, overriddenIn]; done) | decide +kernel) | decide +kernel
theorem own_pn13 : plainFor (⟨"java/lang/String", "length", "()I"⟩ : MethodName) = true := by first | exact plainFor_of_name (by first | (simp [plainName, overriddenIn]; done) | decide +kernel) | decide +kernel
theorem own_pn14 : plainFor (⟨"java/lang/Integer", "compare", "(II)I"⟩ : MethodName) = true := by first | exact plainFor_of_name (by first | (simp [plainName, overriddenIn]; done) | decide +kernel) | decide +kernel
theorem own_pn15 : plainFor (⟨"com/example/kunci/kunci/CodePointsComparePinLaw", "cmp", "(II)I"⟩ : MethodName) = true := by first | exact plainFor_of_name (by first | (simp [plainName, overriddenIn]; done) | decide +kernel) | decide +kernel
theorem own_pn16 : plainFor (⟨"java/lang/Character", "charCount", "(I)I"⟩ : MethodName) = true := by first | exact plainFor_of_name (by first | (simp [plainName, overriddenIn]; done) | decide +kernel) | decide +kernel
theorem own_pn17 : plainFor (⟨"java/lang/Character", "isHighSurrogate", "(C)Z"⟩ : MethodName) = true := by first | exact plainFor_of_name (by first | (simp [plainName, overriddenIn]; done) | decide +kernel) | decide +kernel
theorem own_pn18 : plainFor (⟨"java/lang/Character", "isLowSurrogate", "(C)Z"⟩ : MethodName) = true := by first | exact plainFor_of_name (by first | (simp [plainName, overriddenIn]; done) | decide +kernel) | decide +kernel
theorem own_pn19 : plainFor (⟨"java/lang/Character", "toCodePoint", "(CC)I"⟩ : MethodName) = true := by first | exact plainFor_of_name (by first | (simp [plainName, overriddenIn]; done) | decide +kernel) | decide +kernel
theorem own_pn20 : plainFor (⟨"java/lang/StringUTF16", "codePointAt", "([BIIZ)I"⟩ : MethodName) = true := by first | exact plainFor_of_name (by first | (simp [plainName, overriddenIn]; done) | decide +kernel) | decide +kernel
theorem own_pn21 : plainFor (⟨"java/lang/StringUTF16", "codePointAt", "([BII)I"⟩ : MethodName) = true := by first | exact plainFor_of_name (by first | (simp [plainName, overriddenIn]; done) | decide +kernel) | decide +kernel
theorem own_pn22 : plainFor (⟨"jdk/internal/util/Preconditions", "checkIndex", "(IILjava/util/function/BiFunction;)I"⟩ : MethodName) = true := by first | exact plainFor_of_name (by first | (simp [plainName, overriddenIn]; done) | decide +kernel) | decide +kernel
theorem own_pn23 : plainFor (⟨"java/lang/String", "checkIndex", "(II)V"⟩ : MethodName) = true := by first | exact plainFor_of_name (by first | (simp [plainName, overriddenIn]; done) | decide +kernel) | decide +kernel
theorem own_pn24 : plainFor (⟨"java/lang/String", "isLatin1", "()Z"⟩ : MethodName) = true := by first | exact plainFor_of_name (by first | (simp [plainName, overriddenIn]; done) | decide +kernel) | decide +kernel
theorem own_pn25 : plainFor (⟨"java/lang/String", "codePointAt", "(I)I"⟩ : MethodName) = true := by first | exact plainFor_of_name (by first | (simp [plainName, overriddenIn]; done) | decide +kernel) | decide +kernel
theorem own_pn26 : plainFor (⟨"com/example/kunci/kunci/CodePoints", "compare", "(Ljava/lang/String;Ljava/lang/String;)I"⟩ : MethodName) = true := by first | exact plainFor_of_name (by first | (simp [plainName, overriddenIn]; done) | decide +kernel) | decide +kernel
theorem own_pn27 : plainFor (⟨"com/example/kunci/kunci/CodePointsComparePinLaw", "pairAt", "([CII)Z"⟩ : MethodName) = true := by first | exact plainFor_of_name (by first | (simp [plainName, overriddenIn]; done) | decide +kernel) | decide +kernel
theorem own_pn28 : plainFor (⟨"com/example/kunci/kunci/CodePointsComparePinLaw", "cpAt", "([CII)I"⟩ : MethodName) = true := by first | exact plainFor_of_name (by first | (simp [plainName, overriddenIn]; done) | decide +kernel) | decide +kernel
theorem own_pn29 : plainFor (⟨"com/example/kunci/kunci/CodePointsComparePinLaw", "width", "([CII)I"⟩ : MethodName) = true := by first | exact plainFor_of_name (by first | (simp [plainName, overriddenIn]; done) | decide +kernel) | decide +kernel
theorem own_pn30 : plainFor (⟨"com/example/kunci/kunci/CodePointsComparePinLaw", "decompose", "([CI[I)I"⟩ : MethodName) = true := by first | exact plainFor_of_name (by first | (simp [plainName, overriddenIn]; done) | decide +kernel) | decide +kernel
theorem own_pn31 : plainFor (⟨"com/example/kunci/kunci/CodePointsComparePinLaw", "lex", "([II[II)I"⟩ : MethodName) = true := by first | exact plainFor_of_name (by first | (simp [plainName, overriddenIn]; done) | decide +kernel) | decide +kernel
theorem own_pn32 : plainFor (⟨"com/example/kunci/kunci/CodePointsComparePinLaw", "law", "(JJI)Z"⟩ : MethodName) = true := by first | exact plainFor_of_name (by first | (simp [plainName, overriddenIn]; done) | decide +kernel) | decide +kernel
theorem own_pd0 : parseMethodDescriptor "(I)I" = some ⟨[.int], some .int⟩ := by decide +kernel
theorem own_pd1 : parseMethodDescriptor "(I)[B" = some ⟨[.int], some (.array .byte)⟩ := by decide +kernel
theorem own_pd2 : parseMethodDescriptor "([BII)V" = some ⟨[(.array .byte), .int, .int], none⟩ := by decide +kernel
theorem own_pd3 : parseMethodDescriptor "([CI[BII)I" = some ⟨[(.array .char), .int, (.array .byte), .int, .int], some .int⟩ := by decide +kernel
theorem own_pd4 : parseMethodDescriptor "([CII)[B" = some ⟨[(.array .char), .int, .int], some (.array .byte)⟩ := by decide +kernel
theorem own_pd5 : parseMethodDescriptor "([BI)C" = some ⟨[(.array .byte), .int], some .char⟩ := by decide +kernel
theorem own_pd6 : parseMethodDescriptor "([BI)B" = some ⟨[(.array .byte), .int], some .byte⟩ := by decide +kernel
theorem own_pd7 : parseMethodDescriptor "([CIILjava/lang/Void;)V" = some ⟨[(.array .char), .int, .int, (.object "java/lang/Void")], none⟩ := by decide +kernel
theorem own_pd8 : parseMethodDescriptor "([C)V" = some ⟨[(.array .char)], none⟩ := by decide +kernel
theorem own_pd9 : parseMethodDescriptor "()B" = some ⟨[], some .byte⟩ := by decide +kernel
theorem own_pd10 : parseMethodDescriptor "(C)Z" = some ⟨[.char], some .boolean⟩ := by decide +kernel
theorem own_pd11 : parseMethodDescriptor "(CC)I" = some ⟨[.char, .char], some .int⟩ := by decide +kernel
theorem own_pd12 : parseMethodDescriptor "([BIIZ)I" = some ⟨[(.array .byte), .int, .int, .boolean], some .int⟩ := by decide +kernel
theorem own_pd13 : parseMethodDescriptor "(IILjava/util/function/BiFunction;)I" = some ⟨[.int, .int, (.object "java/util/function/BiFunction")], some .int⟩ := by decide +kernel
theorem own_pd14 : parseMethodDescriptor "()Z" = some ⟨[], some .boolean⟩ := by decide +kernel
theorem own_pd15 : parseMethodDescriptor "(II)V" = some ⟨[.int, .int], none⟩ := by decide +kernel
theorem own_pd16 : parseMethodDescriptor "([BII)I" = some ⟨[(.array .byte), .int, .int], some .int⟩ := by decide +kernel
theorem own_pd17 : parseMethodDescriptor "()I" = some ⟨[], some .int⟩ := by decide +kernel
theorem own_pd18 : parseMethodDescriptor "(II)I" = some ⟨[.int, .int], some .int⟩ := by decide +kernel
theorem own_pd19 : parseMethodDescriptor "([CII)Z" = some ⟨[(.array .char), .int, .int], some .boolean⟩ := by decide +kernel
theorem own_pd20 : parseMethodDescriptor "([CII)I" = some ⟨[(.array .char), .int, .int], some .int⟩ := by decide +kernel
theorem own_pd21 : parseMethodDescriptor "([CI)Ljava/lang/String;" = some ⟨[(.array .char), .int], some (.object "java/lang/String")⟩ := by decide +kernel
theorem own_pd22 : parseMethodDescriptor "(Ljava/lang/String;Ljava/lang/String;)I" = some ⟨[(.object "java/lang/String"), (.object "java/lang/String")], some .int⟩ := by decide +kernel
theorem own_pd23 : parseMethodDescriptor "([CI[I)I" = some ⟨[(.array .char), .int, (.array .int)], some .int⟩ := by decide +kernel
theorem own_pd24 : parseMethodDescriptor "([II[II)I" = some ⟨[(.array .int), .int, (.array .int), .int], some .int⟩ := by decide +kernel
theorem own_pd25 : parseMethodDescriptor "(JI)C" = some ⟨[.long, .int], some .char⟩ := by decide +kernel
theorem own_ef_own_mk (m : MethodId) (x0 : Int64) (x1 : Int32) : entryFrame m #[(.long x0), (.int x1)] 6 = mkF m 0 #[.val (.long x0), .second, iv x1, .unset, .unset, .unset] [] := by first | (simp [entryFrame, mkF, argsToLocals, Value.category]; done) | rfl
theorem own_ef_own_putc (m : MethodId) (x0 : Addr) (x1 : Int32) (x2 : Int32) : entryFrame m #[(.ref x0), (.int x1), (.int x2)] 3 = mkF m 0 #[rv x0, iv x1, iv x2] [] := by first | (simp [entryFrame, mkF, argsToLocals, Value.category]; done) | rfl
theorem own_ef_own_getc (m : MethodId) (x0 : Addr) (x1 : Int32) : entryFrame m #[(.ref x0), (.int x1)] 2 = mkF m 0 #[rv x0, iv x1] [] := by first | (simp [entryFrame, mkF, argsToLocals, Value.category]; done) | rfl
theorem own_ef_own_nbl (m : MethodId) (x0 : Int32) : entryFrame m #[(.int x0)] 1 = mkF m 0 #[iv x0] [] := by first | (simp [entryFrame, mkF, argsToLocals, Value.category]; done) | rfl
theorem own_ef_own_nbf (m : MethodId) (x0 : Int32) : entryFrame m #[(.int x0)] 1 = mkF m 0 #[iv x0] [] := by first | (simp [entryFrame, mkF, argsToLocals, Value.category]; done) | rfl
theorem own_ef_own_tob (m : MethodId) (x0 : Addr) (x1 : Int32) (x2 : Int32) : entryFrame m #[(.ref x0), (.int x1), (.int x2)] 5 = mkF m 0 #[rv x0, iv x1, iv x2, .unset, .unset] [] := by first | (simp [entryFrame, mkF, argsToLocals, Value.category]; done) | rfl
theorem own_ef_own_cmp2 (m : MethodId) (x0 : Addr) (x1 : Int32) (x2 : Addr) (x3 : Int32) (x4 : Int32) : entryFrame m #[(.ref x0), (.int x1), (.ref x2), (.int x3), (.int x4)] 7 = mkF m 0 #[rv x0, iv x1, rv x2, iv x3, iv x4, .unset, .unset] [] := by first | (simp [entryFrame, mkF, argsToLocals, Value.category]; done) | rfl
theorem own_ef_own_cmp1 (m : MethodId) (x0 : Addr) (x1 : Int32) (x2 : Int32) : entryFrame m #[(.ref x0), (.int x1), (.int x2)] 6 = mkF m 0 #[rv x0, iv x1, iv x2, .unset, .unset, .unset] [] := by first | (simp [entryFrame, mkF, argsToLocals, Value.category]; done) | rfl
theorem own_ef_own_cfl (m : MethodId) (x0 : Addr) (x1 : Int32) : entryFrame m #[(.ref x0), (.int x1)] 2 = mkF m 0 #[rv x0, iv x1] [] := by first | (simp [entryFrame, mkF, argsToLocals, Value.category]; done) | rfl
theorem own_ef_own_cfu (m : MethodId) (x0 : Addr) (x1 : Int32) : entryFrame m #[(.ref x0), (.int x1)] 2 = mkF m 0 #[rv x0, iv x1] [] := by first | (simp [entryFrame, mkF, argsToLocals, Value.category]; done) | rfl
theorem own_ef_own_si4 (m : MethodId) (x0 : Addr) (x1 : Addr) (x2 : Int32) (x3 : Int32) : entryFrame m #[(.ref x0), (.ref x1), (.int x2), (.int x3), .null] 6 = mkF m 0 #[rv x0, rv x1, iv x2, iv x3, .val .null, .unset] [] := by first | (simp [entryFrame, mkF, argsToLocals, Value.category]; done) | rfl
theorem own_ef_own_si (m : MethodId) (x0 : Addr) (x1 : Addr) : entryFrame m #[(.ref x0), (.ref x1)] 2 = mkF m 0 #[rv x0, rv x1] [] := by first | (simp [entryFrame, mkF, argsToLocals, Value.category]; done) | rfl
theorem own_ef_own_sie4 (m : MethodId) (x0 : Addr) (x1 : Addr) (x2 : Int32) (x3 : Int32) : entryFrame m #[(.ref x0), (.ref x1), (.int x2), (.int x3), .null] 6 = mkF m 0 #[rv x0, rv x1, iv x2, iv x3, .val .null, .unset] [] := by first | (simp [entryFrame, mkF, argsToLocals, Value.category]; done) | rfl
theorem own_ef_own_sie (m : MethodId) (x0 : Addr) (x1 : Addr) : entryFrame m #[(.ref x0), (.ref x1)] 2 = mkF m 0 #[rv x0, rv x1] [] := by first | (simp [entryFrame, mkF, argsToLocals, Value.category]; done) | rfl
theorem own_ef_own_str (m : MethodId) (x0 : Addr) (x1 : Int32) : entryFrame m #[(.ref x0), (.int x1)] 2 = mkF m 0 #[rv x0, iv x1] [] := by first | (simp [entryFrame, mkF, argsToLocals, Value.category]; done) | rfl
theorem own_ef_own_cod (m : MethodId) (x0 : Addr) : entryFrame m #[(.ref x0)] 1 = mkF m 0 #[rv x0] [] := by first | (simp [entryFrame, mkF, argsToLocals, Value.category]; done) | rfl
theorem own_ef_own_slen (m : MethodId) (x0 : Addr) : entryFrame m #[(.ref x0)] 1 = mkF m 0 #[rv x0] [] := by first | (simp [entryFrame, mkF, argsToLocals, Value.category]; done) | rfl
theorem own_ef_own_icmp (m : MethodId) (x0 : Int32) (x1 : Int32) : entryFrame m #[(.int x0), (.int x1)] 2 = mkF m 0 #[iv x0, iv x1] [] := by first | (simp [entryFrame, mkF, argsToLocals, Value.category]; done) | rfl
theorem own_ef_own_cmpC (m : MethodId) (x0 : Int32) (x1 : Int32) : entryFrame m #[(.int x0), (.int x1)] 2 = mkF m 0 #[iv x0, iv x1] [] := by first | (simp [entryFrame, mkF, argsToLocals, Value.category]; done) | rfl
theorem own_ef_own_cc (m : MethodId) (x0 : Int32) : entryFrame m #[(.int x0)] 1 = mkF m 0 #[iv x0] [] := by first | (simp [entryFrame, mkF, argsToLocals, Value.category]; done) | rfl
theorem own_ef_own_isHighSurrogate (m : MethodId) (x0 : Int32) : entryFrame m #[(.int x0)] 1 = mkF m 0 #[iv x0] [] := by first | (simp [entryFrame, mkF, argsToLocals, Value.category]; done) | rfl
theorem own_ef_own_isLowSurrogate (m : MethodId) (x0 : Int32) : entryFrame m #[(.int x0)] 1 = mkF m 0 #[iv x0] [] := by first | (simp [entryFrame, mkF, argsToLocals, Value.category]; done) | rfl
theorem own_ef_own_tcpC (m : MethodId) (x0 : Int32) (x1 : Int32) : entryFrame m #[(.int x0), (.int x1)] 2 = mkF m 0 #[iv x0, iv x1] [] := by first | (simp [entryFrame, mkF, argsToLocals, Value.category]; done) | rfl
theorem own_ef_own_ucp3 (m : MethodId) (x0 : Addr) (x1 : Int32) (x2 : Int32) (x3 : Int32) : entryFrame m #[(.ref x0), (.int x1), (.int x2), (.int x3)] 6 = mkF m 0 #[rv x0, iv x1, iv x2, iv x3, .unset, .unset] [] := by first | (simp [entryFrame, mkF, argsToLocals, Value.category]; done) | rfl
theorem own_ef_own_ucp2 (m : MethodId) (x0 : Addr) (x1 : Int32) (x2 : Int32) : entryFrame m #[(.ref x0), (.int x1), (.int x2)] 3 = mkF m 0 #[rv x0, iv x1, iv x2] [] := by first | (simp [entryFrame, mkF, argsToLocals, Value.category]; done) | rfl
theorem own_ef_own_pci (m : MethodId) (x0 : Int32) (x1 : Int32) (x2 : Value) (hx2 : x2.isRef = true) : entryFrame m #[(.int x0), (.int x1), x2] 3 = mkF m 0 #[iv x0, iv x1, .val x2] [] := by
  rcases ref_cases hx2 with rfl | ⟨_, rfl⟩
  all_goals first | (simp [entryFrame, mkF, argsToLocals, Value.category]; done) | rfl
theorem own_ef_own_sci (m : MethodId) (x0 : Int32) (x1 : Int32) : entryFrame m #[(.int x0), (.int x1)] 2 = mkF m 0 #[iv x0, iv x1] [] := by first | (simp [entryFrame, mkF, argsToLocals, Value.category]; done) | rfl
theorem own_ef_own_isl (m : MethodId) (x0 : Addr) : entryFrame m #[(.ref x0)] 1 = mkF m 0 #[rv x0] [] := by first | (simp [entryFrame, mkF, argsToLocals, Value.category]; done) | rfl
theorem own_ef_own_cpa (m : MethodId) (x0 : Addr) (x1 : Int32) : entryFrame m #[(.ref x0), (.int x1)] 3 = mkF m 0 #[rv x0, iv x1, .unset] [] := by first | (simp [entryFrame, mkF, argsToLocals, Value.category]; done) | rfl
theorem own_ef_own_cmp (m : MethodId) (x0 : Addr) (x1 : Addr) : entryFrame m #[(.ref x0), (.ref x1)] 5 = mkF m 0 #[rv x0, rv x1, .unset, .unset, .unset] [] := by first | (simp [entryFrame, mkF, argsToLocals, Value.category]; done) | rfl
theorem own_ef_own_pa (m : MethodId) (x0 : Addr) (x1 : Int32) (x2 : Int32) : entryFrame m #[(.ref x0), (.int x1), (.int x2)] 3 = mkF m 0 #[rv x0, iv x1, iv x2] [] := by first | (simp [entryFrame, mkF, argsToLocals, Value.category]; done) | rfl
theorem own_ef_own_cpAt (m : MethodId) (x0 : Addr) (x1 : Int32) (x2 : Int32) : entryFrame m #[(.ref x0), (.int x1), (.int x2)] 3 = mkF m 0 #[rv x0, iv x1, iv x2] [] := by first | (simp [entryFrame, mkF, argsToLocals, Value.category]; done) | rfl
theorem own_ef_own_width (m : MethodId) (x0 : Addr) (x1 : Int32) (x2 : Int32) : entryFrame m #[(.ref x0), (.int x1), (.int x2)] 3 = mkF m 0 #[rv x0, iv x1, iv x2] [] := by first | (simp [entryFrame, mkF, argsToLocals, Value.category]; done) | rfl
theorem own_ef_own_decC (m : MethodId) (x0 : Addr) (x1 : Int32) (x2 : Addr) : entryFrame m #[(.ref x0), (.int x1), (.ref x2)] 5 = mkF m 0 #[rv x0, iv x1, rv x2, .unset, .unset] [] := by first | (simp [entryFrame, mkF, argsToLocals, Value.category]; done) | rfl
theorem own_ef_own_lexC (m : MethodId) (x0 : Addr) (x1 : Int32) (x2 : Addr) (x3 : Int32) : entryFrame m #[(.ref x0), (.int x1), (.ref x2), (.int x3)] 4 = mkF m 0 #[rv x0, iv x1, rv x2, iv x3] [] := by first | (simp [entryFrame, mkF, argsToLocals, Value.category]; done) | rfl
theorem own_ef_own_law (m : MethodId) (x0 : Int64) (x1 : Int64) (x2 : Int32) : entryFrame m #[(.long x0), (.long x1), (.int x2)] maxLocals = mkF m 0 #[.val (.long x0), .second, .val (.long x1), .second, iv x2, .unset, .unset, .unset, .unset, .unset, .unset, .unset, .unset, .unset, .unset, .unset, .unset] [] := by first | (simp [entryFrame, mkF, argsToLocals, Value.category, maxLocals]; done) | rfl
theorem own_wS {a0 : Array Value} {Z : State} (hw : ∀ d ∈ tables_1, d.before a0 Z = true) : ∀ a ∈ Bundle.stringAtoms, a.before a0 Z = true := by
  intro a ha
  simp only [Bundle.stringAtoms, List.mem_cons, List.not_mem_nil, or_false] at ha
  rcases ha with rfl | rfl | rfl | rfl | rfl | rfl | rfl
  · exact (own_w hw 13)
  · exact (own_w hw 12)
  · exact (own_w hw 25)
  · exact (own_w hw 26)
  · exact (own_w hw 27)
  · exact (own_w hw 28)
  · exact (own_w hw 29)

set_option maxRecDepth 65536 in
set_option maxHeartbeats 40000000 in
theorem own_mk (l : Launch) (Z : State) (a0 : Array Value) (hw : ∀ d ∈ tables_1, d.before a0 Z = true) (ws : List Jvm.Cond) (w : Int64) (i : Int32) (h0 : Heap) (n0 : Nat) (Z0 : n0 ≤ h0.size)  :
    own_Met l Z (⟨"com/example/kunci/kunci/CodePointsComparePinLaw", "mk", "(JI)C"⟩ : MethodName) method_2_code 6 (some .char) ws ({ frames := 0, cells := 0, slots := 0, locals := 0 } : Room) #[(.long w), (.int i)] h0 (fun v h L => ∃ c : Int32, v = some (.int c) ∧ (0 ≤ c.toInt ∧ c.toInt ≤ 65535) ∧ Fr n0 L ∧ h = h0) := by
  refine own_body own_pn0 (fun m => mkF m 0 #[.val (.long w), .second, iv i, .unset, .unset, .unset] []) (fun m => own_ef_own_mk m w i) ?_
  intro p e s m below meth c T0 hx hby hml hlk hrt hZ hown hnm X0 e0
  have hown : s.vm.findClass "com/example/kunci/kunci/CodePointsComparePinLaw" = some m.cls := hown
  have N0 := Fr.nil n0
  refine own_g (own_F T0 m 1 #[.val (.long w), .second, iv i, .unset, .unset, .unset] [(.long w)]) (fun _ z_ => XS.lloadN X0.here hx rfl (hb hby own_d1_0) rfl z_) ?_
  refine own_g (own_F T0 m 3 #[.val (.long w), .second, iv i, .unset, .unset, .unset] [(.int 18), (.long w)]) (fun _ z_ => XS.bipush X0.here hx rfl (hb hby own_d1_1) z_) ?_
  refine own_g (own_F T0 m 4 #[.val (.long w), .second, iv i, .unset, .unset, .unset] [(.int i), (.int 18), (.long w)]) (fun _ z_ => XS.iloadN X0.here hx rfl (hb hby own_d1_3) rfl z_) ?_
  refine own_g (own_F T0 m 5 #[.val (.long w), .second, iv i, .unset, .unset, .unset] [(.int ((18 : Int32) * i)), (.long w)]) (fun _ z_ => XS.imul X0.here hx rfl (hb hby own_d1_4) rfl z_) ?_
  refine own_g (own_F T0 m 6 #[.val (.long w), .second, iv i, .unset, .unset, .unset] [(.long ((w.toUInt64 >>> (((18 : Int32) * i) &&& 0x3f).toInt64.toUInt64).toInt64))]) (fun _ z_ => XS.lushr X0.here hx rfl (hb hby own_d1_5) rfl z_) ?_
  refine own_pre (S' := (own_F T0 m 9 #[.val (.long w), .second, iv i, .unset, .unset, .unset] [(.long 262143), (.long ((w.toUInt64 >>> (((18 : Int32) * i) &&& 0x3f).toInt64.toUInt64).toInt64))])) (X0.ldc2Long hx hown (mvT hZ (own_w hw 5)) (g := (mkF m 6 #[.val (.long w), .second, iv i, .unset, .unset, .unset] [(.long ((w.toUInt64 >>> (((18 : Int32) * i) &&& 0x3f).toInt64.toUInt64).toInt64))])) rfl (hb hby own_d1_6)) ?_
  refine own_g (own_F T0 m 10 #[.val (.long w), .second, iv i, .unset, .unset, .unset] [(.long (((w.toUInt64 >>> (((18 : Int32) * i) &&& 0x3f).toInt64.toUInt64).toInt64) &&& (262143 : Int64)))]) (fun _ z_ => XS.land X0.here hx rfl (hb hby own_d1_9) rfl z_) ?_
  refine own_g (own_F T0 m 11 #[.val (.long w), .second, iv i, .unset, .unset, .unset] [(.int ((((w.toUInt64 >>> (((18 : Int32) * i) &&& 0x3f).toInt64.toUInt64).toInt64) &&& (262143 : Int64)).toInt32))]) (fun _ z_ => XS.l2i X0.here hx rfl (hb hby own_d1_10) rfl z_) ?_
  refine own_g (own_F T0 m 12 #[.val (.long w), .second, iv i, iv ((((w.toUInt64 >>> (((18 : Int32) * i) &&& 0x3f).toInt64.toUInt64).toInt64) &&& (262143 : Int64)).toInt32), .unset, .unset] []) (fun _ z_ => XS.istoreN X0.here hx rfl (hb hby own_d1_11) rfl (l' := #[.val (.long w), .second, iv i, iv ((((w.toUInt64 >>> (((18 : Int32) * i) &&& 0x3f).toInt64.toUInt64).toInt64) &&& (262143 : Int64)).toInt32), .unset, .unset]) rfl z_) ?_
  refine own_g (own_F T0 m 13 #[.val (.long w), .second, iv i, iv ((((w.toUInt64 >>> (((18 : Int32) * i) &&& 0x3f).toInt64.toUInt64).toInt64) &&& (262143 : Int64)).toInt32), .unset, .unset] [(.int ((((w.toUInt64 >>> (((18 : Int32) * i) &&& 0x3f).toInt64.toUInt64).toInt64) &&& (262143 : Int64)).toInt32))]) (fun _ z_ => XS.iloadN X0.here hx rfl (hb hby own_d1_12) rfl z_) ?_
  refine own_g (own_F T0 m 14 #[.val (.long w), .second, iv i, iv ((((w.toUInt64 >>> (((18 : Int32) * i) &&& 0x3f).toInt64.toUInt64).toInt64) &&& (262143 : Int64)).toInt32), .unset, .unset] [(.int 3), (.int ((((w.toUInt64 >>> (((18 : Int32) * i) &&& 0x3f).toInt64.toUInt64).toInt64) &&& (262143 : Int64)).toInt32))]) (fun _ z_ => XS.iconst X0.here hx rfl (hb hby own_d1_13) z_) ?_
  refine own_g (own_F T0 m 15 #[.val (.long w), .second, iv i, iv ((((w.toUInt64 >>> (((18 : Int32) * i) &&& 0x3f).toInt64.toUInt64).toInt64) &&& (262143 : Int64)).toInt32), .unset, .unset] [(.int (((((w.toUInt64 >>> (((18 : Int32) * i) &&& 0x3f).toInt64.toUInt64).toInt64) &&& (262143 : Int64)).toInt32) &&& (3 : Int32)))]) (fun _ z_ => XS.iand X0.here hx rfl (hb hby own_d1_14) rfl z_) ?_
  refine own_g (own_F T0 m 17 #[.val (.long w), .second, iv i, iv ((((w.toUInt64 >>> (((18 : Int32) * i) &&& 0x3f).toInt64.toUInt64).toInt64) &&& (262143 : Int64)).toInt32), iv (((((w.toUInt64 >>> (((18 : Int32) * i) &&& 0x3f).toInt64.toUInt64).toInt64) &&& (262143 : Int64)).toInt32) &&& (3 : Int32)), .unset] []) (fun _ z_ => XS.istore X0.here hx rfl (hb hby own_d1_15) rfl (l' := #[.val (.long w), .second, iv i, iv ((((w.toUInt64 >>> (((18 : Int32) * i) &&& 0x3f).toInt64.toUInt64).toInt64) &&& (262143 : Int64)).toInt32), iv (((((w.toUInt64 >>> (((18 : Int32) * i) &&& 0x3f).toInt64.toUInt64).toInt64) &&& (262143 : Int64)).toInt32) &&& (3 : Int32)), .unset]) rfl z_) ?_
  refine own_g (own_F T0 m 18 #[.val (.long w), .second, iv i, iv ((((w.toUInt64 >>> (((18 : Int32) * i) &&& 0x3f).toInt64.toUInt64).toInt64) &&& (262143 : Int64)).toInt32), iv (((((w.toUInt64 >>> (((18 : Int32) * i) &&& 0x3f).toInt64.toUInt64).toInt64) &&& (262143 : Int64)).toInt32) &&& (3 : Int32)), .unset] [(.int ((((w.toUInt64 >>> (((18 : Int32) * i) &&& 0x3f).toInt64.toUInt64).toInt64) &&& (262143 : Int64)).toInt32))]) (fun _ z_ => XS.iloadN X0.here hx rfl (hb hby own_d1_17) rfl z_) ?_
  refine own_g (own_F T0 m 19 #[.val (.long w), .second, iv i, iv ((((w.toUInt64 >>> (((18 : Int32) * i) &&& 0x3f).toInt64.toUInt64).toInt64) &&& (262143 : Int64)).toInt32), iv (((((w.toUInt64 >>> (((18 : Int32) * i) &&& 0x3f).toInt64.toUInt64).toInt64) &&& (262143 : Int64)).toInt32) &&& (3 : Int32)), .unset] [(.int 2), (.int ((((w.toUInt64 >>> (((18 : Int32) * i) &&& 0x3f).toInt64.toUInt64).toInt64) &&& (262143 : Int64)).toInt32))]) (fun _ z_ => XS.iconst X0.here hx rfl (hb hby own_d1_18) z_) ?_
  refine own_g (own_F T0 m 20 #[.val (.long w), .second, iv i, iv ((((w.toUInt64 >>> (((18 : Int32) * i) &&& 0x3f).toInt64.toUInt64).toInt64) &&& (262143 : Int64)).toInt32), iv (((((w.toUInt64 >>> (((18 : Int32) * i) &&& 0x3f).toInt64.toUInt64).toInt64) &&& (262143 : Int64)).toInt32) &&& (3 : Int32)), .unset] [(.int ((((((w.toUInt64 >>> (((18 : Int32) * i) &&& 0x3f).toInt64.toUInt64).toInt64) &&& (262143 : Int64)).toInt32).toUInt32 >>> ((2 : Int32) &&& 31).toUInt32).toInt32))]) (fun _ z_ => XS.iushr X0.here hx rfl (hb hby own_d1_19) rfl z_) ?_
  refine own_g (own_F T0 m 22 #[.val (.long w), .second, iv i, iv ((((w.toUInt64 >>> (((18 : Int32) * i) &&& 0x3f).toInt64.toUInt64).toInt64) &&& (262143 : Int64)).toInt32), iv (((((w.toUInt64 >>> (((18 : Int32) * i) &&& 0x3f).toInt64.toUInt64).toInt64) &&& (262143 : Int64)).toInt32) &&& (3 : Int32)), iv ((((((w.toUInt64 >>> (((18 : Int32) * i) &&& 0x3f).toInt64.toUInt64).toInt64) &&& (262143 : Int64)).toInt32).toUInt32 >>> ((2 : Int32) &&& 31).toUInt32).toInt32)] []) (fun _ z_ => XS.istore X0.here hx rfl (hb hby own_d1_20) rfl (l' := #[.val (.long w), .second, iv i, iv ((((w.toUInt64 >>> (((18 : Int32) * i) &&& 0x3f).toInt64.toUInt64).toInt64) &&& (262143 : Int64)).toInt32), iv (((((w.toUInt64 >>> (((18 : Int32) * i) &&& 0x3f).toInt64.toUInt64).toInt64) &&& (262143 : Int64)).toInt32) &&& (3 : Int32)), iv ((((((w.toUInt64 >>> (((18 : Int32) * i) &&& 0x3f).toInt64.toUInt64).toInt64) &&& (262143 : Int64)).toInt32).toUInt32 >>> ((2 : Int32) &&& 31).toUInt32).toInt32)]) rfl z_) ?_
  refine own_g (own_F T0 m 24 #[.val (.long w), .second, iv i, iv ((((w.toUInt64 >>> (((18 : Int32) * i) &&& 0x3f).toInt64.toUInt64).toInt64) &&& (262143 : Int64)).toInt32), iv (((((w.toUInt64 >>> (((18 : Int32) * i) &&& 0x3f).toInt64.toUInt64).toInt64) &&& (262143 : Int64)).toInt32) &&& (3 : Int32)), iv ((((((w.toUInt64 >>> (((18 : Int32) * i) &&& 0x3f).toInt64.toUInt64).toInt64) &&& (262143 : Int64)).toInt32).toUInt32 >>> ((2 : Int32) &&& 31).toUInt32).toInt32)] [(.int (((((w.toUInt64 >>> (((18 : Int32) * i) &&& 0x3f).toInt64.toUInt64).toInt64) &&& (262143 : Int64)).toInt32) &&& (3 : Int32)))]) (fun _ z_ => XS.iload X0.here hx rfl (hb hby own_d1_22) rfl z_) ?_
  by_cases c24 : (((((w.toUInt64 >>> (((18 : Int32) * i) &&& 0x3f).toInt64.toUInt64).toInt64) &&& (262143 : Int64)).toInt32) &&& (3 : Int32)) = (0 : Int32)
  · -- pc 24: (((((w.toUInt64 >>> (((18 : Int32) * i) &&& 0x3f).toInt64.toUInt64).toInt64) &&& (262143 : Int64)).toInt32) &&& (3 : Int32)) = (0 : Int32)
   refine own_g (own_F T0 m 27 #[.val (.long w), .second, iv i, iv ((((w.toUInt64 >>> (((18 : Int32) * i) &&& 0x3f).toInt64.toUInt64).toInt64) &&& (262143 : Int64)).toInt32), iv (((((w.toUInt64 >>> (((18 : Int32) * i) &&& 0x3f).toInt64.toUInt64).toInt64) &&& (262143 : Int64)).toInt32) &&& (3 : Int32)), iv ((((((w.toUInt64 >>> (((18 : Int32) * i) &&& 0x3f).toInt64.toUInt64).toInt64) &&& (262143 : Int64)).toInt32).toUInt32 >>> ((2 : Int32) &&& 31).toUInt32).toInt32)] []) (fun _ z_ => XS.ifNo X0.here hx rfl (hb hby own_d1_24) rfl ((if0 _ _).trans (teq c24).2) z_) ?_
   refine own_g (own_F T0 m 29 #[.val (.long w), .second, iv i, iv ((((w.toUInt64 >>> (((18 : Int32) * i) &&& 0x3f).toInt64.toUInt64).toInt64) &&& (262143 : Int64)).toInt32), iv (((((w.toUInt64 >>> (((18 : Int32) * i) &&& 0x3f).toInt64.toUInt64).toInt64) &&& (262143 : Int64)).toInt32) &&& (3 : Int32)), iv ((((((w.toUInt64 >>> (((18 : Int32) * i) &&& 0x3f).toInt64.toUInt64).toInt64) &&& (262143 : Int64)).toInt32).toUInt32 >>> ((2 : Int32) &&& 31).toUInt32).toInt32)] [(.int ((((((w.toUInt64 >>> (((18 : Int32) * i) &&& 0x3f).toInt64.toUInt64).toInt64) &&& (262143 : Int64)).toInt32).toUInt32 >>> ((2 : Int32) &&& 31).toUInt32).toInt32))]) (fun _ z_ => XS.iload X0.here hx rfl (hb hby own_d1_27) rfl z_) ?_
   refine own_g (own_F T0 m 30 #[.val (.long w), .second, iv i, iv ((((w.toUInt64 >>> (((18 : Int32) * i) &&& 0x3f).toInt64.toUInt64).toInt64) &&& (262143 : Int64)).toInt32), iv (((((w.toUInt64 >>> (((18 : Int32) * i) &&& 0x3f).toInt64.toUInt64).toInt64) &&& (262143 : Int64)).toInt32) &&& (3 : Int32)), iv ((((((w.toUInt64 >>> (((18 : Int32) * i) &&& 0x3f).toInt64.toUInt64).toInt64) &&& (262143 : Int64)).toInt32).toUInt32 >>> ((2 : Int32) &&& 31).toUInt32).toInt32)] [(.int (((((((w.toUInt64 >>> (((18 : Int32) * i) &&& 0x3f).toInt64.toUInt64).toInt64) &&& (262143 : Int64)).toInt32).toUInt32 >>> ((2 : Int32) &&& 31).toUInt32).toInt32).toUInt32.toUInt16.toUInt32.toInt32))]) (fun _ z_ => XS.i2c X0.here hx rfl (hb hby own_d1_29) rfl z_) ?_
   refine own_ret (t := .char) X0 hx hlk hrt (own_narI _) (Or.inl ⟨rfl, by simp, _, rfl⟩) (hb hby own_d1_30) (by decide) (by decide) ?_
   exact ⟨_, rfl, own_i2cr _, N0, e0⟩
  · -- pc 24: not (((((w.toUInt64 >>> (((18 : Int32) * i) &&& 0x3f).toInt64.toUInt64).toInt64) &&& (262143 : Int64)).toInt32) &&& (3 : Int32)) = (0 : Int32)
   refine own_g (own_F T0 m 31 #[.val (.long w), .second, iv i, iv ((((w.toUInt64 >>> (((18 : Int32) * i) &&& 0x3f).toInt64.toUInt64).toInt64) &&& (262143 : Int64)).toInt32), iv (((((w.toUInt64 >>> (((18 : Int32) * i) &&& 0x3f).toInt64.toUInt64).toInt64) &&& (262143 : Int64)).toInt32) &&& (3 : Int32)), iv ((((((w.toUInt64 >>> (((18 : Int32) * i) &&& 0x3f).toInt64.toUInt64).toInt64) &&& (262143 : Int64)).toInt32).toUInt32 >>> ((2 : Int32) &&& 31).toUInt32).toInt32)] []) (fun _ z_ => XS.ifYes X0.here hx rfl (pc0 := 24) (pc' := 31) rfl (hb hby own_d1_24) rfl ((if0 _ _).trans (feq c24).2) (by decide) (by decide) z_) ?_
   refine own_g (own_F T0 m 33 #[.val (.long w), .second, iv i, iv ((((w.toUInt64 >>> (((18 : Int32) * i) &&& 0x3f).toInt64.toUInt64).toInt64) &&& (262143 : Int64)).toInt32), iv (((((w.toUInt64 >>> (((18 : Int32) * i) &&& 0x3f).toInt64.toUInt64).toInt64) &&& (262143 : Int64)).toInt32) &&& (3 : Int32)), iv ((((((w.toUInt64 >>> (((18 : Int32) * i) &&& 0x3f).toInt64.toUInt64).toInt64) &&& (262143 : Int64)).toInt32).toUInt32 >>> ((2 : Int32) &&& 31).toUInt32).toInt32)] [(.int (((((w.toUInt64 >>> (((18 : Int32) * i) &&& 0x3f).toInt64.toUInt64).toInt64) &&& (262143 : Int64)).toInt32) &&& (3 : Int32)))]) (fun _ z_ => XS.iload X0.here hx rfl (hb hby own_d1_31) rfl z_) ?_
   refine own_g (own_F T0 m 34 #[.val (.long w), .second, iv i, iv ((((w.toUInt64 >>> (((18 : Int32) * i) &&& 0x3f).toInt64.toUInt64).toInt64) &&& (262143 : Int64)).toInt32), iv (((((w.toUInt64 >>> (((18 : Int32) * i) &&& 0x3f).toInt64.toUInt64).toInt64) &&& (262143 : Int64)).toInt32) &&& (3 : Int32)), iv ((((((w.toUInt64 >>> (((18 : Int32) * i) &&& 0x3f).toInt64.toUInt64).toInt64) &&& (262143 : Int64)).toInt32).toUInt32 >>> ((2 : Int32) &&& 31).toUInt32).toInt32)] [(.int 1), (.int (((((w.toUInt64 >>> (((18 : Int32) * i) &&& 0x3f).toInt64.toUInt64).toInt64) &&& (262143 : Int64)).toInt32) &&& (3 : Int32)))]) (fun _ z_ => XS.iconst X0.here hx rfl (hb hby own_d1_33) z_) ?_
   by_cases c34 : (((((w.toUInt64 >>> (((18 : Int32) * i) &&& 0x3f).toInt64.toUInt64).toInt64) &&& (262143 : Int64)).toInt32) &&& (3 : Int32)) = (1 : Int32)
   · -- pc 34: (((((w.toUInt64 >>> (((18 : Int32) * i) &&& 0x3f).toInt64.toUInt64).toInt64) &&& (262143 : Int64)).toInt32) &&& (3 : Int32)) = (1 : Int32)
    refine own_g (own_F T0 m 37 #[.val (.long w), .second, iv i, iv ((((w.toUInt64 >>> (((18 : Int32) * i) &&& 0x3f).toInt64.toUInt64).toInt64) &&& (262143 : Int64)).toInt32), iv (((((w.toUInt64 >>> (((18 : Int32) * i) &&& 0x3f).toInt64.toUInt64).toInt64) &&& (262143 : Int64)).toInt32) &&& (3 : Int32)), iv ((((((w.toUInt64 >>> (((18 : Int32) * i) &&& 0x3f).toInt64.toUInt64).toInt64) &&& (262143 : Int64)).toInt32).toUInt32 >>> ((2 : Int32) &&& 31).toUInt32).toInt32)] []) (fun _ z_ => XS.icmpNo X0.here hx rfl (hb hby own_d1_34) rfl (teq c34).2 z_) ?_
    refine own_pre (S' := (own_F T0 m 39 #[.val (.long w), .second, iv i, iv ((((w.toUInt64 >>> (((18 : Int32) * i) &&& 0x3f).toInt64.toUInt64).toInt64) &&& (262143 : Int64)).toInt32), iv (((((w.toUInt64 >>> (((18 : Int32) * i) &&& 0x3f).toInt64.toUInt64).toInt64) &&& (262143 : Int64)).toInt32) &&& (3 : Int32)), iv ((((((w.toUInt64 >>> (((18 : Int32) * i) &&& 0x3f).toInt64.toUInt64).toInt64) &&& (262143 : Int64)).toInt32).toUInt32 >>> ((2 : Int32) &&& 31).toUInt32).toInt32)] [(.int 55296)])) (X0.ldcInt hx hown (mvT hZ (own_w hw 7)) (g := (mkF m 37 #[.val (.long w), .second, iv i, iv ((((w.toUInt64 >>> (((18 : Int32) * i) &&& 0x3f).toInt64.toUInt64).toInt64) &&& (262143 : Int64)).toInt32), iv (((((w.toUInt64 >>> (((18 : Int32) * i) &&& 0x3f).toInt64.toUInt64).toInt64) &&& (262143 : Int64)).toInt32) &&& (3 : Int32)), iv ((((((w.toUInt64 >>> (((18 : Int32) * i) &&& 0x3f).toInt64.toUInt64).toInt64) &&& (262143 : Int64)).toInt32).toUInt32 >>> ((2 : Int32) &&& 31).toUInt32).toInt32)] [])) rfl (hb hby own_d1_37)) ?_
    refine own_g (own_F T0 m 41 #[.val (.long w), .second, iv i, iv ((((w.toUInt64 >>> (((18 : Int32) * i) &&& 0x3f).toInt64.toUInt64).toInt64) &&& (262143 : Int64)).toInt32), iv (((((w.toUInt64 >>> (((18 : Int32) * i) &&& 0x3f).toInt64.toUInt64).toInt64) &&& (262143 : Int64)).toInt32) &&& (3 : Int32)), iv ((((((w.toUInt64 >>> (((18 : Int32) * i) &&& 0x3f).toInt64.toUInt64).toInt64) &&& (262143 : Int64)).toInt32).toUInt32 >>> ((2 : Int32) &&& 31).toUInt32).toInt32)] [(.int ((((((w.toUInt64 >>> (((18 : Int32) * i) &&& 0x3f).toInt64.toUInt64).toInt64) &&& (262143 : Int64)).toInt32).toUInt32 >>> ((2 : Int32) &&& 31).toUInt32).toInt32)), (.int 55296)]) (fun _ z_ => XS.iload X0.here hx rfl (hb hby own_d1_39) rfl z_) ?_
    refine own_g (own_F T0 m 44 #[.val (.long w), .second, iv i, iv ((((w.toUInt64 >>> (((18 : Int32) * i) &&& 0x3f).toInt64.toUInt64).toInt64) &&& (262143 : Int64)).toInt32), iv (((((w.toUInt64 >>> (((18 : Int32) * i) &&& 0x3f).toInt64.toUInt64).toInt64) &&& (262143 : Int64)).toInt32) &&& (3 : Int32)), iv ((((((w.toUInt64 >>> (((18 : Int32) * i) &&& 0x3f).toInt64.toUInt64).toInt64) &&& (262143 : Int64)).toInt32).toUInt32 >>> ((2 : Int32) &&& 31).toUInt32).toInt32)] [(.int 1023), (.int ((((((w.toUInt64 >>> (((18 : Int32) * i) &&& 0x3f).toInt64.toUInt64).toInt64) &&& (262143 : Int64)).toInt32).toUInt32 >>> ((2 : Int32) &&& 31).toUInt32).toInt32)), (.int 55296)]) (fun _ z_ => XS.sipush X0.here hx rfl (hb hby own_d1_41) z_) ?_
    refine own_g (own_F T0 m 45 #[.val (.long w), .second, iv i, iv ((((w.toUInt64 >>> (((18 : Int32) * i) &&& 0x3f).toInt64.toUInt64).toInt64) &&& (262143 : Int64)).toInt32), iv (((((w.toUInt64 >>> (((18 : Int32) * i) &&& 0x3f).toInt64.toUInt64).toInt64) &&& (262143 : Int64)).toInt32) &&& (3 : Int32)), iv ((((((w.toUInt64 >>> (((18 : Int32) * i) &&& 0x3f).toInt64.toUInt64).toInt64) &&& (262143 : Int64)).toInt32).toUInt32 >>> ((2 : Int32) &&& 31).toUInt32).toInt32)] [(.int (((((((w.toUInt64 >>> (((18 : Int32) * i) &&& 0x3f).toInt64.toUInt64).toInt64) &&& (262143 : Int64)).toInt32).toUInt32 >>> ((2 : Int32) &&& 31).toUInt32).toInt32) &&& (1023 : Int32))), (.int 55296)]) (fun _ z_ => XS.iand X0.here hx rfl (hb hby own_d1_44) rfl z_) ?_
    refine own_g (own_F T0 m 46 #[.val (.long w), .second, iv i, iv ((((w.toUInt64 >>> (((18 : Int32) * i) &&& 0x3f).toInt64.toUInt64).toInt64) &&& (262143 : Int64)).toInt32), iv (((((w.toUInt64 >>> (((18 : Int32) * i) &&& 0x3f).toInt64.toUInt64).toInt64) &&& (262143 : Int64)).toInt32) &&& (3 : Int32)), iv ((((((w.toUInt64 >>> (((18 : Int32) * i) &&& 0x3f).toInt64.toUInt64).toInt64) &&& (262143 : Int64)).toInt32).toUInt32 >>> ((2 : Int32) &&& 31).toUInt32).toInt32)] [(.int ((55296 : Int32) ||| (((((((w.toUInt64 >>> (((18 : Int32) * i) &&& 0x3f).toInt64.toUInt64).toInt64) &&& (262143 : Int64)).toInt32).toUInt32 >>> ((2 : Int32) &&& 31).toUInt32).toInt32) &&& (1023 : Int32))))]) (fun _ z_ => XS.ior X0.here hx rfl (hb hby own_d1_45) rfl z_) ?_
    refine own_g (own_F T0 m 47 #[.val (.long w), .second, iv i, iv ((((w.toUInt64 >>> (((18 : Int32) * i) &&& 0x3f).toInt64.toUInt64).toInt64) &&& (262143 : Int64)).toInt32), iv (((((w.toUInt64 >>> (((18 : Int32) * i) &&& 0x3f).toInt64.toUInt64).toInt64) &&& (262143 : Int64)).toInt32) &&& (3 : Int32)), iv ((((((w.toUInt64 >>> (((18 : Int32) * i) &&& 0x3f).toInt64.toUInt64).toInt64) &&& (262143 : Int64)).toInt32).toUInt32 >>> ((2 : Int32) &&& 31).toUInt32).toInt32)] [(.int (((55296 : Int32) ||| (((((((w.toUInt64 >>> (((18 : Int32) * i) &&& 0x3f).toInt64.toUInt64).toInt64) &&& (262143 : Int64)).toInt32).toUInt32 >>> ((2 : Int32) &&& 31).toUInt32).toInt32) &&& (1023 : Int32))).toUInt32.toUInt16.toUInt32.toInt32))]) (fun _ z_ => XS.i2c X0.here hx rfl (hb hby own_d1_46) rfl z_) ?_
    refine own_ret (t := .char) X0 hx hlk hrt (own_narI _) (Or.inl ⟨rfl, by simp, _, rfl⟩) (hb hby own_d1_47) (by decide) (by decide) ?_
    exact ⟨_, rfl, own_i2cr _, N0, e0⟩
   · -- pc 34: not (((((w.toUInt64 >>> (((18 : Int32) * i) &&& 0x3f).toInt64.toUInt64).toInt64) &&& (262143 : Int64)).toInt32) &&& (3 : Int32)) = (1 : Int32)
    refine own_g (own_F T0 m 48 #[.val (.long w), .second, iv i, iv ((((w.toUInt64 >>> (((18 : Int32) * i) &&& 0x3f).toInt64.toUInt64).toInt64) &&& (262143 : Int64)).toInt32), iv (((((w.toUInt64 >>> (((18 : Int32) * i) &&& 0x3f).toInt64.toUInt64).toInt64) &&& (262143 : Int64)).toInt32) &&& (3 : Int32)), iv ((((((w.toUInt64 >>> (((18 : Int32) * i) &&& 0x3f).toInt64.toUInt64).toInt64) &&& (262143 : Int64)).toInt32).toUInt32 >>> ((2 : Int32) &&& 31).toUInt32).toInt32)] []) (fun _ z_ => XS.icmpYes X0.here hx rfl (pc0 := 34) (pc' := 48) rfl (hb hby own_d1_34) rfl (feq c34).2 (by decide) (by decide) z_) ?_
    refine own_g (own_F T0 m 50 #[.val (.long w), .second, iv i, iv ((((w.toUInt64 >>> (((18 : Int32) * i) &&& 0x3f).toInt64.toUInt64).toInt64) &&& (262143 : Int64)).toInt32), iv (((((w.toUInt64 >>> (((18 : Int32) * i) &&& 0x3f).toInt64.toUInt64).toInt64) &&& (262143 : Int64)).toInt32) &&& (3 : Int32)), iv ((((((w.toUInt64 >>> (((18 : Int32) * i) &&& 0x3f).toInt64.toUInt64).toInt64) &&& (262143 : Int64)).toInt32).toUInt32 >>> ((2 : Int32) &&& 31).toUInt32).toInt32)] [(.int (((((w.toUInt64 >>> (((18 : Int32) * i) &&& 0x3f).toInt64.toUInt64).toInt64) &&& (262143 : Int64)).toInt32) &&& (3 : Int32)))]) (fun _ z_ => XS.iload X0.here hx rfl (hb hby own_d1_48) rfl z_) ?_
    refine own_g (own_F T0 m 51 #[.val (.long w), .second, iv i, iv ((((w.toUInt64 >>> (((18 : Int32) * i) &&& 0x3f).toInt64.toUInt64).toInt64) &&& (262143 : Int64)).toInt32), iv (((((w.toUInt64 >>> (((18 : Int32) * i) &&& 0x3f).toInt64.toUInt64).toInt64) &&& (262143 : Int64)).toInt32) &&& (3 : Int32)), iv ((((((w.toUInt64 >>> (((18 : Int32) * i) &&& 0x3f).toInt64.toUInt64).toInt64) &&& (262143 : Int64)).toInt32).toUInt32 >>> ((2 : Int32) &&& 31).toUInt32).toInt32)] [(.int 2), (.int (((((w.toUInt64 >>> (((18 : Int32) * i) &&& 0x3f).toInt64.toUInt64).toInt64) &&& (262143 : Int64)).toInt32) &&& (3 : Int32)))]) (fun _ z_ => XS.iconst X0.here hx rfl (hb hby own_d1_50) z_) ?_
    by_cases c51 : (((((w.toUInt64 >>> (((18 : Int32) * i) &&& 0x3f).toInt64.toUInt64).toInt64) &&& (262143 : Int64)).toInt32) &&& (3 : Int32)) = (2 : Int32)
    · -- pc 51: (((((w.toUInt64 >>> (((18 : Int32) * i) &&& 0x3f).toInt64.toUInt64).toInt64) &&& (262143 : Int64)).toInt32) &&& (3 : Int32)) = (2 : Int32)
     refine own_g (own_F T0 m 54 #[.val (.long w), .second, iv i, iv ((((w.toUInt64 >>> (((18 : Int32) * i) &&& 0x3f).toInt64.toUInt64).toInt64) &&& (262143 : Int64)).toInt32), iv (((((w.toUInt64 >>> (((18 : Int32) * i) &&& 0x3f).toInt64.toUInt64).toInt64) &&& (262143 : Int64)).toInt32) &&& (3 : Int32)), iv ((((((w.toUInt64 >>> (((18 : Int32) * i) &&& 0x3f).toInt64.toUInt64).toInt64) &&& (262143 : Int64)).toInt32).toUInt32 >>> ((2 : Int32) &&& 31).toUInt32).toInt32)] []) (fun _ z_ => XS.icmpNo X0.here hx rfl (hb hby own_d1_51) rfl (teq c51).2 z_) ?_
     refine own_pre (S' := (own_F T0 m 56 #[.val (.long w), .second, iv i, iv ((((w.toUInt64 >>> (((18 : Int32) * i) &&& 0x3f).toInt64.toUInt64).toInt64) &&& (262143 : Int64)).toInt32), iv (((((w.toUInt64 >>> (((18 : Int32) * i) &&& 0x3f).toInt64.toUInt64).toInt64) &&& (262143 : Int64)).toInt32) &&& (3 : Int32)), iv ((((((w.toUInt64 >>> (((18 : Int32) * i) &&& 0x3f).toInt64.toUInt64).toInt64) &&& (262143 : Int64)).toInt32).toUInt32 >>> ((2 : Int32) &&& 31).toUInt32).toInt32)] [(.int 56320)])) (X0.ldcInt hx hown (mvT hZ (own_w hw 130)) (g := (mkF m 54 #[.val (.long w), .second, iv i, iv ((((w.toUInt64 >>> (((18 : Int32) * i) &&& 0x3f).toInt64.toUInt64).toInt64) &&& (262143 : Int64)).toInt32), iv (((((w.toUInt64 >>> (((18 : Int32) * i) &&& 0x3f).toInt64.toUInt64).toInt64) &&& (262143 : Int64)).toInt32) &&& (3 : Int32)), iv ((((((w.toUInt64 >>> (((18 : Int32) * i) &&& 0x3f).toInt64.toUInt64).toInt64) &&& (262143 : Int64)).toInt32).toUInt32 >>> ((2 : Int32) &&& 31).toUInt32).toInt32)] [])) rfl (hb hby own_d1_54)) ?_
     refine own_g (own_F T0 m 58 #[.val (.long w), .second, iv i, iv ((((w.toUInt64 >>> (((18 : Int32) * i) &&& 0x3f).toInt64.toUInt64).toInt64) &&& (262143 : Int64)).toInt32), iv (((((w.toUInt64 >>> (((18 : Int32) * i) &&& 0x3f).toInt64.toUInt64).toInt64) &&& (262143 : Int64)).toInt32) &&& (3 : Int32)), iv ((((((w.toUInt64 >>> (((18 : Int32) * i) &&& 0x3f).toInt64.toUInt64).toInt64) &&& (262143 : Int64)).toInt32).toUInt32 >>> ((2 : Int32) &&& 31).toUInt32).toInt32)] [(.int ((((((w.toUInt64 >>> (((18 : Int32) * i) &&& 0x3f).toInt64.toUInt64).toInt64) &&& (262143 : Int64)).toInt32).toUInt32 >>> ((2 : Int32) &&& 31).toUInt32).toInt32)), (.int 56320)]) (fun _ z_ => XS.iload X0.here hx rfl (hb hby own_d1_56) rfl z_) ?_
     refine own_g (own_F T0 m 61 #[.val (.long w), .second, iv i, iv ((((w.toUInt64 >>> (((18 : Int32) * i) &&& 0x3f).toInt64.toUInt64).toInt64) &&& (262143 : Int64)).toInt32), iv (((((w.toUInt64 >>> (((18 : Int32) * i) &&& 0x3f).toInt64.toUInt64).toInt64) &&& (262143 : Int64)).toInt32) &&& (3 : Int32)), iv ((((((w.toUInt64 >>> (((18 : Int32) * i) &&& 0x3f).toInt64.toUInt64).toInt64) &&& (262143 : Int64)).toInt32).toUInt32 >>> ((2 : Int32) &&& 31).toUInt32).toInt32)] [(.int 1023), (.int ((((((w.toUInt64 >>> (((18 : Int32) * i) &&& 0x3f).toInt64.toUInt64).toInt64) &&& (262143 : Int64)).toInt32).toUInt32 >>> ((2 : Int32) &&& 31).toUInt32).toInt32)), (.int 56320)]) (fun _ z_ => XS.sipush X0.here hx rfl (hb hby own_d1_58) z_) ?_
     refine own_g (own_F T0 m 62 #[.val (.long w), .second, iv i, iv ((((w.toUInt64 >>> (((18 : Int32) * i) &&& 0x3f).toInt64.toUInt64).toInt64) &&& (262143 : Int64)).toInt32), iv (((((w.toUInt64 >>> (((18 : Int32) * i) &&& 0x3f).toInt64.toUInt64).toInt64) &&& (262143 : Int64)).toInt32) &&& (3 : Int32)), iv ((((((w.toUInt64 >>> (((18 : Int32) * i) &&& 0x3f).toInt64.toUInt64).toInt64) &&& (262143 : Int64)).toInt32).toUInt32 >>> ((2 : Int32) &&& 31).toUInt32).toInt32)] [(.int (((((((w.toUInt64 >>> (((18 : Int32) * i) &&& 0x3f).toInt64.toUInt64).toInt64) &&& (262143 : Int64)).toInt32).toUInt32 >>> ((2 : Int32) &&& 31).toUInt32).toInt32) &&& (1023 : Int32))), (.int 56320)]) (fun _ z_ => XS.iand X0.here hx rfl (hb hby own_d1_61) rfl z_) ?_
     refine own_g (own_F T0 m 63 #[.val (.long w), .second, iv i, iv ((((w.toUInt64 >>> (((18 : Int32) * i) &&& 0x3f).toInt64.toUInt64).toInt64) &&& (262143 : Int64)).toInt32), iv (((((w.toUInt64 >>> (((18 : Int32) * i) &&& 0x3f).toInt64.toUInt64).toInt64) &&& (262143 : Int64)).toInt32) &&& (3 : Int32)), iv ((((((w.toUInt64 >>> (((18 : Int32) * i) &&& 0x3f).toInt64.toUInt64).toInt64) &&& (262143 : Int64)).toInt32).toUInt32 >>> ((2 : Int32) &&& 31).toUInt32).toInt32)] [(.int ((56320 : Int32) ||| (((((((w.toUInt64 >>> (((18 : Int32) * i) &&& 0x3f).toInt64.toUInt64).toInt64) &&& (262143 : Int64)).toInt32).toUInt32 >>> ((2 : Int32) &&& 31).toUInt32).toInt32) &&& (1023 : Int32))))]) (fun _ z_ => XS.ior X0.here hx rfl (hb hby own_d1_62) rfl z_) ?_
     refine own_g (own_F T0 m 64 #[.val (.long w), .second, iv i, iv ((((w.toUInt64 >>> (((18 : Int32) * i) &&& 0x3f).toInt64.toUInt64).toInt64) &&& (262143 : Int64)).toInt32), iv (((((w.toUInt64 >>> (((18 : Int32) * i) &&& 0x3f).toInt64.toUInt64).toInt64) &&& (262143 : Int64)).toInt32) &&& (3 : Int32)), iv ((((((w.toUInt64 >>> (((18 : Int32) * i) &&& 0x3f).toInt64.toUInt64).toInt64) &&& (262143 : Int64)).toInt32).toUInt32 >>> ((2 : Int32) &&& 31).toUInt32).toInt32)] [(.int (((56320 : Int32) ||| (((((((w.toUInt64 >>> (((18 : Int32) * i) &&& 0x3f).toInt64.toUInt64).toInt64) &&& (262143 : Int64)).toInt32).toUInt32 >>> ((2 : Int32) &&& 31).toUInt32).toInt32) &&& (1023 : Int32))).toUInt32.toUInt16.toUInt32.toInt32))]) (fun _ z_ => XS.i2c X0.here hx rfl (hb hby own_d1_63) rfl z_) ?_
     refine own_ret (t := .char) X0 hx hlk hrt (own_narI _) (Or.inl ⟨rfl, by simp, _, rfl⟩) (hb hby own_d1_64) (by decide) (by decide) ?_
     exact ⟨_, rfl, own_i2cr _, N0, e0⟩
    · -- pc 51: not (((((w.toUInt64 >>> (((18 : Int32) * i) &&& 0x3f).toInt64.toUInt64).toInt64) &&& (262143 : Int64)).toInt32) &&& (3 : Int32)) = (2 : Int32)
     refine own_g (own_F T0 m 65 #[.val (.long w), .second, iv i, iv ((((w.toUInt64 >>> (((18 : Int32) * i) &&& 0x3f).toInt64.toUInt64).toInt64) &&& (262143 : Int64)).toInt32), iv (((((w.toUInt64 >>> (((18 : Int32) * i) &&& 0x3f).toInt64.toUInt64).toInt64) &&& (262143 : Int64)).toInt32) &&& (3 : Int32)), iv ((((((w.toUInt64 >>> (((18 : Int32) * i) &&& 0x3f).toInt64.toUInt64).toInt64) &&& (262143 : Int64)).toInt32).toUInt32 >>> ((2 : Int32) &&& 31).toUInt32).toInt32)] []) (fun _ z_ => XS.icmpYes X0.here hx rfl (pc0 := 51) (pc' := 65) rfl (hb hby own_d1_51) rfl (feq c51).2 (by decide) (by decide) z_) ?_
     refine own_pre (S' := (own_F T0 m 67 #[.val (.long w), .second, iv i, iv ((((w.toUInt64 >>> (((18 : Int32) * i) &&& 0x3f).toInt64.toUInt64).toInt64) &&& (262143 : Int64)).toInt32), iv (((((w.toUInt64 >>> (((18 : Int32) * i) &&& 0x3f).toInt64.toUInt64).toInt64) &&& (262143 : Int64)).toInt32) &&& (3 : Int32)), iv ((((((w.toUInt64 >>> (((18 : Int32) * i) &&& 0x3f).toInt64.toUInt64).toInt64) &&& (262143 : Int64)).toInt32).toUInt32 >>> ((2 : Int32) &&& 31).toUInt32).toInt32)] [(.int 57344)])) (X0.ldcInt hx hown (mvT hZ (own_w hw 6)) (g := (mkF m 65 #[.val (.long w), .second, iv i, iv ((((w.toUInt64 >>> (((18 : Int32) * i) &&& 0x3f).toInt64.toUInt64).toInt64) &&& (262143 : Int64)).toInt32), iv (((((w.toUInt64 >>> (((18 : Int32) * i) &&& 0x3f).toInt64.toUInt64).toInt64) &&& (262143 : Int64)).toInt32) &&& (3 : Int32)), iv ((((((w.toUInt64 >>> (((18 : Int32) * i) &&& 0x3f).toInt64.toUInt64).toInt64) &&& (262143 : Int64)).toInt32).toUInt32 >>> ((2 : Int32) &&& 31).toUInt32).toInt32)] [])) rfl (hb hby own_d1_65)) ?_
     refine own_g (own_F T0 m 69 #[.val (.long w), .second, iv i, iv ((((w.toUInt64 >>> (((18 : Int32) * i) &&& 0x3f).toInt64.toUInt64).toInt64) &&& (262143 : Int64)).toInt32), iv (((((w.toUInt64 >>> (((18 : Int32) * i) &&& 0x3f).toInt64.toUInt64).toInt64) &&& (262143 : Int64)).toInt32) &&& (3 : Int32)), iv ((((((w.toUInt64 >>> (((18 : Int32) * i) &&& 0x3f).toInt64.toUInt64).toInt64) &&& (262143 : Int64)).toInt32).toUInt32 >>> ((2 : Int32) &&& 31).toUInt32).toInt32)] [(.int ((((((w.toUInt64 >>> (((18 : Int32) * i) &&& 0x3f).toInt64.toUInt64).toInt64) &&& (262143 : Int64)).toInt32).toUInt32 >>> ((2 : Int32) &&& 31).toUInt32).toInt32)), (.int 57344)]) (fun _ z_ => XS.iload X0.here hx rfl (hb hby own_d1_67) rfl z_) ?_
     refine own_g (own_F T0 m 72 #[.val (.long w), .second, iv i, iv ((((w.toUInt64 >>> (((18 : Int32) * i) &&& 0x3f).toInt64.toUInt64).toInt64) &&& (262143 : Int64)).toInt32), iv (((((w.toUInt64 >>> (((18 : Int32) * i) &&& 0x3f).toInt64.toUInt64).toInt64) &&& (262143 : Int64)).toInt32) &&& (3 : Int32)), iv ((((((w.toUInt64 >>> (((18 : Int32) * i) &&& 0x3f).toInt64.toUInt64).toInt64) &&& (262143 : Int64)).toInt32).toUInt32 >>> ((2 : Int32) &&& 31).toUInt32).toInt32)] [(.int 8191), (.int ((((((w.toUInt64 >>> (((18 : Int32) * i) &&& 0x3f).toInt64.toUInt64).toInt64) &&& (262143 : Int64)).toInt32).toUInt32 >>> ((2 : Int32) &&& 31).toUInt32).toInt32)), (.int 57344)]) (fun _ z_ => XS.sipush X0.here hx rfl (hb hby own_d1_69) z_) ?_
     refine own_g (own_F T0 m 73 #[.val (.long w), .second, iv i, iv ((((w.toUInt64 >>> (((18 : Int32) * i) &&& 0x3f).toInt64.toUInt64).toInt64) &&& (262143 : Int64)).toInt32), iv (((((w.toUInt64 >>> (((18 : Int32) * i) &&& 0x3f).toInt64.toUInt64).toInt64) &&& (262143 : Int64)).toInt32) &&& (3 : Int32)), iv ((((((w.toUInt64 >>> (((18 : Int32) * i) &&& 0x3f).toInt64.toUInt64).toInt64) &&& (262143 : Int64)).toInt32).toUInt32 >>> ((2 : Int32) &&& 31).toUInt32).toInt32)] [(.int (((((((w.toUInt64 >>> (((18 : Int32) * i) &&& 0x3f).toInt64.toUInt64).toInt64) &&& (262143 : Int64)).toInt32).toUInt32 >>> ((2 : Int32) &&& 31).toUInt32).toInt32) &&& (8191 : Int32))), (.int 57344)]) (fun _ z_ => XS.iand X0.here hx rfl (hb hby own_d1_72) rfl z_) ?_
     refine own_g (own_F T0 m 74 #[.val (.long w), .second, iv i, iv ((((w.toUInt64 >>> (((18 : Int32) * i) &&& 0x3f).toInt64.toUInt64).toInt64) &&& (262143 : Int64)).toInt32), iv (((((w.toUInt64 >>> (((18 : Int32) * i) &&& 0x3f).toInt64.toUInt64).toInt64) &&& (262143 : Int64)).toInt32) &&& (3 : Int32)), iv ((((((w.toUInt64 >>> (((18 : Int32) * i) &&& 0x3f).toInt64.toUInt64).toInt64) &&& (262143 : Int64)).toInt32).toUInt32 >>> ((2 : Int32) &&& 31).toUInt32).toInt32)] [(.int ((57344 : Int32) + (((((((w.toUInt64 >>> (((18 : Int32) * i) &&& 0x3f).toInt64.toUInt64).toInt64) &&& (262143 : Int64)).toInt32).toUInt32 >>> ((2 : Int32) &&& 31).toUInt32).toInt32) &&& (8191 : Int32))))]) (fun _ z_ => XS.iadd X0.here hx rfl (hb hby own_d1_73) rfl z_) ?_
     refine own_g (own_F T0 m 75 #[.val (.long w), .second, iv i, iv ((((w.toUInt64 >>> (((18 : Int32) * i) &&& 0x3f).toInt64.toUInt64).toInt64) &&& (262143 : Int64)).toInt32), iv (((((w.toUInt64 >>> (((18 : Int32) * i) &&& 0x3f).toInt64.toUInt64).toInt64) &&& (262143 : Int64)).toInt32) &&& (3 : Int32)), iv ((((((w.toUInt64 >>> (((18 : Int32) * i) &&& 0x3f).toInt64.toUInt64).toInt64) &&& (262143 : Int64)).toInt32).toUInt32 >>> ((2 : Int32) &&& 31).toUInt32).toInt32)] [(.int (((57344 : Int32) + (((((((w.toUInt64 >>> (((18 : Int32) * i) &&& 0x3f).toInt64.toUInt64).toInt64) &&& (262143 : Int64)).toInt32).toUInt32 >>> ((2 : Int32) &&& 31).toUInt32).toInt32) &&& (8191 : Int32))).toUInt32.toUInt16.toUInt32.toInt32))]) (fun _ z_ => XS.i2c X0.here hx rfl (hb hby own_d1_74) rfl z_) ?_
     refine own_ret (t := .char) X0 hx hlk hrt (own_narI _) (Or.inl ⟨rfl, by simp, _, rfl⟩) (hb hby own_d1_75) (by decide) (by decide) ?_
     exact ⟨_, rfl, own_i2cr _, N0, e0⟩
set_option maxRecDepth 65536 in
set_option maxHeartbeats 40000000 in
theorem own_putc (l : Launch) (Z : State) (a0 : Array Value) (hw : ∀ d ∈ tables_1, d.before a0 Z = true) (ws : List Jvm.Cond) (a : Addr) (n k : Nat) (j ch : Int32) (g : Nat → Int32) (h0 : Heap) (n0 : Nat) (Z0 : n0 ≤ h0.size) (hj : j.toInt = (k : Int)) (hk : k < n) (hn : 2 * n < 2 ^ 31) (Aa : own_A Z h0 a .byte (2 * n) (fun i => .int (g i))) (g_a : n0 ≤ a) (S_ad : Sta Z h0 "java/lang/StringUTF16" "$assertionsDisabled" "Z" (.int (1 : Int32))) (S_hi : Sta Z h0 "java/lang/StringUTF16" "HI_BYTE_SHIFT" "I" (.int (0 : Int32))) (S_lo : Sta Z h0 "java/lang/StringUTF16" "LO_BYTE_SHIFT" "I" (.int (8 : Int32))) :
    own_Met l Z (⟨"java/lang/StringUTF16", "putChar", "([BII)V"⟩ : MethodName) jdk_52_method_4_code 3 none ws ({ frames := 0, cells := 0, slots := 0, locals := 0 } : Room) #[(.ref a), (.int j), (.int ch)] h0 (fun v h L => v = none ∧ Fr n0 L ∧ Keep h0 h [a] ∧ ∃ g2 : Nat → Int32, own_A Z h a .byte (2 * n) (fun i => .int (g2 i)) ∧ (∀ i, g2 i = if i = 2 * k + 1 then ((ch >>> ((8 : Int32) &&& 31)).toInt8.toInt32) else if i = 2 * k then ((ch >>> ((0 : Int32) &&& 31)).toInt8.toInt32) else g i)) := by
  refine own_body own_pn1 (fun m => mkF m 0 #[rv a, iv j, iv ch] []) (fun m => own_ef_own_putc m a j ch) ?_
  intro p e s m below meth c T0 hx hby hml hlk hrt hZ hown hnm X0 e0
  have hown : s.vm.findClass "java/lang/StringUTF16" = some m.cls := hown
  have N0 := Fr.nil n0
  obtain ⟨T1, X1, e1, st1⟩ := getS2 X0 hx hZ hown (host := "") (Or.inl (own_w hw 84)) Via.refl e0 S_ad (g := (mkF m 0 #[rv a, iv j, iv ch] [])) rfl (hb hby own_d19_0)
  refine own_pre (S' := (own_F T1 m 3 #[rv a, iv j, iv ch] [(.int 1)])) st1 ?_
  refine own_g (own_F T1 m 28 #[rv a, iv j, iv ch] []) (fun _ z_ => XS.ifYes X1.here hx rfl (pc0 := 3) (pc' := 28) rfl (hb hby own_d19_3) rfl ((if0 _ _).trans (feq (by decide : ¬ ((1 : Int32) = (0 : Int32)))).2) (by decide) (by decide) z_) ?_
  refine own_g (own_F T1 m 29 #[rv a, iv j, iv ch] [(.int j)]) (fun _ z_ => XS.iloadN X1.here hx rfl (hb hby own_d19_28) rfl z_) ?_
  refine own_g (own_F T1 m 30 #[rv a, iv j, iv ch] [(.int 1), (.int j)]) (fun _ z_ => XS.iconst X1.here hx rfl (hb hby own_d19_29) z_) ?_
  refine own_g (own_F T1 m 31 #[rv a, iv j, iv ch] [(.int (j <<< ((1 : Int32) &&& 31)))]) (fun _ z_ => XS.ishl X1.here hx rfl (hb hby own_d19_30) rfl z_) ?_
  refine own_g (own_F T1 m 32 #[rv a, iv (j <<< ((1 : Int32) &&& 31)), iv ch] []) (fun _ z_ => XS.istoreN X1.here hx rfl (hb hby own_d19_31) rfl (l' := #[rv a, iv (j <<< ((1 : Int32) &&& 31)), iv ch]) rfl z_) ?_
  refine own_g (own_F T1 m 33 #[rv a, iv (j <<< ((1 : Int32) &&& 31)), iv ch] [(.ref a)]) (fun _ z_ => XS.aloadN X1.here hx rfl (hb hby own_d19_32) rfl rfl z_) ?_
  refine own_g (own_F T1 m 34 #[rv a, iv (j <<< ((1 : Int32) &&& 31)), iv ch] [(.int (j <<< ((1 : Int32) &&& 31))), (.ref a)]) (fun _ z_ => XS.iloadN X1.here hx rfl (hb hby own_d19_33) rfl z_) ?_
  refine own_g (own_F T1 m 37 #[rv a, iv ((j <<< ((1 : Int32) &&& 31)) + (1 : Int32)), iv ch] [(.int (j <<< ((1 : Int32) &&& 31))), (.ref a)]) (fun _ z_ => XS.iinc X1.here hx rfl (hb hby own_d19_34) rfl (l' := #[rv a, iv ((j <<< ((1 : Int32) &&& 31)) + (1 : Int32)), iv ch]) rfl z_) ?_
  refine own_g (own_F T1 m 38 #[rv a, iv ((j <<< ((1 : Int32) &&& 31)) + (1 : Int32)), iv ch] [(.int ch), (.int (j <<< ((1 : Int32) &&& 31))), (.ref a)]) (fun _ z_ => XS.iloadN X1.here hx rfl (hb hby own_d19_37) rfl z_) ?_
  obtain ⟨T2, X2, e2, st2⟩ := getS2 X1 hx hZ hown (host := "") (Or.inl (own_w hw 85)) Via.refl e1 S_hi (g := (mkF m 38 #[rv a, iv ((j <<< ((1 : Int32) &&& 31)) + (1 : Int32)), iv ch] [(.int ch), (.int (j <<< ((1 : Int32) &&& 31))), (.ref a)])) rfl (hb hby own_d19_38)
  refine own_pre (S' := (own_F T2 m 41 #[rv a, iv ((j <<< ((1 : Int32) &&& 31)) + (1 : Int32)), iv ch] [(.int 0), (.int ch), (.int (j <<< ((1 : Int32) &&& 31))), (.ref a)])) st2 ?_
  refine own_g (own_F T2 m 42 #[rv a, iv ((j <<< ((1 : Int32) &&& 31)) + (1 : Int32)), iv ch] [(.int (ch >>> ((0 : Int32) &&& 31))), (.int (j <<< ((1 : Int32) &&& 31))), (.ref a)]) (fun _ z_ => XS.ishr X2.here hx rfl (hb hby own_d19_41) rfl z_) ?_
  refine own_g (own_F T2 m 43 #[rv a, iv ((j <<< ((1 : Int32) &&& 31)) + (1 : Int32)), iv ch] [(.int ((ch >>> ((0 : Int32) &&& 31)).toInt8.toInt32)), (.int (j <<< ((1 : Int32) &&& 31))), (.ref a)]) (fun _ z_ => XS.i2b X2.here hx rfl (hb hby own_d19_42) rfl z_) ?_
  refine own_bast X2 hx hZ e2 Aa (2 * k) (own_shl1 hj hk hn) (by omega) ((ch >>> ((0 : Int32) &&& 31)).toInt8.toInt32) (own_narB _) (hb hby own_d19_43) ?_
  intro T3 h3 X3 e3 W3 A3
  have N3 := Fr.snoc X3 N0 g_a
  obtain ⟨g3, hg3⟩ : ∃ gq_ : Nat → Int32, gq_ = fun q_ => if q_ = (2 * k) then ((ch >>> ((0 : Int32) &&& 31)).toInt8.toInt32) else g q_ := ⟨_, rfl⟩
  have A3 : own_A Z h3 a .byte (2 * n) (fun q_ => .int (g3 q_)) := by rw [hg3]; exact A3
  show own_Ends p e below s _ _ _ (own_F T3 m 44 #[rv a, iv ((j <<< ((1 : Int32) &&& 31)) + (1 : Int32)), iv ch] [])
  refine own_g (own_F T3 m 45 #[rv a, iv ((j <<< ((1 : Int32) &&& 31)) + (1 : Int32)), iv ch] [(.ref a)]) (fun _ z_ => XS.aloadN X3.here hx rfl (hb hby own_d19_44) rfl rfl z_) ?_
  refine own_g (own_F T3 m 46 #[rv a, iv ((j <<< ((1 : Int32) &&& 31)) + (1 : Int32)), iv ch] [(.int ((j <<< ((1 : Int32) &&& 31)) + (1 : Int32))), (.ref a)]) (fun _ z_ => XS.iloadN X3.here hx rfl (hb hby own_d19_45) rfl z_) ?_
  refine own_g (own_F T3 m 47 #[rv a, iv ((j <<< ((1 : Int32) &&& 31)) + (1 : Int32)), iv ch] [(.int ch), (.int ((j <<< ((1 : Int32) &&& 31)) + (1 : Int32))), (.ref a)]) (fun _ z_ => XS.iloadN X3.here hx rfl (hb hby own_d19_46) rfl z_) ?_
  obtain ⟨T4, X4, e4, st4⟩ := getS2 X3 hx hZ hown (host := "") (Or.inl (own_w hw 86)) Via.refl e3 (S_lo.wr W3) (g := (mkF m 47 #[rv a, iv ((j <<< ((1 : Int32) &&& 31)) + (1 : Int32)), iv ch] [(.int ch), (.int ((j <<< ((1 : Int32) &&& 31)) + (1 : Int32))), (.ref a)])) rfl (hb hby own_d19_47)
  refine own_pre (S' := (own_F T4 m 50 #[rv a, iv ((j <<< ((1 : Int32) &&& 31)) + (1 : Int32)), iv ch] [(.int 8), (.int ch), (.int ((j <<< ((1 : Int32) &&& 31)) + (1 : Int32))), (.ref a)])) st4 ?_
  refine own_g (own_F T4 m 51 #[rv a, iv ((j <<< ((1 : Int32) &&& 31)) + (1 : Int32)), iv ch] [(.int (ch >>> ((8 : Int32) &&& 31))), (.int ((j <<< ((1 : Int32) &&& 31)) + (1 : Int32))), (.ref a)]) (fun _ z_ => XS.ishr X4.here hx rfl (hb hby own_d19_50) rfl z_) ?_
  refine own_g (own_F T4 m 52 #[rv a, iv ((j <<< ((1 : Int32) &&& 31)) + (1 : Int32)), iv ch] [(.int ((ch >>> ((8 : Int32) &&& 31)).toInt8.toInt32)), (.int ((j <<< ((1 : Int32) &&& 31)) + (1 : Int32))), (.ref a)]) (fun _ z_ => XS.i2b X4.here hx rfl (hb hby own_d19_51) rfl z_) ?_
  refine own_bast X4 hx hZ e4 A3 (2 * k + 1) (own_add1 (own_shl1 hj hk hn) (by omega)) (by omega) ((ch >>> ((8 : Int32) &&& 31)).toInt8.toInt32) (own_narB _) (hb hby own_d19_52) ?_
  intro T5 h5 X5 e5 W5 A5
  have N5 := Fr.snoc X5 N3 g_a
  obtain ⟨g5, hg5⟩ : ∃ gq_ : Nat → Int32, gq_ = fun q_ => if q_ = (2 * k + 1) then ((ch >>> ((8 : Int32) &&& 31)).toInt8.toInt32) else g3 q_ := ⟨_, rfl⟩
  have A5 : own_A Z h5 a .byte (2 * n) (fun q_ => .int (g5 q_)) := by rw [hg5]; exact A5
  show own_Ends p e below s _ _ _ (own_F T5 m 53 #[rv a, iv ((j <<< ((1 : Int32) &&& 31)) + (1 : Int32)), iv ch] [])
  refine own_retV X5 hx hlk hrt (hb hby own_d19_53) (by decide) (by decide) ?_
  show _ ∧ Fr n0 _ ∧ Keep h0 T5.heap [a] ∧ ∃ g2 : Nat → Int32, own_A Z T5.heap a .byte (2 * n) (fun i => .int (g2 i)) ∧ _
  rw [e5]
  exact ⟨rfl, N5, (((Keep.refl _ _).wr W3 (Or.inl (List.mem_of_getElem? (i := 0) rfl))).wr W5 (Or.inl (List.mem_of_getElem? (i := 0) rfl))), _, A5, (own_put hg3 hg5)⟩
set_option maxRecDepth 65536 in
set_option maxHeartbeats 40000000 in
theorem own_getc (l : Launch) (Z : State) (a0 : Array Value) (hw : ∀ d ∈ tables_1, d.before a0 Z = true) (ws : List Jvm.Cond) (a : Addr) (n k : Nat) (j : Int32) (f : Nat → Int32) (h0 : Heap) (n0 : Nat) (Z0 : n0 ≤ h0.size) (hj : j.toInt = (k : Int)) (hk : k < n) (hn : 2 * n < 2 ^ 31) (hc : 0 ≤ (f k).toInt ∧ (f k).toInt ≤ 65535) (Aa : own_A Z h0 a .byte (2 * n) (fun i => .int (own_ub f i))) (S_ad : Sta Z h0 "java/lang/StringUTF16" "$assertionsDisabled" "Z" (.int (1 : Int32))) (S_hi : Sta Z h0 "java/lang/StringUTF16" "HI_BYTE_SHIFT" "I" (.int (0 : Int32))) (S_lo : Sta Z h0 "java/lang/StringUTF16" "LO_BYTE_SHIFT" "I" (.int (8 : Int32))) :
    own_Met l Z (⟨"java/lang/StringUTF16", "getChar", "([BI)C"⟩ : MethodName) jdk_52_method_5_code 2 (some .char) ws ({ frames := 0, cells := 0, slots := 0, locals := 0 } : Room) #[(.ref a), (.int j)] h0 (fun v h L => v = some (.int (f k)) ∧ Fr n0 L ∧ h = h0) := by
  refine own_body own_pn2 (fun m => mkF m 0 #[rv a, iv j] []) (fun m => own_ef_own_getc m a j) ?_
  intro p e s m below meth c T0 hx hby hml hlk hrt hZ hown hnm X0 e0
  have hown : s.vm.findClass "java/lang/StringUTF16" = some m.cls := hown
  have N0 := Fr.nil n0
  obtain ⟨T1, X1, e1, st1⟩ := getS2 X0 hx hZ hown (host := "") (Or.inl (own_w hw 84)) Via.refl e0 S_ad (g := (mkF m 0 #[rv a, iv j] [])) rfl (hb hby own_d20_0)
  refine own_pre (S' := (own_F T1 m 3 #[rv a, iv j] [(.int 1)])) st1 ?_
  refine own_g (own_F T1 m 28 #[rv a, iv j] []) (fun _ z_ => XS.ifYes X1.here hx rfl (pc0 := 3) (pc' := 28) rfl (hb hby own_d20_3) rfl ((if0 _ _).trans (feq (by decide : ¬ ((1 : Int32) = (0 : Int32)))).2) (by decide) (by decide) z_) ?_
  refine own_g (own_F T1 m 29 #[rv a, iv j] [(.int j)]) (fun _ z_ => XS.iloadN X1.here hx rfl (hb hby own_d20_28) rfl z_) ?_
  refine own_g (own_F T1 m 30 #[rv a, iv j] [(.int 1), (.int j)]) (fun _ z_ => XS.iconst X1.here hx rfl (hb hby own_d20_29) z_) ?_
  refine own_g (own_F T1 m 31 #[rv a, iv j] [(.int (j <<< ((1 : Int32) &&& 31)))]) (fun _ z_ => XS.ishl X1.here hx rfl (hb hby own_d20_30) rfl z_) ?_
  refine own_g (own_F T1 m 32 #[rv a, iv (j <<< ((1 : Int32) &&& 31))] []) (fun _ z_ => XS.istoreN X1.here hx rfl (hb hby own_d20_31) rfl (l' := #[rv a, iv (j <<< ((1 : Int32) &&& 31))]) rfl z_) ?_
  refine own_g (own_F T1 m 33 #[rv a, iv (j <<< ((1 : Int32) &&& 31))] [(.ref a)]) (fun _ z_ => XS.aloadN X1.here hx rfl (hb hby own_d20_32) rfl rfl z_) ?_
  refine own_g (own_F T1 m 34 #[rv a, iv (j <<< ((1 : Int32) &&& 31))] [(.int (j <<< ((1 : Int32) &&& 31))), (.ref a)]) (fun _ z_ => XS.iloadN X1.here hx rfl (hb hby own_d20_33) rfl z_) ?_
  refine own_g (own_F T1 m 37 #[rv a, iv ((j <<< ((1 : Int32) &&& 31)) + (1 : Int32))] [(.int (j <<< ((1 : Int32) &&& 31))), (.ref a)]) (fun _ z_ => XS.iinc X1.here hx rfl (hb hby own_d20_34) rfl (l' := #[rv a, iv ((j <<< ((1 : Int32) &&& 31)) + (1 : Int32))]) rfl z_) ?_
  refine own_bald X1 hx hZ e1 Aa (2 * k) (own_shl1 hj hk hn) (by omega) (hb hby own_d20_37) ?_
  show own_Ends p e below s _ _ _ (own_F T1 m 38 #[rv a, iv ((j <<< ((1 : Int32) &&& 31)) + (1 : Int32))] [(.int ((own_ub f) (2 * k)))])
  refine own_g (own_F T1 m 41 #[rv a, iv ((j <<< ((1 : Int32) &&& 31)) + (1 : Int32))] [(.int 255), (.int ((own_ub f) (2 * k)))]) (fun _ z_ => XS.sipush X1.here hx rfl (hb hby own_d20_38) z_) ?_
  refine own_g (own_F T1 m 42 #[rv a, iv ((j <<< ((1 : Int32) &&& 31)) + (1 : Int32))] [(.int (((own_ub f) (2 * k)) &&& (255 : Int32)))]) (fun _ z_ => XS.iand X1.here hx rfl (hb hby own_d20_41) rfl z_) ?_
  obtain ⟨T2, X2, e2, st2⟩ := getS2 X1 hx hZ hown (host := "") (Or.inl (own_w hw 85)) Via.refl e1 S_hi (g := (mkF m 42 #[rv a, iv ((j <<< ((1 : Int32) &&& 31)) + (1 : Int32))] [(.int (((own_ub f) (2 * k)) &&& (255 : Int32)))])) rfl (hb hby own_d20_42)
  refine own_pre (S' := (own_F T2 m 45 #[rv a, iv ((j <<< ((1 : Int32) &&& 31)) + (1 : Int32))] [(.int 0), (.int (((own_ub f) (2 * k)) &&& (255 : Int32)))])) st2 ?_
  refine own_g (own_F T2 m 46 #[rv a, iv ((j <<< ((1 : Int32) &&& 31)) + (1 : Int32))] [(.int ((((own_ub f) (2 * k)) &&& (255 : Int32)) <<< ((0 : Int32) &&& 31)))]) (fun _ z_ => XS.ishl X2.here hx rfl (hb hby own_d20_45) rfl z_) ?_
  refine own_g (own_F T2 m 47 #[rv a, iv ((j <<< ((1 : Int32) &&& 31)) + (1 : Int32))] [(.ref a), (.int ((((own_ub f) (2 * k)) &&& (255 : Int32)) <<< ((0 : Int32) &&& 31)))]) (fun _ z_ => XS.aloadN X2.here hx rfl (hb hby own_d20_46) rfl rfl z_) ?_
  refine own_g (own_F T2 m 48 #[rv a, iv ((j <<< ((1 : Int32) &&& 31)) + (1 : Int32))] [(.int ((j <<< ((1 : Int32) &&& 31)) + (1 : Int32))), (.ref a), (.int ((((own_ub f) (2 * k)) &&& (255 : Int32)) <<< ((0 : Int32) &&& 31)))]) (fun _ z_ => XS.iloadN X2.here hx rfl (hb hby own_d20_47) rfl z_) ?_
  refine own_bald X2 hx hZ e2 Aa (2 * k + 1) (own_add1 (own_shl1 hj hk hn) (by omega)) (by omega) (hb hby own_d20_48) ?_
  show own_Ends p e below s _ _ _ (own_F T2 m 49 #[rv a, iv ((j <<< ((1 : Int32) &&& 31)) + (1 : Int32))] [(.int ((own_ub f) (2 * k + 1))), (.int ((((own_ub f) (2 * k)) &&& (255 : Int32)) <<< ((0 : Int32) &&& 31)))])
  refine own_g (own_F T2 m 52 #[rv a, iv ((j <<< ((1 : Int32) &&& 31)) + (1 : Int32))] [(.int 255), (.int ((own_ub f) (2 * k + 1))), (.int ((((own_ub f) (2 * k)) &&& (255 : Int32)) <<< ((0 : Int32) &&& 31)))]) (fun _ z_ => XS.sipush X2.here hx rfl (hb hby own_d20_49) z_) ?_
  refine own_g (own_F T2 m 53 #[rv a, iv ((j <<< ((1 : Int32) &&& 31)) + (1 : Int32))] [(.int (((own_ub f) (2 * k + 1)) &&& (255 : Int32))), (.int ((((own_ub f) (2 * k)) &&& (255 : Int32)) <<< ((0 : Int32) &&& 31)))]) (fun _ z_ => XS.iand X2.here hx rfl (hb hby own_d20_52) rfl z_) ?_
  obtain ⟨T3, X3, e3, st3⟩ := getS2 X2 hx hZ hown (host := "") (Or.inl (own_w hw 86)) Via.refl e2 S_lo (g := (mkF m 53 #[rv a, iv ((j <<< ((1 : Int32) &&& 31)) + (1 : Int32))] [(.int (((own_ub f) (2 * k + 1)) &&& (255 : Int32))), (.int ((((own_ub f) (2 * k)) &&& (255 : Int32)) <<< ((0 : Int32) &&& 31)))])) rfl (hb hby own_d20_53)
  refine own_pre (S' := (own_F T3 m 56 #[rv a, iv ((j <<< ((1 : Int32) &&& 31)) + (1 : Int32))] [(.int 8), (.int (((own_ub f) (2 * k + 1)) &&& (255 : Int32))), (.int ((((own_ub f) (2 * k)) &&& (255 : Int32)) <<< ((0 : Int32) &&& 31)))])) st3 ?_
  refine own_g (own_F T3 m 57 #[rv a, iv ((j <<< ((1 : Int32) &&& 31)) + (1 : Int32))] [(.int ((((own_ub f) (2 * k + 1)) &&& (255 : Int32)) <<< ((8 : Int32) &&& 31))), (.int ((((own_ub f) (2 * k)) &&& (255 : Int32)) <<< ((0 : Int32) &&& 31)))]) (fun _ z_ => XS.ishl X3.here hx rfl (hb hby own_d20_56) rfl z_) ?_
  refine own_g (own_F T3 m 58 #[rv a, iv ((j <<< ((1 : Int32) &&& 31)) + (1 : Int32))] [(.int (((((own_ub f) (2 * k)) &&& (255 : Int32)) <<< ((0 : Int32) &&& 31)) ||| ((((own_ub f) (2 * k + 1)) &&& (255 : Int32)) <<< ((8 : Int32) &&& 31))))]) (fun _ z_ => XS.ior X3.here hx rfl (hb hby own_d20_57) rfl z_) ?_
  refine own_g (own_F T3 m 59 #[rv a, iv ((j <<< ((1 : Int32) &&& 31)) + (1 : Int32))] [(.int ((((((own_ub f) (2 * k)) &&& (255 : Int32)) <<< ((0 : Int32) &&& 31)) ||| ((((own_ub f) (2 * k + 1)) &&& (255 : Int32)) <<< ((8 : Int32) &&& 31))).toUInt32.toUInt16.toUInt32.toInt32))]) (fun _ z_ => XS.i2c X3.here hx rfl (hb hby own_d20_58) rfl z_) ?_
  refine own_ret (t := .char) X3 hx hlk hrt (own_narI _) (Or.inl ⟨rfl, by simp, _, rfl⟩) (hb hby own_d20_59) (by decide) (by decide) ?_
  exact ⟨congrArg (fun z => some (Value.int z)) (by rw [own_ub0, own_ub1]; exact own_get16 hc), N0, e3⟩
set_option maxRecDepth 65536 in
set_option maxHeartbeats 40000000 in
theorem own_nbl (l : Launch) (Z : State) (a0 : Array Value) (hw : ∀ d ∈ tables_1, d.before a0 Z = true) (ws : List Jvm.Cond) (n : Nat) (nn : Int32) (h0 : Heap) (n0 : Nat) (Z0 : n0 ≤ h0.size) (hn : nn.toInt = (n : Int)) (h2 : n < 1000000) :
    own_Met l Z (⟨"java/lang/StringUTF16", "newBytesLength", "(I)I"⟩ : MethodName) jdk_52_method_3_code 1 (some .int) ws ({ frames := 0, cells := 0, slots := 0, locals := 0 } : Room) #[(.int nn)] h0 (fun v h L => v = some (.int (nn <<< ((1 : Int32) &&& 31))) ∧ Fr n0 L ∧ h = h0) := by
  refine own_body own_pn3 (fun m => mkF m 0 #[iv nn] []) (fun m => own_ef_own_nbl m nn) ?_
  intro p e s m below meth c T0 hx hby hml hlk hrt hZ hown hnm X0 e0
  have hown : s.vm.findClass "java/lang/StringUTF16" = some m.cls := hown
  have N0 := Fr.nil n0
  refine own_g (own_F T0 m 1 #[iv nn] [(.int nn)]) (fun _ z_ => XS.iloadN X0.here hx rfl (hb hby own_d18_0) rfl z_) ?_
  refine own_g (own_F T0 m 12 #[iv nn] []) (fun _ z_ => XS.ifYes X0.here hx rfl (pc0 := 1) (pc' := 12) rfl (hb hby own_d18_1) rfl ((if0 _ _).trans (flt (own_n0 hn)).2.1) (by decide) (by decide) z_) ?_
  refine own_g (own_F T0 m 13 #[iv nn] [(.int nn)]) (fun _ z_ => XS.iloadN X0.here hx rfl (hb hby own_d18_12) rfl z_) ?_
  refine own_pre (S' := (own_F T0 m 15 #[iv nn] [(.int 1073741823), (.int nn)])) (X0.ldcInt hx hown (mvT hZ (own_w hw 80)) (g := (mkF m 13 #[iv nn] [(.int nn)])) rfl (hb hby own_d18_13)) ?_
  refine own_g (own_F T0 m 55 #[iv nn] []) (fun _ z_ => XS.icmpYes X0.here hx rfl (pc0 := 15) (pc' := 55) rfl (hb hby own_d18_15) rfl (tlt (own_n1 hn h2)).1 (by decide) (by decide) z_) ?_
  refine own_g (own_F T0 m 56 #[iv nn] [(.int nn)]) (fun _ z_ => XS.iloadN X0.here hx rfl (hb hby own_d18_55) rfl z_) ?_
  refine own_g (own_F T0 m 57 #[iv nn] [(.int 1), (.int nn)]) (fun _ z_ => XS.iconst X0.here hx rfl (hb hby own_d18_56) z_) ?_
  refine own_g (own_F T0 m 58 #[iv nn] [(.int (nn <<< ((1 : Int32) &&& 31)))]) (fun _ z_ => XS.ishl X0.here hx rfl (hb hby own_d18_57) rfl z_) ?_
  refine own_ret (t := .int) X0 hx hlk hrt rfl (Or.inl ⟨rfl, by simp, _, rfl⟩) (hb hby own_d18_58) (by decide) (by decide) ?_
  exact ⟨rfl, N0, e0⟩
set_option maxRecDepth 65536 in
set_option maxHeartbeats 40000000 in
theorem own_nbf (l : Launch) (Z : State) (a0 : Array Value) (hw : ∀ d ∈ tables_1, d.before a0 Z = true) (ws : List Jvm.Cond) (n : Nat) (nn : Int32) (h0 : Heap) (n0 : Nat) (Z0 : n0 ≤ h0.size) (hn : nn.toInt = (n : Int)) (hcap : 2 * n ≤ 6) :
    own_Met l Z (⟨"java/lang/StringUTF16", "newBytesFor", "(I)[B"⟩ : MethodName) jdk_52_method_2_code 1 (some (.array .byte)) ws ({ frames := 1, cells := 1, slots := 6, locals := 12 } : Room) #[(.int nn)] h0 (fun v h L => ∃ b : Addr, v = some (.ref b) ∧ Fr n0 L ∧ Keep h0 h [] ∧ n0 ≤ b ∧ h0.size ≤ b ∧ own_A Z h b .byte (2 * n) (fun i => .int ((fun _ => 0) i))) := by
  refine own_body own_pn4 (fun m => mkF m 0 #[iv nn] []) (fun m => own_ef_own_nbf m nn) ?_
  intro p e s m below meth c T0 hx hby hml hlk hrt hZ hown hnm X0 e0
  have hown : s.vm.findClass "java/lang/StringUTF16" = some m.cls := hown
  have N0 := Fr.nil n0
  refine own_g (own_F T0 m 1 #[iv nn] [(.int nn)]) (fun _ z_ => XS.iloadN X0.here hx rfl (hb hby own_d17_0) rfl z_) ?_
  refine own_callS (y := (⟨"java/lang/StringUTF16", "newBytesLength", "(I)I"⟩ : MethodName)) X0 hx hZ hown (own_w hw 77) (own_w hw 78) (own_w hw 63) (own_w hw 79) (by decide) e0 (hM := own_nbl l Z a0 hw [] n nn h0 n0 Z0 hn (by omega)) (W := 0) (pc := 1) (Ls := #[iv nn]) (argsL := [(.int nn)]) (rest := []) (st0 := [(.int nn)]) (by rw [hml]; rfl) (lenOf own_pd0 rfl) rfl (Nat.le_of_eq rfl) (hb hby own_d17_1) (by decide) (by decide) (by decide) (by decide) ?_
  intro v1 T1 L1 s X1 hZ hown hI1 hvm1 hhp1 hWw1 hQ1
  obtain ⟨rfl, Nq1, hh1⟩ := hQ1
  have N1 := Fr.app N0 Nq1
  show own_Ends p e below s _ _ _ (own_F T1 m 4 #[iv nn] [(.int (nn <<< ((1 : Int32) &&& 31)))])
  refine own_newA X1 hx hZ .byte rfl (own_w hw 25) hh1 (hb hby own_d17_4) (2 * n) (own_shl1' hn (by omega)) 6 (by omega) (by decide) (by decide) (by decide) ?_
  intro T2 h2 b2 X2 e2 E2 g2 A2
  have sz_b2 : h0.size ≤ b2 := Nat.le_trans (Nat.le_refl h0.size) (Nat.le_of_eq g2.symm)
  have ge_b2 : n0 ≤ b2 := Nat.le_trans Z0 (Nat.le_of_eq g2.symm)
  have A2 : own_A Z h2 b2 .byte (2 * n) (fun q_ => .int ((fun _ => (0 : Int32)) q_)) := A2
  show own_Ends p e below s _ _ _ (own_F T2 m 6 #[iv nn] [(.ref b2)])
  refine own_ret (t := (.array .byte)) X2 hx hlk hrt rfl (Or.inr (Or.inr (Or.inr (Or.inr ⟨rfl, rfl, rfl⟩)))) (hb hby own_d17_6) (by decide) (by decide) ?_
  exact ⟨b2, rfl, N1, (e2.symm ▸ ((Keep.refl _ _).ext E2)), ge_b2, sz_b2, (e2.symm ▸ A2)⟩
set_option maxRecDepth 65536 in
set_option maxHeartbeats 40000000 in
theorem own_tob (l : Launch) (Z : State) (a0 : Array Value) (hw : ∀ d ∈ tables_1, d.before a0 Z = true) (ws : List Jvm.Cond) (a : Addr) (n : Nat) (nn : Int32) (f : Nat → Int32) (h0 : Heap) (n0 : Nat) (Z0 : n0 ≤ h0.size) (hn : nn.toInt = (n : Int)) (hcap : 2 * n ≤ 6) (Aa : own_A Z h0 a .char n (fun i => .int (f i))) (S_ad : Sta Z h0 "java/lang/StringUTF16" "$assertionsDisabled" "Z" (.int (1 : Int32))) (S_hi : Sta Z h0 "java/lang/StringUTF16" "HI_BYTE_SHIFT" "I" (.int (0 : Int32))) (S_lo : Sta Z h0 "java/lang/StringUTF16" "LO_BYTE_SHIFT" "I" (.int (8 : Int32))) :
    own_Met l Z (⟨"java/lang/StringUTF16", "toBytes", "([CII)[B"⟩ : MethodName) jdk_52_method_14_code 5 (some (.array .byte)) ws ({ frames := 2, cells := 1, slots := 6, locals := 24 } : Room) #[(.ref a), (.int 0), (.int nn)] h0 (fun v h L => ∃ b : Addr, v = some (.ref b) ∧ Fr n0 L ∧ Keep h0 h [] ∧ n0 ≤ b ∧ h0.size ≤ b ∧ own_A Z h b .byte (2 * n) (fun i => .int (own_ub f i))) := by
  refine own_body own_pn5 (fun m => mkF m 0 #[rv a, iv 0, iv nn, .unset, .unset] []) (fun m => own_ef_own_tob m a (0 : Int32) nn) ?_
  intro p e s m below meth c T0 hx hby hml hlk hrt hZ hown hnm X0 e0
  have hown : s.vm.findClass "java/lang/StringUTF16" = some m.cls := hown
  have N0 := Fr.nil n0
  refine own_g (own_F T0 m 1 #[rv a, iv 0, iv nn, .unset, .unset] [(.int nn)]) (fun _ z_ => XS.iloadN X0.here hx rfl (hb hby own_d16_0) rfl z_) ?_
  refine own_callS (y := (⟨"java/lang/StringUTF16", "newBytesFor", "(I)[B"⟩ : MethodName)) X0 hx hZ hown (own_w hw 74) (own_w hw 75) (own_w hw 63) (own_w hw 76) (by decide) e0 (hM := own_nbf l Z a0 hw [] n nn h0 n0 Z0 hn hcap) (W := 0) (pc := 1) (Ls := #[rv a, iv 0, iv nn, .unset, .unset]) (argsL := [(.int nn)]) (rest := []) (st0 := [(.int nn)]) (by rw [hml]; rfl) (lenOf own_pd1 rfl) rfl (Nat.le_of_eq rfl) (hb hby own_d16_1) (by decide) (by decide) (by decide) (by decide) ?_
  intro v1 T1 L1 s X1 hZ hown hI1 hvm1 hhp1 hWw1 hQ1
  obtain ⟨b1, rfl, Nq1, K1, ge_b1, sz_b1, Ab1⟩ := hQ1
  have N1 := Fr.app N0 Nq1
  show own_Ends p e below s _ _ _ (own_F T1 m 4 #[rv a, iv 0, iv nn, .unset, .unset] [(.ref b1)])
  have ne_ab1 : a ≠ b1 := Nat.ne_of_lt (Nat.lt_of_lt_of_le Aa.lt sz_b1)
  refine own_g (own_F T1 m 5 #[rv a, iv 0, iv nn, rv b1, .unset] []) (fun _ z_ => XS.astoreN X1.here hx rfl (hb hby own_d16_4) rfl rfl (l' := #[rv a, iv 0, iv nn, rv b1, .unset]) rfl z_) ?_
  refine own_g (own_F T1 m 6 #[rv a, iv 0, iv nn, rv b1, .unset] [(.int 0)]) (fun _ z_ => XS.iconst X1.here hx rfl (hb hby own_d16_5) z_) ?_
  refine own_g (own_F T1 m 8 #[rv a, iv 0, iv nn, rv b1, iv 0] []) (fun _ z_ => XS.istore X1.here hx rfl (hb hby own_d16_6) rfl (l' := #[rv a, iv 0, iv nn, rv b1, iv 0]) rfl z_) ?_
  have J : ∀ (r : Nat) (k : Nat) (j : Int32) (g : Nat → Int32) (T2 : State) (lc2 : List Loc) (hp2 : Heap) (s : State) (hZ : Z.Warmed39 s.vm) (hown : s.vm.findClass "java/lang/StringUTF16" = some m.cls) (X2 : Stand p l e ({ frames := 2, cells := 1, slots := 6, locals := 24 } : Room) s m #[(.ref a), (.int 0), (.int nn)] below meth c T2 lc2 1 6) (e2 : T2.heap = hp2) (N2 : Fr n0 lc2) (zs2 : n0 ≤ hp2.size) (zz2 : h0.size ≤ hp2.size) (K2 : Keep h0 hp2 []) (f2_0 : own_A Z hp2 a .char n (fun i => .int (f i))) (f2_1 : own_A Z hp2 b1 .byte (2 * n) (fun i => .int (g i))) (f2_2 : Sta Z hp2 "java/lang/StringUTF16" "$assertionsDisabled" "Z" (.int (1 : Int32))) (f2_3 : Sta Z hp2 "java/lang/StringUTF16" "HI_BYTE_SHIFT" "I" (.int (0 : Int32))) (f2_4 : Sta Z hp2 "java/lang/StringUTF16" "LO_BYTE_SHIFT" "I" (.int (8 : Int32))) (hkr : k + r = n) (hj : j.toInt = (k : Int)) (hg : ∀ i, i < 2 * k → g i = own_ub f i), own_Ends p e below s ((fun v h L _ => ∃ b : Addr, v = some (.ref b) ∧ Fr n0 L ∧ Keep h0 h [] ∧ n0 ≤ b ∧ h0.size ≤ b ∧ own_A Z h b .byte (2 * n) (fun i => .int (own_ub f i))), []) ({ frames := 2, cells := 1, slots := 6, locals := 24 } : Room).cells ({ frames := 2, cells := 1, slots := 6, locals := 24 } : Room).slots (own_F T2 m 8 #[rv a, iv j, iv nn, rv b1, iv j] []) := by
   intro r
   induction r with
   | zero =>
    intro k j g T2 lc2 hp2 s hZ hown X2 e2 N2 zs2 zz2 K2 f2_0 f2_1 f2_2 f2_3 f2_4 hkr hj hg
    refine own_g (own_F T2 m 10 #[rv a, iv j, iv nn, rv b1, iv j] [(.int j)]) (fun _ z_ => XS.iload X2.here hx rfl (hb hby own_d16_8) rfl z_) ?_
    refine own_g (own_F T2 m 11 #[rv a, iv j, iv nn, rv b1, iv j] [(.int nn), (.int j)]) (fun _ z_ => XS.iloadN X2.here hx rfl (hb hby own_d16_10) rfl z_) ?_
    refine own_g (own_F T2 m 32 #[rv a, iv j, iv nn, rv b1, iv j] []) (fun _ z_ => XS.icmpYes X2.here hx rfl (pc0 := 11) (pc' := 32) rfl (hb hby own_d16_11) rfl (flt (own_jge hj hn (by omega))).2.1 (by decide) (by decide) z_) ?_
    refine own_g (own_F T2 m 33 #[rv a, iv j, iv nn, rv b1, iv j] [(.ref b1)]) (fun _ z_ => XS.aloadN X2.here hx rfl (hb hby own_d16_32) rfl rfl z_) ?_
    refine own_ret (t := (.array .byte)) X2 hx hlk hrt rfl (Or.inr (Or.inr (Or.inr (Or.inr ⟨rfl, rfl, rfl⟩)))) (hb hby own_d16_33) (by decide) (by decide) ?_
    show ∃ b : Addr, _ ∧ Fr n0 _ ∧ Keep h0 T2.heap [] ∧ _ ∧ _ ∧ own_A Z T2.heap b .byte (2 * n) _
    rw [e2]
    exact ⟨b1, rfl, N2, K2, ge_b1, sz_b1, (f2_1).congr fun i hi => congrArg Value.int (hg i (by omega))⟩
   | succ r ih =>
    intro k j g T2 lc2 hp2 s hZ hown X2 e2 N2 zs2 zz2 K2 f2_0 f2_1 f2_2 f2_3 f2_4 hkr hj hg
    have hkn : k < n := by omega
    refine own_g (own_F T2 m 10 #[rv a, iv j, iv nn, rv b1, iv j] [(.int j)]) (fun _ z_ => XS.iload X2.here hx rfl (hb hby own_d16_8) rfl z_) ?_
    refine own_g (own_F T2 m 11 #[rv a, iv j, iv nn, rv b1, iv j] [(.int nn), (.int j)]) (fun _ z_ => XS.iloadN X2.here hx rfl (hb hby own_d16_10) rfl z_) ?_
    refine own_g (own_F T2 m 14 #[rv a, iv j, iv nn, rv b1, iv j] []) (fun _ z_ => XS.icmpNo X2.here hx rfl (hb hby own_d16_11) rfl (tlt (own_jlt hj hn hkn)).2.1 z_) ?_
    refine own_g (own_F T2 m 15 #[rv a, iv j, iv nn, rv b1, iv j] [(.ref b1)]) (fun _ z_ => XS.aloadN X2.here hx rfl (hb hby own_d16_14) rfl rfl z_) ?_
    refine own_g (own_F T2 m 17 #[rv a, iv j, iv nn, rv b1, iv j] [(.int j), (.ref b1)]) (fun _ z_ => XS.iload X2.here hx rfl (hb hby own_d16_15) rfl z_) ?_
    refine own_g (own_F T2 m 18 #[rv a, iv j, iv nn, rv b1, iv j] [(.ref a), (.int j), (.ref b1)]) (fun _ z_ => XS.aloadN X2.here hx rfl (hb hby own_d16_17) rfl rfl z_) ?_
    refine own_g (own_F T2 m 19 #[rv a, iv j, iv nn, rv b1, iv j] [(.int j), (.ref a), (.int j), (.ref b1)]) (fun _ z_ => XS.iloadN X2.here hx rfl (hb hby own_d16_18) rfl z_) ?_
    refine own_cald X2 hx hZ e2 f2_0 k hj hkn (hb hby own_d16_19) ?_
    show own_Ends p e below s _ _ _ (own_F T2 m 20 #[rv a, iv j, iv nn, rv b1, iv j] [(.int (f k)), (.int j), (.ref b1)])
    refine own_callS (y := (⟨"java/lang/StringUTF16", "putChar", "([BII)V"⟩ : MethodName)) X2 hx hZ hown (own_w hw 81) (own_w hw 82) (own_w hw 63) (own_w hw 83) (by decide) e2 (hM := own_putc l Z a0 hw [] b1 n k j (f k) g hp2 n0 zs2 hj hkn (by omega) f2_1 ge_b1 f2_2 f2_3 f2_4) (W := 0) (pc := 20) (Ls := #[rv a, iv j, iv nn, rv b1, iv j]) (argsL := [(.ref b1), (.int j), (.int (f k))]) (rest := []) (st0 := [(.int (f k)), (.int j), (.ref b1)]) (by rw [hml]; rfl) (lenOf own_pd2 rfl) rfl (Nat.le_of_eq rfl) (hb hby own_d16_20) (by decide) (by decide) (by decide) (by decide) ?_
    intro v3 T3 L3 s X3 hZ hown hI3 hvm3 hhp3 hWw3 hQ3
    obtain ⟨rfl, Nq3, K3, g3, Ab3, hg3⟩ := hQ3
    have N3 := Fr.app N2 Nq3
    show own_Ends p e below s _ _ _ (own_F T3 m 23 #[rv a, iv j, iv nn, rv b1, iv j] [])
    refine own_g (own_F T3 m 26 #[rv a, iv (j + (1 : Int32)), iv nn, rv b1, iv j] []) (fun _ z_ => XS.iinc X3.here hx rfl (hb hby own_d16_23) rfl (l' := #[rv a, iv (j + (1 : Int32)), iv nn, rv b1, iv j]) rfl z_) ?_
    refine own_g (own_F T3 m 29 #[rv a, iv (j + (1 : Int32)), iv nn, rv b1, iv (j + (1 : Int32))] []) (fun _ z_ => XS.iinc X3.here hx rfl (hb hby own_d16_26) rfl (l' := #[rv a, iv (j + (1 : Int32)), iv nn, rv b1, iv (j + (1 : Int32))]) rfl z_) ?_
    refine own_g (own_F T3 m 8 #[rv a, iv (j + (1 : Int32)), iv nn, rv b1, iv (j + (1 : Int32))] []) (fun _ z_ => XS.goto X3.here hx rfl (pc0 := 29) (pc' := 8) rfl (hb hby own_d16_29) (by decide) (by decide) z_) ?_
    exact ih (k + 1) (j + (1 : Int32)) g3 T3 _ _ s hZ hown X3 (rfl : T3.heap = T3.heap) N3 (Nat.le_trans zs2 K3.1) (Nat.le_trans zz2 K3.1) (K2.trans K3 (allS (Or.inr sz_b1) all0)) (f2_0.keep K3 (ninS ne_ab1 nin0)) Ab3 (own_sta_keep f2_2 K3 (allS (own_plainA f2_1) all0)) (own_sta_keep f2_3 K3 (allS (own_plainA f2_1) all0)) (own_sta_keep f2_4 K3 (allS (own_plainA f2_1) all0)) (by omega) (own_succ hj hkn (by omega)) (own_ubs hg hg3)
  exact J n 0 (0 : Int32) (fun _ => 0) T1 _ _ s hZ hown X1 (rfl : T1.heap = T1.heap) N1 (Nat.le_trans Z0 K1.1) (Nat.le_trans (Nat.le_refl h0.size) K1.1) ((Keep.refl _ _).trans K1 all0) (Aa.keep K1 nin0) Ab1 (own_sta_keep S_ad K1 all0) (own_sta_keep S_hi K1 all0) (own_sta_keep S_lo K1 all0) (by omega) rfl (fun i hi => absurd hi (by omega))
set_option maxRecDepth 65536 in
set_option maxHeartbeats 40000000 in
theorem own_cmp2 (l : Launch) (Z : State) (a0 : Array Value) (hw : ∀ d ∈ tables_1, d.before a0 Z = true) (ws : List Jvm.Cond) (a b : Addr) (n : Nat) (nn : Int32) (f g : Nat → Int32) (h0 : Heap) (n0 : Nat) (Z0 : n0 ≤ h0.size) (hn : nn.toInt = (n : Int)) (hn31 : n < 2 ^ 31) (Aa : own_A Z h0 a .char n (fun i => .int (f i))) (Ab : own_A Z h0 b .byte n (fun i => .int (g i))) (g_b : n0 ≤ b) (ne_ab : a ≠ b) :
    own_Met l Z (⟨"java/lang/StringUTF16", "compress", "([CI[BII)I"⟩ : MethodName) jdk_52_method_21_code 7 (some .int) ws ({ frames := 0, cells := 0, slots := 0, locals := 0 } : Room) #[(.ref a), (.int 0), (.ref b), (.int 0), (.int nn)] h0 (fun v h L => ∃ rr : Nat, (∃ jj : Int32, v = some (.int jj) ∧ jj.toInt = (rr : Int)) ∧ Fr n0 L ∧ Keep h0 h [b] ∧ (rr = n ∧ (∀ i, i < n → (f i).toInt ≤ 255) ∧ own_A Z h b .byte n (fun i => .int ((f i).toInt8.toInt32)) ∨ rr < n ∧ 255 < (f rr).toInt ∧ ∃ g' : Nat → Int32, own_A Z h b .byte n (fun i => .int (g' i)))) := by
  refine own_body own_pn6 (fun m => mkF m 0 #[rv a, iv 0, rv b, iv 0, iv nn, .unset, .unset] []) (fun m => own_ef_own_cmp2 m a (0 : Int32) b (0 : Int32) nn) ?_
  intro p e s m below meth c T0 hx hby hml hlk hrt hZ hown hnm X0 e0
  have hown : s.vm.findClass "java/lang/StringUTF16" = some m.cls := hown
  have N0 := Fr.nil n0
  have J : ∀ (r : Nat) (k : Nat) (j : Int32) (s6 : Slot) (g : Nat → Int32) (T1 : State) (lc1 : List Loc) (hp1 : Heap) (s : State) (hZ : Z.Warmed39 s.vm) (hown : s.vm.findClass "java/lang/StringUTF16" = some m.cls) (X1 : Stand p l e ({ frames := 0, cells := 0, slots := 0, locals := 0 } : Room) s m #[(.ref a), (.int 0), (.ref b), (.int 0), (.int nn)] below meth c T1 lc1 0 0) (e1 : T1.heap = hp1) (N1 : Fr n0 lc1) (zs1 : n0 ≤ hp1.size) (zz1 : h0.size ≤ hp1.size) (K1 : Keep h0 hp1 [b]) (f1_0 : own_A Z hp1 a .char n (fun i => .int (f i))) (f1_1 : own_A Z hp1 b .byte n (fun i => .int (g i))) (hkr : k + r = n) (hj : j.toInt = (k : Int)) (hs6 : One s6) (hg : ∀ i, i < k → g i = (f i).toInt8.toInt32) (hl : ∀ i, i < k → (f i).toInt ≤ 255), own_Ends p e below s ((fun v h L _ => ∃ rr : Nat, (∃ jj : Int32, v = some (.int jj) ∧ jj.toInt = (rr : Int)) ∧ Fr n0 L ∧ Keep h0 h [b] ∧ (rr = n ∧ (∀ i, i < n → (f i).toInt ≤ 255) ∧ own_A Z h b .byte n (fun i => .int ((f i).toInt8.toInt32)) ∨ rr < n ∧ 255 < (f rr).toInt ∧ ∃ g' : Nat → Int32, own_A Z h b .byte n (fun i => .int (g' i)))), []) ({ frames := 0, cells := 0, slots := 0, locals := 0 } : Room).cells ({ frames := 0, cells := 0, slots := 0, locals := 0 } : Room).slots (own_F T1 m 3 #[rv a, iv j, rv b, iv j, iv nn, iv j, s6] []) := by
   intro r
   induction r with
   | zero =>
    intro k j s6 g T1 lc1 hp1 s hZ hown X1 e1 N1 zs1 zz1 K1 f1_0 f1_1 hkr hj hs6 hg hl
    refine own_g (own_F T1 m 5 #[rv a, iv j, rv b, iv j, iv nn, iv j, s6] [(.int j)]) (fun _ z_ => XS.iload X1.here hx rfl (hb hby own_d14_3) rfl z_) ?_
    refine own_g (own_F T1 m 7 #[rv a, iv j, rv b, iv j, iv nn, iv j, s6] [(.int nn), (.int j)]) (fun _ z_ => XS.iload X1.here hx rfl (hb hby own_d14_5) rfl z_) ?_
    refine own_g (own_F T1 m 44 #[rv a, iv j, rv b, iv j, iv nn, iv j, s6] []) (fun _ z_ => XS.icmpYes X1.here hx rfl (pc0 := 7) (pc' := 44) rfl (hb hby own_d14_7) rfl (flt (own_jge hj hn (by omega))).2.1 (by decide) (by decide) z_) ?_
    refine own_g (own_F T1 m 46 #[rv a, iv j, rv b, iv j, iv nn, iv j, s6] [(.int nn)]) (fun _ z_ => XS.iload X1.here hx rfl (hb hby own_d14_44) rfl z_) ?_
    refine own_ret (t := .int) X1 hx hlk hrt rfl (Or.inl ⟨rfl, by simp, _, rfl⟩) (hb hby own_d14_46) (by decide) (by decide) ?_
    show ∃ (rr : Nat), _ ∧ Fr n0 _ ∧ Keep h0 T1.heap [b] ∧ (_ ∧ _ ∧ own_A Z T1.heap b .byte n _ ∨ _ ∧ _ ∧ ∃ g', own_A Z T1.heap b .byte n _)
    rw [e1]
    exact ⟨n, ⟨nn, rfl, hn⟩, N1, K1, Or.inl ⟨rfl, fun i hi => hl i (by omega), (f1_1).congr fun i hi => congrArg Value.int (hg i (by omega))⟩⟩
   | succ r ih =>
    intro k j s6 g T1 lc1 hp1 s hZ hown X1 e1 N1 zs1 zz1 K1 f1_0 f1_1 hkr hj hs6 hg hl
    have hkn : k < n := by omega
    refine own_g (own_F T1 m 5 #[rv a, iv j, rv b, iv j, iv nn, iv j, s6] [(.int j)]) (fun _ z_ => XS.iload X1.here hx rfl (hb hby own_d14_3) rfl z_) ?_
    refine own_g (own_F T1 m 7 #[rv a, iv j, rv b, iv j, iv nn, iv j, s6] [(.int nn), (.int j)]) (fun _ z_ => XS.iload X1.here hx rfl (hb hby own_d14_5) rfl z_) ?_
    refine own_g (own_F T1 m 10 #[rv a, iv j, rv b, iv j, iv nn, iv j, s6] []) (fun _ z_ => XS.icmpNo X1.here hx rfl (hb hby own_d14_7) rfl (tlt (own_jlt hj hn hkn)).2.1 z_) ?_
    refine own_g (own_F T1 m 11 #[rv a, iv j, rv b, iv j, iv nn, iv j, s6] [(.ref a)]) (fun _ z_ => XS.aloadN X1.here hx rfl (hb hby own_d14_10) rfl rfl z_) ?_
    refine own_g (own_F T1 m 12 #[rv a, iv j, rv b, iv j, iv nn, iv j, s6] [(.int j), (.ref a)]) (fun _ z_ => XS.iloadN X1.here hx rfl (hb hby own_d14_11) rfl z_) ?_
    refine own_cald X1 hx hZ e1 f1_0 k hj hkn (hb hby own_d14_12) ?_
    show own_Ends p e below s _ _ _ (own_F T1 m 13 #[rv a, iv j, rv b, iv j, iv nn, iv j, s6] [(.int (f k))])
    refine own_g (own_F T1 m 15 #[rv a, iv j, rv b, iv j, iv nn, iv j, iv (f k)] []) (fun _ z_ => XS.istore X1.here hx rfl (hb hby own_d14_13) rfl (l' := #[rv a, iv j, rv b, iv j, iv nn, iv j, iv (f k)]) (own_st1 rfl hs6 rfl rfl) z_) ?_
    refine own_g (own_F T1 m 17 #[rv a, iv j, rv b, iv j, iv nn, iv j, iv (f k)] [(.int (f k))]) (fun _ z_ => XS.iload X1.here hx rfl (hb hby own_d14_15) rfl z_) ?_
    refine own_g (own_F T1 m 20 #[rv a, iv j, rv b, iv j, iv nn, iv j, iv (f k)] [(.int 255), (.int (f k))]) (fun _ z_ => XS.sipush X1.here hx rfl (hb hby own_d14_17) z_) ?_
    by_cases c20 : (255 : Int32) < (f k)
    · -- pc 20: (255 : Int32) < (f k)
     refine own_g (own_F T1 m 23 #[rv a, iv j, rv b, iv j, iv nn, iv j, iv (f k)] []) (fun _ z_ => XS.icmpNo X1.here hx rfl (hb hby own_d14_20) rfl (tlt c20).2.2.2 z_) ?_
     refine own_g (own_F T1 m 25 #[rv a, iv j, rv b, iv j, iv nn, iv j, iv (f k)] [(.int j)]) (fun _ z_ => XS.iload X1.here hx rfl (hb hby own_d14_23) rfl z_) ?_
     refine own_ret (t := .int) X1 hx hlk hrt rfl (Or.inl ⟨rfl, by simp, _, rfl⟩) (hb hby own_d14_25) (by decide) (by decide) ?_
     show ∃ (rr : Nat), _ ∧ Fr n0 _ ∧ Keep h0 T1.heap [b] ∧ (_ ∧ _ ∧ own_A Z T1.heap b .byte n _ ∨ _ ∧ _ ∧ ∃ g', own_A Z T1.heap b .byte n _)
     rw [e1]
     exact ⟨k, ⟨j, rfl, hj⟩, N1, K1, Or.inr ⟨hkn, own_gt255 c20, g, f1_1⟩⟩
    · -- pc 20: not (255 : Int32) < (f k)
     refine own_g (own_F T1 m 26 #[rv a, iv j, rv b, iv j, iv nn, iv j, iv (f k)] []) (fun _ z_ => XS.icmpYes X1.here hx rfl (pc0 := 20) (pc' := 26) rfl (hb hby own_d14_20) rfl (flt c20).2.2.2 (by decide) (by decide) z_) ?_
     refine own_g (own_F T1 m 27 #[rv a, iv j, rv b, iv j, iv nn, iv j, iv (f k)] [(.ref b)]) (fun _ z_ => XS.aloadN X1.here hx rfl (hb hby own_d14_26) rfl rfl z_) ?_
     refine own_g (own_F T1 m 28 #[rv a, iv j, rv b, iv j, iv nn, iv j, iv (f k)] [(.int j), (.ref b)]) (fun _ z_ => XS.iloadN X1.here hx rfl (hb hby own_d14_27) rfl z_) ?_
     refine own_g (own_F T1 m 30 #[rv a, iv j, rv b, iv j, iv nn, iv j, iv (f k)] [(.int (f k)), (.int j), (.ref b)]) (fun _ z_ => XS.iload X1.here hx rfl (hb hby own_d14_28) rfl z_) ?_
     refine own_g (own_F T1 m 31 #[rv a, iv j, rv b, iv j, iv nn, iv j, iv (f k)] [(.int ((f k).toInt8.toInt32)), (.int j), (.ref b)]) (fun _ z_ => XS.i2b X1.here hx rfl (hb hby own_d14_30) rfl z_) ?_
     refine own_bast X1 hx hZ e1 f1_1 k hj hkn ((f k).toInt8.toInt32) (own_narB _) (hb hby own_d14_31) ?_
     intro T2 h2 X2 e2 W2 A2
     have N2 := Fr.snoc X2 N1 g_b
     obtain ⟨g2, hg2⟩ : ∃ gq_ : Nat → Int32, gq_ = fun q_ => if q_ = k then ((f k).toInt8.toInt32) else g q_ := ⟨_, rfl⟩
     have A2 : own_A Z h2 b .byte n (fun q_ => .int (g2 q_)) := by rw [hg2]; exact A2
     show own_Ends p e below s _ _ _ (own_F T2 m 32 #[rv a, iv j, rv b, iv j, iv nn, iv j, iv (f k)] [])
     refine own_g (own_F T2 m 35 #[rv a, iv (j + (1 : Int32)), rv b, iv j, iv nn, iv j, iv (f k)] []) (fun _ z_ => XS.iinc X2.here hx rfl (hb hby own_d14_32) rfl (l' := #[rv a, iv (j + (1 : Int32)), rv b, iv j, iv nn, iv j, iv (f k)]) rfl z_) ?_
     refine own_g (own_F T2 m 38 #[rv a, iv (j + (1 : Int32)), rv b, iv (j + (1 : Int32)), iv nn, iv j, iv (f k)] []) (fun _ z_ => XS.iinc X2.here hx rfl (hb hby own_d14_35) rfl (l' := #[rv a, iv (j + (1 : Int32)), rv b, iv (j + (1 : Int32)), iv nn, iv j, iv (f k)]) rfl z_) ?_
     refine own_g (own_F T2 m 41 #[rv a, iv (j + (1 : Int32)), rv b, iv (j + (1 : Int32)), iv nn, iv (j + (1 : Int32)), iv (f k)] []) (fun _ z_ => XS.iinc X2.here hx rfl (hb hby own_d14_38) rfl (l' := #[rv a, iv (j + (1 : Int32)), rv b, iv (j + (1 : Int32)), iv nn, iv (j + (1 : Int32)), iv (f k)]) rfl z_) ?_
     refine own_g (own_F T2 m 3 #[rv a, iv (j + (1 : Int32)), rv b, iv (j + (1 : Int32)), iv nn, iv (j + (1 : Int32)), iv (f k)] []) (fun _ z_ => XS.goto X2.here hx rfl (pc0 := 41) (pc' := 3) rfl (hb hby own_d14_41) (by decide) (by decide) z_) ?_
     exact ih (k + 1) (j + (1 : Int32)) _ g2 T2 _ _ s hZ hown X2 e2 N2 (Nat.le_trans zs1 (Nat.le_of_eq W2.size.symm)) (Nat.le_trans zz1 (Nat.le_of_eq W2.size.symm)) (K1.wr W2 (Or.inl (List.mem_of_getElem? (i := 0) rfl))) (f1_0.other W2 ne_ab) A2 (by omega) (own_succ hj hkn hn31) (One.val rfl) (own_gstep hg hg2 rfl) (own_lstep hl c20)
  refine own_g (own_F T0 m 1 #[rv a, iv 0, rv b, iv 0, iv nn, .unset, .unset] [(.int 0)]) (fun _ z_ => XS.iconst X0.here hx rfl (hb hby own_d14_0) z_) ?_
  refine own_g (own_F T0 m 3 #[rv a, iv 0, rv b, iv 0, iv nn, iv 0, .unset] []) (fun _ z_ => XS.istore X0.here hx rfl (hb hby own_d14_1) rfl (l' := #[rv a, iv 0, rv b, iv 0, iv nn, iv 0, .unset]) rfl z_) ?_
  exact J n 0 (0 : Int32) _ g T0 _ _ s hZ hown X0 e0 N0 Z0 (Nat.le_refl h0.size) (Keep.refl _ _) Aa Ab (by omega) rfl (One.u) (fun i hi => absurd hi (Nat.not_lt_zero i)) (fun i hi => absurd hi (Nat.not_lt_zero i))
set_option maxRecDepth 65536 in
set_option maxHeartbeats 40000000 in
theorem own_cmp1 (l : Launch) (Z : State) (a0 : Array Value) (hw : ∀ d ∈ tables_1, d.before a0 Z = true) (ws : List Jvm.Cond) (a : Addr) (n : Nat) (nn : Int32) (f : Nat → Int32) (h0 : Heap) (n0 : Nat) (Z0 : n0 ≤ h0.size) (hn : nn.toInt = (n : Int)) (hcap : 2 * n ≤ 6) (Aa : own_A Z h0 a .char n (fun i => .int (f i))) (hf : ∀ i, i < n → 0 ≤ (f i).toInt ∧ (f i).toInt ≤ 65535) (S_ad : Sta Z h0 "java/lang/StringUTF16" "$assertionsDisabled" "Z" (.int (1 : Int32))) (S_hi : Sta Z h0 "java/lang/StringUTF16" "HI_BYTE_SHIFT" "I" (.int (0 : Int32))) (S_lo : Sta Z h0 "java/lang/StringUTF16" "LO_BYTE_SHIFT" "I" (.int (8 : Int32))) :
    own_Met l Z (⟨"java/lang/StringUTF16", "compress", "([CII)[B"⟩ : MethodName) jdk_52_method_16_code 6 (some (.array .byte)) ws ({ frames := 3, cells := 2, slots := 12, locals := 40 } : Room) #[(.ref a), (.int 0), (.int nn)] h0 (fun v h L => ∃ b : Addr, v = some (.ref b) ∧ Fr n0 L ∧ Keep h0 h [] ∧ n0 ≤ b ∧ h0.size ≤ b ∧ ((∀ i, i < n → (f i).toInt ≤ 255) ∧ own_A Z h b .byte n (fun i => .int ((f i).toInt8.toInt32)) ∨ own_A Z h b .byte (2 * n) (fun i => .int (own_ub f i)))) := by
  refine own_body own_pn7 (fun m => mkF m 0 #[rv a, iv 0, iv nn, .unset, .unset, .unset] []) (fun m => own_ef_own_cmp1 m a (0 : Int32) nn) ?_
  intro p e s m below meth c T0 hx hby hml hlk hrt hZ hown hnm X0 e0
  have hown : s.vm.findClass "java/lang/StringUTF16" = some m.cls := hown
  have N0 := Fr.nil n0
  refine own_g (own_F T0 m 1 #[rv a, iv 0, iv nn, .unset, .unset, .unset] [(.int nn)]) (fun _ z_ => XS.iloadN X0.here hx rfl (hb hby own_d13_0) rfl z_) ?_
  refine own_newA X0 hx hZ .byte rfl (own_w hw 25) e0 (hb hby own_d13_1) n hn 6 (by omega) (by decide) (by decide) (by decide) ?_
  intro T1 h1 b1 X1 e1 E1 g1 A1
  have sz_b1 : h0.size ≤ b1 := Nat.le_trans (Nat.le_refl h0.size) (Nat.le_of_eq g1.symm)
  have ge_b1 : n0 ≤ b1 := Nat.le_trans Z0 (Nat.le_of_eq g1.symm)
  have ne_a_b1 : a ≠ b1 := Nat.ne_of_lt (Nat.lt_of_lt_of_le Aa.lt (Nat.le_of_eq g1.symm))
  have A1 : own_A Z h1 b1 .byte n (fun q_ => .int ((fun _ => (0 : Int32)) q_)) := A1
  show own_Ends p e below s _ _ _ (own_F T1 m 3 #[rv a, iv 0, iv nn, .unset, .unset, .unset] [(.ref b1)])
  refine own_g (own_F T1 m 4 #[rv a, iv 0, iv nn, rv b1, .unset, .unset] []) (fun _ z_ => XS.astoreN X1.here hx rfl (hb hby own_d13_3) rfl rfl (l' := #[rv a, iv 0, iv nn, rv b1, .unset, .unset]) rfl z_) ?_
  refine own_g (own_F T1 m 5 #[rv a, iv 0, iv nn, rv b1, .unset, .unset] [(.ref a)]) (fun _ z_ => XS.aloadN X1.here hx rfl (hb hby own_d13_4) rfl rfl z_) ?_
  refine own_g (own_F T1 m 6 #[rv a, iv 0, iv nn, rv b1, .unset, .unset] [(.int 0), (.ref a)]) (fun _ z_ => XS.iloadN X1.here hx rfl (hb hby own_d13_5) rfl z_) ?_
  refine own_g (own_F T1 m 7 #[rv a, iv 0, iv nn, rv b1, .unset, .unset] [(.ref b1), (.int 0), (.ref a)]) (fun _ z_ => XS.aloadN X1.here hx rfl (hb hby own_d13_6) rfl rfl z_) ?_
  refine own_g (own_F T1 m 8 #[rv a, iv 0, iv nn, rv b1, .unset, .unset] [(.int 0), (.ref b1), (.int 0), (.ref a)]) (fun _ z_ => XS.iconst X1.here hx rfl (hb hby own_d13_7) z_) ?_
  refine own_g (own_F T1 m 9 #[rv a, iv 0, iv nn, rv b1, .unset, .unset] [(.int nn), (.int 0), (.ref b1), (.int 0), (.ref a)]) (fun _ z_ => XS.iloadN X1.here hx rfl (hb hby own_d13_8) rfl z_) ?_
  refine own_callS (y := (⟨"java/lang/StringUTF16", "compress", "([CI[BII)I"⟩ : MethodName)) X1 hx hZ hown (own_w hw 65) (own_w hw 66) (own_w hw 63) (own_w hw 67) (by decide) e1 (hM := own_cmp2 l Z a0 hw [] a b1 n nn f (fun _ => 0) h1 n0 (Nat.le_trans Z0 E1.1) hn (by omega) (Aa.ext E1) A1 ge_b1 ne_a_b1) (W := 0) (pc := 9) (Ls := #[rv a, iv 0, iv nn, rv b1, .unset, .unset]) (argsL := [(.ref a), (.int 0), (.ref b1), (.int 0), (.int nn)]) (rest := []) (st0 := [(.int nn), (.int 0), (.ref b1), (.int 0), (.ref a)]) (by rw [hml]; rfl) (lenOf own_pd3 rfl) rfl (Nat.le_of_eq rfl) (hb hby own_d13_9) (by decide) (by decide) (by decide) (by decide) ?_
  intro v2 T2 L2 s X2 hZ hown hI2 hvm2 hhp2 hWw2 hQ2
  obtain ⟨rr2, ⟨jj2, rfl, hj2⟩, Nq2, K2, C2⟩ := hQ2
  have N2 := Fr.app N0 Nq2
  show own_Ends p e below s _ _ _ (own_F T2 m 12 #[rv a, iv 0, iv nn, rv b1, .unset, .unset] [(.int jj2)])
  rcases C2 with ⟨er2, hl2, Ab2⟩ | ⟨er2, hl2, g2, Ab2⟩
  ·
   rw [er2] at hj2
   refine own_g (own_F T2 m 14 #[rv a, iv 0, iv nn, rv b1, iv jj2, .unset] []) (fun _ z_ => XS.istore X2.here hx rfl (hb hby own_d13_12) rfl (l' := #[rv a, iv 0, iv nn, rv b1, iv jj2, .unset]) rfl z_) ?_
   refine own_g (own_F T2 m 16 #[rv a, iv 0, iv nn, rv b1, iv jj2, .unset] [(.int jj2)]) (fun _ z_ => XS.iload X2.here hx rfl (hb hby own_d13_14) rfl z_) ?_
   refine own_g (own_F T2 m 17 #[rv a, iv 0, iv nn, rv b1, iv jj2, .unset] [(.int nn), (.int jj2)]) (fun _ z_ => XS.iloadN X2.here hx rfl (hb hby own_d13_16) rfl z_) ?_
   refine own_g (own_F T2 m 57 #[rv a, iv 0, iv nn, rv b1, iv jj2, .unset] []) (fun _ z_ => XS.icmpYes X2.here hx rfl (pc0 := 17) (pc' := 57) rfl (hb hby own_d13_17) rfl (teq (own_jeq hj2 hn)).1 (by decide) (by decide) z_) ?_
   refine own_g (own_F T2 m 58 #[rv a, iv 0, iv nn, rv b1, iv jj2, .unset] [(.ref b1)]) (fun _ z_ => XS.aloadN X2.here hx rfl (hb hby own_d13_57) rfl rfl z_) ?_
   refine own_ret (t := (.array .byte)) X2 hx hlk hrt rfl (Or.inr (Or.inr (Or.inr (Or.inr ⟨rfl, rfl, rfl⟩)))) (hb hby own_d13_58) (by decide) (by decide) ?_
   show ∃ b : Addr, _ ∧ Fr n0 _ ∧ Keep h0 T2.heap [] ∧ _ ∧ _ ∧ ((∀ i, i < n → (f i).toInt ≤ 255) ∧ own_A Z T2.heap b .byte n (fun i => .int ((f i).toInt8.toInt32)) ∨ own_A Z T2.heap b .byte (2 * n) (fun i => .int (own_ub f i)))
   rw [(rfl : T2.heap = T2.heap)]
   exact ⟨b1, rfl, N2, (((Keep.refl _ _).ext E1).trans K2 (allS (Or.inr sz_b1) all0)), ge_b1, sz_b1, Or.inl ⟨hl2, Ab2⟩⟩
  ·
   refine own_g (own_F T2 m 14 #[rv a, iv 0, iv nn, rv b1, iv jj2, .unset] []) (fun _ z_ => XS.istore X2.here hx rfl (hb hby own_d13_12) rfl (l' := #[rv a, iv 0, iv nn, rv b1, iv jj2, .unset]) rfl z_) ?_
   refine own_g (own_F T2 m 16 #[rv a, iv 0, iv nn, rv b1, iv jj2, .unset] [(.int jj2)]) (fun _ z_ => XS.iload X2.here hx rfl (hb hby own_d13_14) rfl z_) ?_
   refine own_g (own_F T2 m 17 #[rv a, iv 0, iv nn, rv b1, iv jj2, .unset] [(.int nn), (.int jj2)]) (fun _ z_ => XS.iloadN X2.here hx rfl (hb hby own_d13_16) rfl z_) ?_
   refine own_g (own_F T2 m 20 #[rv a, iv 0, iv nn, rv b1, iv jj2, .unset] []) (fun _ z_ => XS.icmpNo X2.here hx rfl (hb hby own_d13_17) rfl (feq (own_jne hj2 hn er2)).1 z_) ?_
   refine own_g (own_F T2 m 21 #[rv a, iv 0, iv nn, rv b1, iv jj2, .unset] [(.ref a)]) (fun _ z_ => XS.aloadN X2.here hx rfl (hb hby own_d13_20) rfl rfl z_) ?_
   refine own_g (own_F T2 m 22 #[rv a, iv 0, iv nn, rv b1, iv jj2, .unset] [(.int 0), (.ref a)]) (fun _ z_ => XS.iloadN X2.here hx rfl (hb hby own_d13_21) rfl z_) ?_
   refine own_g (own_F T2 m 23 #[rv a, iv 0, iv nn, rv b1, iv jj2, .unset] [(.int nn), (.int 0), (.ref a)]) (fun _ z_ => XS.iloadN X2.here hx rfl (hb hby own_d13_22) rfl z_) ?_
   refine own_callS (y := (⟨"java/lang/StringUTF16", "toBytes", "([CII)[B"⟩ : MethodName)) X2 hx hZ hown (own_w hw 71) (own_w hw 72) (own_w hw 63) (own_w hw 73) (by decide) (rfl : T2.heap = T2.heap) (hM := own_tob l Z a0 hw [] a n nn f T2.heap n0 (Nat.le_trans (Nat.le_trans Z0 E1.1) K2.1) hn hcap ((Aa.ext E1).keep K2 (ninS ne_a_b1 nin0)) (own_sta_keep (S_ad.ext E1) K2 (allS (own_plainA A1) all0)) (own_sta_keep (S_hi.ext E1) K2 (allS (own_plainA A1) all0)) (own_sta_keep (S_lo.ext E1) K2 (allS (own_plainA A1) all0))) (W := 0) (pc := 23) (Ls := #[rv a, iv 0, iv nn, rv b1, iv jj2, .unset]) (argsL := [(.ref a), (.int 0), (.int nn)]) (rest := []) (st0 := [(.int nn), (.int 0), (.ref a)]) (by rw [hml]; rfl) (lenOf own_pd4 rfl) rfl (Nat.le_of_eq rfl) (hb hby own_d13_23) (by decide) (by decide) (by decide) (by decide) ?_
   intro v3 T3 L3 s X3 hZ hown hI3 hvm3 hhp3 hWw3 hQ3
   obtain ⟨b3, rfl, Nq3, K3, ge_b3, gz3, Ab3⟩ := hQ3
   have N3 := Fr.app N2 Nq3
   show own_Ends p e below s _ _ _ (own_F T3 m 26 #[rv a, iv 0, iv nn, rv b1, iv jj2, .unset] [(.ref b3)])
   have sz_b3 : h0.size ≤ b3 := Nat.le_trans (Nat.le_trans (Nat.le_trans (Nat.le_refl h0.size) E1.1) K2.1) gz3
   refine own_g (own_F T3 m 28 #[rv a, iv 0, iv nn, rv b1, iv jj2, rv b3] []) (fun _ z_ => XS.astore X3.here hx rfl (hb hby own_d13_26) rfl rfl (l' := #[rv a, iv 0, iv nn, rv b1, iv jj2, rv b3]) rfl z_) ?_
   refine own_g (own_F T3 m 30 #[rv a, iv 0, iv nn, rv b1, iv jj2, rv b3] [(.ref b3)]) (fun _ z_ => XS.aload X3.here hx rfl (hb hby own_d13_28) rfl rfl z_) ?_
   refine own_g (own_F T3 m 32 #[rv a, iv 0, iv nn, rv b1, iv jj2, rv b3] [(.int jj2), (.ref b3)]) (fun _ z_ => XS.iload X3.here hx rfl (hb hby own_d13_30) rfl z_) ?_
   refine own_callS (y := (⟨"java/lang/StringUTF16", "getChar", "([BI)C"⟩ : MethodName)) X3 hx hZ hown (own_w hw 87) (own_w hw 88) (own_w hw 63) (own_w hw 89) (by decide) (rfl : T3.heap = T3.heap) (hM := own_getc l Z a0 hw [] b3 n rr2 jj2 f T3.heap n0 (Nat.le_trans (Nat.le_trans (Nat.le_trans Z0 E1.1) K2.1) K3.1) hj2 er2 (by omega) (hf _ er2) Ab3 (own_sta_keep (own_sta_keep (S_ad.ext E1) K2 (allS (own_plainA A1) all0)) K3 all0) (own_sta_keep (own_sta_keep (S_hi.ext E1) K2 (allS (own_plainA A1) all0)) K3 all0) (own_sta_keep (own_sta_keep (S_lo.ext E1) K2 (allS (own_plainA A1) all0)) K3 all0)) (W := 0) (pc := 32) (Ls := #[rv a, iv 0, iv nn, rv b1, iv jj2, rv b3]) (argsL := [(.ref b3), (.int jj2)]) (rest := []) (st0 := [(.int jj2), (.ref b3)]) (by rw [hml]; rfl) (lenOf own_pd5 rfl) rfl (Nat.le_of_eq rfl) (hb hby own_d13_32) (by decide) (by decide) (by decide) (by decide) ?_
   intro v4 T4 L4 s X4 hZ hown hI4 hvm4 hhp4 hWw4 hQ4
   obtain ⟨rfl, Nq4, hh4⟩ := hQ4
   have N4 := Fr.app N3 Nq4
   show own_Ends p e below s _ _ _ (own_F T4 m 35 #[rv a, iv 0, iv nn, rv b1, iv jj2, rv b3] [(.int (f rr2))])
   refine own_g (own_F T4 m 38 #[rv a, iv 0, iv nn, rv b1, iv jj2, rv b3] [(.int 255), (.int (f rr2))]) (fun _ z_ => XS.sipush X4.here hx rfl (hb hby own_d13_35) z_) ?_
   refine own_g (own_F T4 m 54 #[rv a, iv 0, iv nn, rv b1, iv jj2, rv b3] []) (fun _ z_ => XS.icmpYes X4.here hx rfl (pc0 := 38) (pc' := 54) rfl (hb hby own_d13_38) rfl (tlt (own_255 hl2)).2.2.1 (by decide) (by decide) z_) ?_
   refine own_g (own_F T4 m 56 #[rv a, iv 0, iv nn, rv b1, iv jj2, rv b3] [(.ref b3)]) (fun _ z_ => XS.aload X4.here hx rfl (hb hby own_d13_54) rfl rfl z_) ?_
   refine own_ret (t := (.array .byte)) X4 hx hlk hrt rfl (Or.inr (Or.inr (Or.inr (Or.inr ⟨rfl, rfl, rfl⟩)))) (hb hby own_d13_56) (by decide) (by decide) ?_
   show ∃ b : Addr, _ ∧ Fr n0 _ ∧ Keep h0 T4.heap [] ∧ _ ∧ _ ∧ ((∀ i, i < n → (f i).toInt ≤ 255) ∧ own_A Z T4.heap b .byte n (fun i => .int ((f i).toInt8.toInt32)) ∨ own_A Z T4.heap b .byte (2 * n) (fun i => .int (own_ub f i)))
   rw [hh4]
   exact ⟨b3, rfl, N4, ((((Keep.refl _ _).ext E1).trans K2 (allS (Or.inr sz_b1) all0)).trans K3 all0), ge_b3, sz_b3, Or.inr Ab3⟩
set_option maxRecDepth 65536 in
set_option maxHeartbeats 40000000 in
theorem own_cfl (l : Launch) (Z : State) (a0 : Array Value) (hw : ∀ d ∈ tables_1, d.before a0 Z = true) (ws : List Jvm.Cond) (a : Addr) (n : Nat) (nn : Int32) (g : Nat → Int32) (h0 : Heap) (n0 : Nat) (Z0 : n0 ≤ h0.size) (hn : nn.toInt = (n : Int)) (Aa : own_A Z h0 a .byte n (fun i => .int (g i))) :
    own_Met l Z (⟨"java/lang/StringUTF16", "coderFromArrayLen", "([BI)B"⟩ : MethodName) jdk_52_method_15_code 2 (some .byte) ws ({ frames := 0, cells := 0, slots := 0, locals := 0 } : Room) #[(.ref a), (.int nn)] h0 (fun v h L => v = some (.int (0 : Int32)) ∧ Fr n0 L ∧ h = h0) := by
  refine own_body own_pn8 (fun m => mkF m 0 #[rv a, iv nn] []) (fun m => own_ef_own_cfl m a nn) ?_
  intro p e s m below meth c T0 hx hby hml hlk hrt hZ hown hnm X0 e0
  have hown : s.vm.findClass "java/lang/StringUTF16" = some m.cls := hown
  have N0 := Fr.nil n0
  refine own_g (own_F T0 m 1 #[rv a, iv nn] [(.int nn)]) (fun _ z_ => XS.iloadN X0.here hx rfl (hb hby own_d15_0) rfl z_) ?_
  refine own_g (own_F T0 m 2 #[rv a, iv nn] [(.ref a), (.int nn)]) (fun _ z_ => XS.aloadN X0.here hx rfl (hb hby own_d15_1) rfl rfl z_) ?_
  refine own_alen X0 hx hZ e0 Aa (hb hby own_d15_2) ?_
  rw [own_n32 hn]
  show own_Ends p e below s _ _ _ (own_F T0 m 3 #[rv a, iv nn] [(.int nn), (.int nn)])
  refine own_g (own_F T0 m 4 #[rv a, iv nn] [(.int (nn - nn))]) (fun _ z_ => XS.isub X0.here hx rfl (hb hby own_d15_3) rfl z_) ?_
  refine own_g (own_F T0 m 6 #[rv a, iv nn] [(.int 31), (.int (nn - nn))]) (fun _ z_ => XS.bipush X0.here hx rfl (hb hby own_d15_4) z_) ?_
  refine own_g (own_F T0 m 7 #[rv a, iv nn] [(.int (((nn - nn).toUInt32 >>> ((31 : Int32) &&& 31).toUInt32).toInt32))]) (fun _ z_ => XS.iushr X0.here hx rfl (hb hby own_d15_6) rfl z_) ?_
  refine own_g (own_F T0 m 8 #[rv a, iv nn] [(.int ((((nn - nn).toUInt32 >>> ((31 : Int32) &&& 31).toUInt32).toInt32).toInt8.toInt32))]) (fun _ z_ => XS.i2b X0.here hx rfl (hb hby own_d15_7) rfl z_) ?_
  refine own_ret (t := .byte) X0 hx hlk hrt (own_i2b _) (Or.inl ⟨rfl, by simp, _, rfl⟩) (hb hby own_d15_8) (by decide) (by decide) ?_
  exact ⟨congrArg (fun z => some (Value.int z)) (own_sub31 nn), N0, e0⟩
set_option maxRecDepth 65536 in
set_option maxHeartbeats 40000000 in
theorem own_cfu (l : Launch) (Z : State) (a0 : Array Value) (hw : ∀ d ∈ tables_1, d.before a0 Z = true) (ws : List Jvm.Cond) (a : Addr) (n : Nat) (nn : Int32) (g : Nat → Int32) (h0 : Heap) (n0 : Nat) (Z0 : n0 ≤ h0.size) (hn : nn.toInt = (n : Int)) (hp : 0 < n) (h2 : 2 * n < 2 ^ 31) (Aa : own_A Z h0 a .byte (2 * n) (fun i => .int (g i))) :
    own_Met l Z (⟨"java/lang/StringUTF16", "coderFromArrayLen", "([BI)B"⟩ : MethodName) jdk_52_method_15_code 2 (some .byte) ws ({ frames := 0, cells := 0, slots := 0, locals := 0 } : Room) #[(.ref a), (.int nn)] h0 (fun v h L => v = some (.int (1 : Int32)) ∧ Fr n0 L ∧ h = h0) := by
  refine own_body own_pn8 (fun m => mkF m 0 #[rv a, iv nn] []) (fun m => own_ef_own_cfu m a nn) ?_
  intro p e s m below meth c T0 hx hby hml hlk hrt hZ hown hnm X0 e0
  have hown : s.vm.findClass "java/lang/StringUTF16" = some m.cls := hown
  have N0 := Fr.nil n0
  refine own_g (own_F T0 m 1 #[rv a, iv nn] [(.int nn)]) (fun _ z_ => XS.iloadN X0.here hx rfl (hb hby own_d15_0) rfl z_) ?_
  refine own_g (own_F T0 m 2 #[rv a, iv nn] [(.ref a), (.int nn)]) (fun _ z_ => XS.aloadN X0.here hx rfl (hb hby own_d15_1) rfl rfl z_) ?_
  refine own_alen X0 hx hZ e0 Aa (hb hby own_d15_2) ?_
  show own_Ends p e below s _ _ _ (own_F T0 m 3 #[rv a, iv nn] [(.int (Nat.toInt32 (2 * n))), (.int nn)])
  refine own_g (own_F T0 m 4 #[rv a, iv nn] [(.int (nn - (Nat.toInt32 (2 * n))))]) (fun _ z_ => XS.isub X0.here hx rfl (hb hby own_d15_3) rfl z_) ?_
  refine own_g (own_F T0 m 6 #[rv a, iv nn] [(.int 31), (.int (nn - (Nat.toInt32 (2 * n))))]) (fun _ z_ => XS.bipush X0.here hx rfl (hb hby own_d15_4) z_) ?_
  refine own_g (own_F T0 m 7 #[rv a, iv nn] [(.int (((nn - (Nat.toInt32 (2 * n))).toUInt32 >>> ((31 : Int32) &&& 31).toUInt32).toInt32))]) (fun _ z_ => XS.iushr X0.here hx rfl (hb hby own_d15_6) rfl z_) ?_
  refine own_g (own_F T0 m 8 #[rv a, iv nn] [(.int ((((nn - (Nat.toInt32 (2 * n))).toUInt32 >>> ((31 : Int32) &&& 31).toUInt32).toInt32).toInt8.toInt32))]) (fun _ z_ => XS.i2b X0.here hx rfl (hb hby own_d15_7) rfl z_) ?_
  refine own_ret (t := .byte) X0 hx hlk hrt (own_i2b _) (Or.inl ⟨rfl, by simp, _, rfl⟩) (hb hby own_d15_8) (by decide) (by decide) ?_
  exact ⟨congrArg (fun z => some (Value.int z)) (own_neg31 hn hp (by omega)), N0, e0⟩
set_option maxRecDepth 65536 in
set_option maxHeartbeats 40000000 in
theorem own_si4 (l : Launch) (Z : State) (a0 : Array Value) (hw : ∀ d ∈ tables_1, d.before a0 Z = true) (ws : List Jvm.Cond) (x a : Addr) (n : Nat) (nn zc : Int32) (f : Nat → Int32) (h0 : Heap) (n0 : Nat) (Z0 : n0 ≤ h0.size) (hn : nn.toInt = (n : Int)) (hcap : 2 * n ≤ 6) (hp : 0 < n) (hzc : ¬ zc = (0 : Int32)) (Aa : own_A Z h0 a .char n (fun i => .int (f i))) (hf : ∀ i, i < n → 0 ≤ (f i).toInt ∧ (f i).toInt ≤ 65535) (E_x : Exa Z h0 x "java/lang/String") (F_v : Fld Z h0 x "java/lang/String" "value" "[B" .null) (F_c : Fld Z h0 x "java/lang/String" "coder" "B" (.int (0 : Int32))) (S_cs : Sta Z h0 "java/lang/String" "COMPACT_STRINGS" "Z" (.int zc)) (S_ad : Sta Z h0 "java/lang/StringUTF16" "$assertionsDisabled" "Z" (.int (1 : Int32))) (S_hi : Sta Z h0 "java/lang/StringUTF16" "HI_BYTE_SHIFT" "I" (.int (0 : Int32))) (S_lo : Sta Z h0 "java/lang/StringUTF16" "LO_BYTE_SHIFT" "I" (.int (8 : Int32))) (g_x : n0 ≤ x) (ne_xa : x ≠ a) :
    own_Met l Z (⟨"java/lang/String", "<init>", "([CIILjava/lang/Void;)V"⟩ : MethodName) jdk_42_method_149_code 6 none ws ({ frames := 4, cells := 2, slots := 12, locals := 57 } : Room) #[(.ref x), (.ref a), (.int 0), (.int nn), .null] h0 (fun v h L => v = none ∧ Fr n0 L ∧ Keep h0 h [x] ∧ own_Str Z h x n f) := by
  refine own_body own_pn9 (fun m => mkF m 0 #[rv x, rv a, iv 0, iv nn, .val .null, .unset] []) (fun m => own_ef_own_si4 m x a (0 : Int32) nn) ?_
  intro p e s m below meth c T0 hx hby hml hlk hrt hZ hown hnm X0 e0
  have hown : s.vm.findClass "java/lang/String" = some m.cls := hown
  have N0 := Fr.nil n0
  refine own_g (own_F T0 m 1 #[rv x, rv a, iv 0, iv nn, .val .null, .unset] [(.ref x)]) (fun _ z_ => XS.aloadN X0.here hx rfl (hb hby own_d4_0) rfl rfl z_) ?_
  obtain ⟨T1, X1, e1, st1⟩ := initO X0 hx hZ hown (own_w hw 21) (own_w hw 22) (own_w hw 23) e0 (g := (mkF m 1 #[rv x, rv a, iv 0, iv nn, .val .null, .unset] [(.ref x)])) rfl (by rw [hml]; rfl) rfl (hb hby own_d4_1) (by decide) (W := 0) (by show 2 * 0 + _ ≤ _; exact Nat.le_of_eq rfl) (by decide)
  refine own_pre (S' := (own_F T1 m 4 #[rv x, rv a, iv 0, iv nn, .val .null, .unset] [])) st1 ?_
  refine own_g (own_F T1 m 5 #[rv x, rv a, iv 0, iv nn, .val .null, .unset] [(.int nn)]) (fun _ z_ => XS.iloadN X1.here hx rfl (hb hby own_d4_4) rfl z_) ?_
  refine own_g (own_F T1 m 27 #[rv x, rv a, iv 0, iv nn, .val .null, .unset] []) (fun _ z_ => XS.ifYes X1.here hx rfl (pc0 := 5) (pc' := 27) rfl (hb hby own_d4_5) rfl ((if0 _ _).trans (feq (own_nz hn hp)).2) (by decide) (by decide) z_) ?_
  obtain ⟨T2, X2, e2, st2⟩ := getS2 X1 hx hZ hown (host := "") (Or.inl (own_w hw 46)) Via.refl e1 S_cs (g := (mkF m 27 #[rv x, rv a, iv 0, iv nn, .val .null, .unset] [])) rfl (hb hby own_d4_27)
  refine own_pre (S' := (own_F T2 m 30 #[rv x, rv a, iv 0, iv nn, .val .null, .unset] [(.int zc)])) st2 ?_
  refine own_g (own_F T2 m 33 #[rv x, rv a, iv 0, iv nn, .val .null, .unset] []) (fun _ z_ => XS.ifNo X2.here hx rfl (hb hby own_d4_30) rfl ((if0 _ _).trans (feq hzc).1) z_) ?_
  refine own_g (own_F T2 m 34 #[rv x, rv a, iv 0, iv nn, .val .null, .unset] [(.ref a)]) (fun _ z_ => XS.aloadN X2.here hx rfl (hb hby own_d4_33) rfl rfl z_) ?_
  refine own_g (own_F T2 m 35 #[rv x, rv a, iv 0, iv nn, .val .null, .unset] [(.int 0), (.ref a)]) (fun _ z_ => XS.iloadN X2.here hx rfl (hb hby own_d4_34) rfl z_) ?_
  refine own_g (own_F T2 m 36 #[rv x, rv a, iv 0, iv nn, .val .null, .unset] [(.int nn), (.int 0), (.ref a)]) (fun _ z_ => XS.iloadN X2.here hx rfl (hb hby own_d4_35) rfl z_) ?_
  refine own_callS (y := (⟨"java/lang/StringUTF16", "compress", "([CII)[B"⟩ : MethodName)) X2 hx hZ hown (own_w hw 61) (own_w hw 62) (own_w hw 63) (own_w hw 64) (by decide) e2 (hM := own_cmp1 l Z a0 hw [] a n nn f h0 n0 Z0 hn hcap Aa hf S_ad S_hi S_lo) (W := 0) (pc := 36) (Ls := #[rv x, rv a, iv 0, iv nn, .val .null, .unset]) (argsL := [(.ref a), (.int 0), (.int nn)]) (rest := []) (st0 := [(.int nn), (.int 0), (.ref a)]) (by rw [hml]; rfl) (lenOf own_pd4 rfl) rfl (Nat.le_of_eq rfl) (hb hby own_d4_36) (by decide) (by decide) (by decide) (by decide) ?_
  intro v3 T3 L3 s X3 hZ hown hI3 hvm3 hhp3 hWw3 hQ3
  obtain ⟨t3, rfl, Nq3, K3, gt3, gz3, C3⟩ := hQ3
  have N3 := Fr.app N0 Nq3
  show own_Ends p e below s _ _ _ (own_F T3 m 39 #[rv x, rv a, iv 0, iv nn, .val .null, .unset] [(.ref t3)])
  have ne_xt3 : x ≠ t3 := Nat.ne_of_lt (Nat.lt_of_lt_of_le E_x.lt gz3)
  rcases C3 with ⟨hl3, At3⟩ | At3
  ·
   refine own_g (own_F T3 m 41 #[rv x, rv a, iv 0, iv nn, .val .null, rv t3] []) (fun _ z_ => XS.astore X3.here hx rfl (hb hby own_d4_39) rfl rfl (l' := #[rv x, rv a, iv 0, iv nn, .val .null, rv t3]) rfl z_) ?_
   refine own_g (own_F T3 m 42 #[rv x, rv a, iv 0, iv nn, .val .null, rv t3] [(.ref x)]) (fun _ z_ => XS.aloadN X3.here hx rfl (hb hby own_d4_41) rfl rfl z_) ?_
   refine own_g (own_F T3 m 44 #[rv x, rv a, iv 0, iv nn, .val .null, rv t3] [(.ref t3), (.ref x)]) (fun _ z_ => XS.aload X3.here hx rfl (hb hby own_d4_42) rfl rfl z_) ?_
   refine own_g (own_F T3 m 45 #[rv x, rv a, iv 0, iv nn, .val .null, rv t3] [(.int nn), (.ref t3), (.ref x)]) (fun _ z_ => XS.iloadN X3.here hx rfl (hb hby own_d4_44) rfl z_) ?_
   refine own_callS (y := (⟨"java/lang/StringUTF16", "coderFromArrayLen", "([BI)B"⟩ : MethodName)) X3 hx hZ hown (own_w hw 68) (own_w hw 69) (own_w hw 63) (own_w hw 70) (by decide) (rfl : T3.heap = T3.heap) (hM := own_cfl l Z a0 hw [] t3 n nn _ T3.heap n0 (Nat.le_trans Z0 K3.1) hn At3) (W := 1) (pc := 45) (Ls := #[rv x, rv a, iv 0, iv nn, .val .null, rv t3]) (argsL := [(.ref t3), (.int nn)]) (rest := [(.ref x)]) (st0 := [(.int nn), (.ref t3), (.ref x)]) (by rw [hml]; rfl) (lenOf own_pd6 rfl) rfl (Nat.le_of_eq rfl) (hb hby own_d4_45) (by decide) (by decide) (by decide) (by decide) ?_
   intro v4 T4 L4 s X4 hZ hown hI4 hvm4 hhp4 hWw4 hQ4
   obtain ⟨rfl, Nq4, hh4⟩ := hQ4
   have N4 := Fr.app N3 Nq4
   show own_Ends p e below s _ _ _ (own_F T4 m 48 #[rv x, rv a, iv 0, iv nn, .val .null, rv t3] [(.int 0), (.ref x)])
   obtain ⟨T5, h5, X5, e5, W5, st5⟩ := putF X4 hx hZ hown (host := "") (Or.inl (own_w hw 31)) Via.refl hh4 (F_c.keep K3 nin0) (E_x.keep K3) (Or.inr ⟨(own_w hw 27), rfl, hnm⟩) (own_w hw 12) (ty := .byte) (by decide) rfl rfl (g := (mkF m 48 #[rv x, rv a, iv 0, iv nn, .val .null, rv t3] [(.int 0), (.ref x)])) rfl rfl (hb hby own_d4_48)
   have N5 := Fr.snoc X5 N4 g_x
   have Fw5 := (F_c.keep K3 nin0).same W5
   refine own_pre (S' := (own_F T5 m 51 #[rv x, rv a, iv 0, iv nn, .val .null, rv t3] [])) st5 ?_
   refine own_g (own_F T5 m 52 #[rv x, rv a, iv 0, iv nn, .val .null, rv t3] [(.ref x)]) (fun _ z_ => XS.aloadN X5.here hx rfl (hb hby own_d4_51) rfl rfl z_) ?_
   refine own_g (own_F T5 m 54 #[rv x, rv a, iv 0, iv nn, .val .null, rv t3] [(.ref t3), (.ref x)]) (fun _ z_ => XS.aload X5.here hx rfl (hb hby own_d4_52) rfl rfl z_) ?_
   obtain ⟨T6, h6, X6, e6, W6, st6⟩ := putF X5 hx hZ hown (host := "") (Or.inl (own_w hw 30)) Via.refl e5 ((F_v.keep K3 nin0).other W5 (Or.inr (slot_ne (C := "java/lang/String") (Or.inr (own_w hw 26)) (Or.inr (own_w hw 27)) (by decide) (t := (.array .byte)) (t' := .byte) (by decide) (by decide)))) ((E_x.keep K3).wr W5) (Or.inr ⟨(own_w hw 26), rfl, hnm⟩) (own_w hw 12) (ty := (.array .byte)) (by decide) rfl rfl (g := (mkF m 54 #[rv x, rv a, iv 0, iv nn, .val .null, rv t3] [(.ref t3), (.ref x)])) rfl rfl (hb hby own_d4_54)
   have N6 := Fr.snoc X6 N5 g_x
   have Fw6 := ((F_v.keep K3 nin0).other W5 (Or.inr (slot_ne (C := "java/lang/String") (Or.inr (own_w hw 26)) (Or.inr (own_w hw 27)) (by decide) (t := (.array .byte)) (t' := .byte) (by decide) (by decide)))).same W6
   refine own_pre (S' := (own_F T6 m 57 #[rv x, rv a, iv 0, iv nn, .val .null, rv t3] [])) st6 ?_
   refine own_retV X6 hx hlk hrt (hb hby own_d4_57) (by decide) (by decide) ?_
   show _ ∧ Fr n0 _ ∧ Keep h0 T6.heap [x] ∧ own_Str Z T6.heap x n f
   rw [e6]
   exact ⟨rfl, N6, ((((Keep.refl _ _).trans K3 all0).wr W5 (Or.inl (List.mem_of_getElem? (i := 0) rfl))).wr W6 (Or.inl (List.mem_of_getElem? (i := 0) rfl))), t3, (((E_x.keep K3).wr W5).wr W6), Fw6, hf, Or.inl ⟨(Fw5.other W6 (Or.inr (slot_ne (C := "java/lang/String") (Or.inr (own_w hw 27)) (Or.inr (own_w hw 26)) (by decide) (t := .byte) (t' := (.array .byte)) (by decide) (by decide)))), ((At3.other W5 (Ne.symm ne_xt3)).other W6 (Ne.symm ne_xt3)), fun i hi => ⟨(hf i hi).1, hl3 i hi⟩⟩⟩
  ·
   refine own_g (own_F T3 m 41 #[rv x, rv a, iv 0, iv nn, .val .null, rv t3] []) (fun _ z_ => XS.astore X3.here hx rfl (hb hby own_d4_39) rfl rfl (l' := #[rv x, rv a, iv 0, iv nn, .val .null, rv t3]) rfl z_) ?_
   refine own_g (own_F T3 m 42 #[rv x, rv a, iv 0, iv nn, .val .null, rv t3] [(.ref x)]) (fun _ z_ => XS.aloadN X3.here hx rfl (hb hby own_d4_41) rfl rfl z_) ?_
   refine own_g (own_F T3 m 44 #[rv x, rv a, iv 0, iv nn, .val .null, rv t3] [(.ref t3), (.ref x)]) (fun _ z_ => XS.aload X3.here hx rfl (hb hby own_d4_42) rfl rfl z_) ?_
   refine own_g (own_F T3 m 45 #[rv x, rv a, iv 0, iv nn, .val .null, rv t3] [(.int nn), (.ref t3), (.ref x)]) (fun _ z_ => XS.iloadN X3.here hx rfl (hb hby own_d4_44) rfl z_) ?_
   refine own_callS (y := (⟨"java/lang/StringUTF16", "coderFromArrayLen", "([BI)B"⟩ : MethodName)) X3 hx hZ hown (own_w hw 68) (own_w hw 69) (own_w hw 63) (own_w hw 70) (by decide) (rfl : T3.heap = T3.heap) (hM := own_cfu l Z a0 hw [] t3 n nn _ T3.heap n0 (Nat.le_trans Z0 K3.1) hn hp (by omega) At3) (W := 1) (pc := 45) (Ls := #[rv x, rv a, iv 0, iv nn, .val .null, rv t3]) (argsL := [(.ref t3), (.int nn)]) (rest := [(.ref x)]) (st0 := [(.int nn), (.ref t3), (.ref x)]) (by rw [hml]; rfl) (lenOf own_pd6 rfl) rfl (Nat.le_of_eq rfl) (hb hby own_d4_45) (by decide) (by decide) (by decide) (by decide) ?_
   intro v7 T7 L7 s X7 hZ hown hI7 hvm7 hhp7 hWw7 hQ7
   obtain ⟨rfl, Nq7, hh7⟩ := hQ7
   have N7 := Fr.app N3 Nq7
   show own_Ends p e below s _ _ _ (own_F T7 m 48 #[rv x, rv a, iv 0, iv nn, .val .null, rv t3] [(.int 1), (.ref x)])
   obtain ⟨T8, h8, X8, e8, W8, st8⟩ := putF X7 hx hZ hown (host := "") (Or.inl (own_w hw 31)) Via.refl hh7 (F_c.keep K3 nin0) (E_x.keep K3) (Or.inr ⟨(own_w hw 27), rfl, hnm⟩) (own_w hw 12) (ty := .byte) (by decide) rfl rfl (g := (mkF m 48 #[rv x, rv a, iv 0, iv nn, .val .null, rv t3] [(.int 1), (.ref x)])) rfl rfl (hb hby own_d4_48)
   have N8 := Fr.snoc X8 N7 g_x
   have Fw8 := (F_c.keep K3 nin0).same W8
   refine own_pre (S' := (own_F T8 m 51 #[rv x, rv a, iv 0, iv nn, .val .null, rv t3] [])) st8 ?_
   refine own_g (own_F T8 m 52 #[rv x, rv a, iv 0, iv nn, .val .null, rv t3] [(.ref x)]) (fun _ z_ => XS.aloadN X8.here hx rfl (hb hby own_d4_51) rfl rfl z_) ?_
   refine own_g (own_F T8 m 54 #[rv x, rv a, iv 0, iv nn, .val .null, rv t3] [(.ref t3), (.ref x)]) (fun _ z_ => XS.aload X8.here hx rfl (hb hby own_d4_52) rfl rfl z_) ?_
   obtain ⟨T9, h9, X9, e9, W9, st9⟩ := putF X8 hx hZ hown (host := "") (Or.inl (own_w hw 30)) Via.refl e8 ((F_v.keep K3 nin0).other W8 (Or.inr (slot_ne (C := "java/lang/String") (Or.inr (own_w hw 26)) (Or.inr (own_w hw 27)) (by decide) (t := (.array .byte)) (t' := .byte) (by decide) (by decide)))) ((E_x.keep K3).wr W8) (Or.inr ⟨(own_w hw 26), rfl, hnm⟩) (own_w hw 12) (ty := (.array .byte)) (by decide) rfl rfl (g := (mkF m 54 #[rv x, rv a, iv 0, iv nn, .val .null, rv t3] [(.ref t3), (.ref x)])) rfl rfl (hb hby own_d4_54)
   have N9 := Fr.snoc X9 N8 g_x
   have Fw9 := ((F_v.keep K3 nin0).other W8 (Or.inr (slot_ne (C := "java/lang/String") (Or.inr (own_w hw 26)) (Or.inr (own_w hw 27)) (by decide) (t := (.array .byte)) (t' := .byte) (by decide) (by decide)))).same W9
   refine own_pre (S' := (own_F T9 m 57 #[rv x, rv a, iv 0, iv nn, .val .null, rv t3] [])) st9 ?_
   refine own_retV X9 hx hlk hrt (hb hby own_d4_57) (by decide) (by decide) ?_
   show _ ∧ Fr n0 _ ∧ Keep h0 T9.heap [x] ∧ own_Str Z T9.heap x n f
   rw [e9]
   exact ⟨rfl, N9, ((((Keep.refl _ _).trans K3 all0).wr W8 (Or.inl (List.mem_of_getElem? (i := 0) rfl))).wr W9 (Or.inl (List.mem_of_getElem? (i := 0) rfl))), t3, (((E_x.keep K3).wr W8).wr W9), Fw9, hf, Or.inr ⟨(Fw8.other W9 (Or.inr (slot_ne (C := "java/lang/String") (Or.inr (own_w hw 27)) (Or.inr (own_w hw 26)) (by decide) (t := .byte) (t' := (.array .byte)) (by decide) (by decide)))), ((At3.other W8 (Ne.symm ne_xt3)).other W9 (Ne.symm ne_xt3))⟩⟩
set_option maxRecDepth 65536 in
set_option maxHeartbeats 40000000 in
theorem own_si (l : Launch) (Z : State) (a0 : Array Value) (hw : ∀ d ∈ tables_1, d.before a0 Z = true) (ws : List Jvm.Cond) (x a : Addr) (n : Nat) (nn zc : Int32) (f : Nat → Int32) (h0 : Heap) (n0 : Nat) (Z0 : n0 ≤ h0.size) (hn : nn.toInt = (n : Int)) (hcap : 2 * n ≤ 6) (hp : 0 < n) (hzc : ¬ zc = (0 : Int32)) (Aa : own_A Z h0 a .char n (fun i => .int (f i))) (hf : ∀ i, i < n → 0 ≤ (f i).toInt ∧ (f i).toInt ≤ 65535) (E_x : Exa Z h0 x "java/lang/String") (F_v : Fld Z h0 x "java/lang/String" "value" "[B" .null) (F_c : Fld Z h0 x "java/lang/String" "coder" "B" (.int (0 : Int32))) (S_cs : Sta Z h0 "java/lang/String" "COMPACT_STRINGS" "Z" (.int zc)) (S_ad : Sta Z h0 "java/lang/StringUTF16" "$assertionsDisabled" "Z" (.int (1 : Int32))) (S_hi : Sta Z h0 "java/lang/StringUTF16" "HI_BYTE_SHIFT" "I" (.int (0 : Int32))) (S_lo : Sta Z h0 "java/lang/StringUTF16" "LO_BYTE_SHIFT" "I" (.int (8 : Int32))) (g_x : n0 ≤ x) (ne_xa : x ≠ a) :
    own_Met l Z (⟨"java/lang/String", "<init>", "([C)V"⟩ : MethodName) jdk_42_method_3_code 2 none ws ({ frames := 5, cells := 2, slots := 12, locals := 74 } : Room) #[(.ref x), (.ref a)] h0 (fun v h L => v = none ∧ Fr n0 L ∧ Keep h0 h [x] ∧ own_Str Z h x n f) := by
  refine own_body own_pn10 (fun m => mkF m 0 #[rv x, rv a] []) (fun m => own_ef_own_si m x a) ?_
  intro p e s m below meth c T0 hx hby hml hlk hrt hZ hown hnm X0 e0
  have hown : s.vm.findClass "java/lang/String" = some m.cls := hown
  have N0 := Fr.nil n0
  refine own_g (own_F T0 m 1 #[rv x, rv a] [(.ref x)]) (fun _ z_ => XS.aloadN X0.here hx rfl (hb hby own_d3_0) rfl rfl z_) ?_
  refine own_g (own_F T0 m 2 #[rv x, rv a] [(.ref a), (.ref x)]) (fun _ z_ => XS.aloadN X0.here hx rfl (hb hby own_d3_1) rfl rfl z_) ?_
  refine own_g (own_F T0 m 3 #[rv x, rv a] [(.int 0), (.ref a), (.ref x)]) (fun _ z_ => XS.iconst X0.here hx rfl (hb hby own_d3_2) z_) ?_
  refine own_g (own_F T0 m 4 #[rv x, rv a] [(.ref a), (.int 0), (.ref a), (.ref x)]) (fun _ z_ => XS.aloadN X0.here hx rfl (hb hby own_d3_3) rfl rfl z_) ?_
  refine own_alen X0 hx hZ e0 Aa (hb hby own_d3_4) ?_
  rw [own_n32 hn]
  show own_Ends p e below s _ _ _ (own_F T0 m 5 #[rv x, rv a] [(.int nn), (.int 0), (.ref a), (.ref x)])
  refine own_g (own_F T0 m 6 #[rv x, rv a] [.null, (.int nn), (.int 0), (.ref a), (.ref x)]) (fun _ z_ => XS.aconstNull X0.here hx rfl (hb hby own_d3_5) z_) ?_
  refine own_callI (y := (⟨"java/lang/String", "<init>", "([CIILjava/lang/Void;)V"⟩ : MethodName)) (b := x) X0 hx hZ hown rfl (own_w hw 17) (own_w hw 18) (own_w hw 20) (own_w hw 13) (by decide) e0 (hM := own_si4 l Z a0 hw [] x a n nn zc f h0 n0 Z0 hn hcap hp hzc Aa hf E_x F_v F_c S_cs S_ad S_hi S_lo g_x ne_xa) (W := 0) (pc := 6) (Ls := #[rv x, rv a]) (argsL := [(.ref a), (.int 0), (.int nn), .null]) (rest := []) (st0 := [.null, (.int nn), (.int 0), (.ref a), (.ref x)]) (by rw [hml]; rfl) (lenOf own_pd7 rfl) rfl (Nat.le_of_eq rfl) (hb hby own_d3_6) (by decide) (by decide) (by decide) (by decide) ?_
  intro v1 T1 L1 s X1 hZ hown hI1 hvm1 hhp1 hWw1 hQ1
  obtain ⟨rfl, Nq1, K1, Sx1⟩ := hQ1
  have N1 := Fr.app N0 Nq1
  show own_Ends p e below s _ _ _ (own_F T1 m 9 #[rv x, rv a] [])
  refine own_retV X1 hx hlk hrt (hb hby own_d3_9) (by decide) (by decide) ?_
  exact ⟨rfl, N1, K1, Sx1⟩
set_option maxRecDepth 65536 in
set_option maxHeartbeats 40000000 in
theorem own_sie4 (l : Launch) (Z : State) (a0 : Array Value) (hw : ∀ d ∈ tables_1, d.before a0 Z = true) (ws : List Jvm.Cond) (x a : Addr) (f g : Nat → Int32) (h0 : Heap) (n0 : Nat) (Z0 : n0 ≤ h0.size) (Aa : own_A Z h0 a .char 0 (fun i => .int (g i))) (E_x : Exa Z h0 x "java/lang/String") (F_v : Fld Z h0 x "java/lang/String" "value" "[B" .null) (F_c : Fld Z h0 x "java/lang/String" "coder" "B" (.int (0 : Int32))) (g_x : n0 ≤ x) (hkp : ∀ (b : Addr) (cl : Cell), Z.heap[b]? = some cl → h0[b]? = some cl) (hh7 : Jvm.Lit.constHeld Z "java/lang/String" 7) (hcw : Jvm.Lit.compactW.before a0 Z = true) :
    own_MetW l Z (⟨"java/lang/String", "<init>", "([CIILjava/lang/Void;)V"⟩ : MethodName) jdk_42_method_149_code 6 none ws ({ frames := 1, cells := 2, slots := 4, locals := 12 } : Room) #[(.ref x), (.ref a), (.int 0), (.int 0), .null] h0 (fun vm => own_LS Z h0 vm own_K0) ((fun v h L vm => v = none ∧ Fr n0 L ∧ Keep h0 h [x] ∧ (∃ t : Addr, own_Lat Z h x t 0 f) ∧ own_LS Z h vm own_K0), ([""] : List String)) := by
  refine own_bodyW own_pn9 (fun m => mkF m 0 #[rv x, rv a, iv 0, iv 0, .val .null, .unset] []) (fun m => own_ef_own_sie4 m x a (0 : Int32) (0 : Int32)) ?_
  intro p e s m below meth c T0 hx hby hml hlk hrt hZ hown hnm X0 e0 LS0 SH0
  have hown : s.vm.findClass "java/lang/String" = some m.cls := hown
  have N0 := Fr.nil n0
  refine own_g (own_F T0 m 1 #[rv x, rv a, iv 0, iv 0, .val .null, .unset] [(.ref x)]) (fun _ z_ => XS.aloadN X0.here hx rfl (hb hby own_d4_0) rfl rfl z_) ?_
  obtain ⟨T1, X1, e1, st1⟩ := initO X0 hx hZ hown (own_w hw 21) (own_w hw 22) (own_w hw 23) e0 (g := (mkF m 1 #[rv x, rv a, iv 0, iv 0, .val .null, .unset] [(.ref x)])) rfl (by rw [hml]; rfl) rfl (hb hby own_d4_1) (by decide) (W := 0) (by show 2 * 0 + _ ≤ _; exact Nat.le_of_eq rfl) (by decide)
  refine own_pre (S' := (own_F T1 m 4 #[rv x, rv a, iv 0, iv 0, .val .null, .unset] [])) st1 ?_
  refine own_g (own_F T1 m 5 #[rv x, rv a, iv 0, iv 0, .val .null, .unset] [(.int 0)]) (fun _ z_ => XS.iloadN X1.here hx rfl (hb hby own_d4_4) rfl z_) ?_
  refine own_g (own_F T1 m 8 #[rv x, rv a, iv 0, iv 0, .val .null, .unset] []) (fun _ z_ => XS.ifNo X1.here hx rfl (hb hby own_d4_5) rfl ((if0 _ _).trans (teq (by decide : ((0 : Int32) = (0 : Int32)))).2) z_) ?_
  refine own_g (own_F T1 m 9 #[rv x, rv a, iv 0, iv 0, .val .null, .unset] [(.ref x)]) (fun _ z_ => XS.aloadN X1.here hx rfl (hb hby own_d4_8) rfl rfl z_) ?_
  refine own_ldL X1 hx hZ hown (own_w hw 24) (own_wS hw) e1 (Fr.nil _) (fun b_ c_ q_ => by rw [SH0]; exact hkp b_ c_ q_) LS0 (List.mem_of_getElem? (i := 0) rfl) own_uq0 hh7 hcw (by decide) (n := 0) (by rfl) (by decide) (hb hby own_d4_9) (by decide) (by decide) (fun _ z_ => z_) ?_
  intro a2 t2 T2 h2 s X2 hZ hown e2 E2 hp2 LS2 Li2 La2
  have SH2 : s.heap = h0 := hp2.trans SH0
  show own_Ends p e below s _ _ _ (own_F T2 m 11 #[rv x, rv a, iv 0, iv 0, .val .null, .unset] [(.ref a2), (.ref x)])
  have na2 : a2 ≠ x := Fld.ne La2.2.1 (F_v.ext E2) (fun z => by cases z)
  have nt2 : t2 ≠ x := own_ANe La2.2.2.2.1 (E_x.ext E2) (own_w hw 12)
  obtain ⟨T3, X3, e3, st3⟩ := getF X2 hx hZ hown (host := "") (Or.inl (own_w hw 30)) Via.refl e2 La2.2.1 (g := (mkF m 11 #[rv x, rv a, iv 0, iv 0, .val .null, .unset] [(.ref a2), (.ref x)])) rfl rfl (hb hby own_d4_11)
  refine own_pre (S' := (own_F T3 m 14 #[rv x, rv a, iv 0, iv 0, .val .null, .unset] [(.ref t2), (.ref x)])) st3 ?_
  obtain ⟨T4, h4, X4, e4, W4, st4⟩ := putF X3 hx hZ hown (host := "") (Or.inl (own_w hw 30)) Via.refl e3 (F_v.ext E2) (E_x.ext E2) (Or.inr ⟨(own_w hw 26), rfl, hnm⟩) (own_w hw 12) (ty := (.array .byte)) (by decide) rfl rfl (g := (mkF m 14 #[rv x, rv a, iv 0, iv 0, .val .null, .unset] [(.ref t2), (.ref x)])) rfl rfl (hb hby own_d4_14)
  have N4 := Fr.snoc X4 N0 g_x
  have Fw4 := (F_v.ext E2).same W4
  refine own_pre (S' := (own_F T4 m 17 #[rv x, rv a, iv 0, iv 0, .val .null, .unset] [])) st4 ?_
  refine own_g (own_F T4 m 18 #[rv x, rv a, iv 0, iv 0, .val .null, .unset] [(.ref x)]) (fun _ z_ => XS.aloadN X4.here hx rfl (hb hby own_d4_17) rfl rfl z_) ?_
  refine own_ldcA X4 hx hZ hown (own_w hw 24) Li2 (hb hby own_d4_18) ?_
  show own_Ends p e below s _ _ _ (own_F T4 m 20 #[rv x, rv a, iv 0, iv 0, .val .null, .unset] [(.ref a2), (.ref x)])
  obtain ⟨T5, X5, e5, st5⟩ := getF X4 hx hZ hown (host := "") (Or.inl (own_w hw 31)) Via.refl e4 (La2.2.2.1.other W4 (Or.inl na2)) (g := (mkF m 20 #[rv x, rv a, iv 0, iv 0, .val .null, .unset] [(.ref a2), (.ref x)])) rfl rfl (hb hby own_d4_20)
  refine own_pre (S' := (own_F T5 m 23 #[rv x, rv a, iv 0, iv 0, .val .null, .unset] [(.int 0), (.ref x)])) st5 ?_
  obtain ⟨T6, h6, X6, e6, W6, st6⟩ := putF X5 hx hZ hown (host := "") (Or.inl (own_w hw 31)) Via.refl e5 ((F_c.ext E2).other W4 (Or.inr (slot_ne (C := "java/lang/String") (Or.inr (own_w hw 27)) (Or.inr (own_w hw 26)) (by decide) (t := .byte) (t' := (.array .byte)) (by decide) (by decide)))) ((E_x.ext E2).wr W4) (Or.inr ⟨(own_w hw 27), rfl, hnm⟩) (own_w hw 12) (ty := .byte) (by decide) rfl rfl (g := (mkF m 23 #[rv x, rv a, iv 0, iv 0, .val .null, .unset] [(.int 0), (.ref x)])) rfl rfl (hb hby own_d4_23)
  have N6 := Fr.snoc X6 N4 g_x
  have Fw6 := ((F_c.ext E2).other W4 (Or.inr (slot_ne (C := "java/lang/String") (Or.inr (own_w hw 27)) (Or.inr (own_w hw 26)) (by decide) (t := .byte) (t' := (.array .byte)) (by decide) (by decide)))).same W6
  refine own_pre (S' := (own_F T6 m 26 #[rv x, rv a, iv 0, iv 0, .val .null, .unset] [])) st6 ?_
  refine own_retV X6 hx hlk hrt (hb hby own_d4_26) (by decide) (by decide) ?_
  show _ ∧ Fr n0 _ ∧ Keep h0 T6.heap [x] ∧ _
  rw [e6]
  exact ⟨rfl, N6, ((((Keep.refl _ _).ext E2).wr W4 (Or.inl (List.mem_of_getElem? (i := 0) rfl))).wr W6 (Or.inl (List.mem_of_getElem? (i := 0) rfl))), ⟨t2, (((E_x.ext E2).wr W4).wr W6), (Fw4.other W6 (Or.inr (slot_ne (C := "java/lang/String") (Or.inr (own_w hw 26)) (Or.inr (own_w hw 27)) (by decide) (t := (.array .byte)) (t' := .byte) (by decide) (by decide)))), Fw6, (((La2.2.2.2.1.other W4 nt2).other W6 nt2)).congr fun i hi => absurd hi (Nat.not_lt_zero i), fun i hi => absurd hi (Nat.not_lt_zero i)⟩, own_LS.warm (own_LS.keepN LS2 (((Keep.refl _ _).wr W4 (Or.inl (List.mem_singleton.mpr rfl))).wr W6 (Or.inl (List.mem_singleton.mpr rfl))) (E_x.ext E2) (F_v.ext E2) (own_w hw 12)) X6.warmed⟩
set_option maxRecDepth 65536 in
set_option maxHeartbeats 40000000 in
theorem own_sie (l : Launch) (Z : State) (a0 : Array Value) (hw : ∀ d ∈ tables_1, d.before a0 Z = true) (ws : List Jvm.Cond) (x a : Addr) (f g : Nat → Int32) (h0 : Heap) (n0 : Nat) (Z0 : n0 ≤ h0.size) (Aa : own_A Z h0 a .char 0 (fun i => .int (g i))) (E_x : Exa Z h0 x "java/lang/String") (F_v : Fld Z h0 x "java/lang/String" "value" "[B" .null) (F_c : Fld Z h0 x "java/lang/String" "coder" "B" (.int (0 : Int32))) (g_x : n0 ≤ x) (hkp : ∀ (b : Addr) (cl : Cell), Z.heap[b]? = some cl → h0[b]? = some cl) (hh7 : Jvm.Lit.constHeld Z "java/lang/String" 7) (hcw : Jvm.Lit.compactW.before a0 Z = true) :
    own_MetW l Z (⟨"java/lang/String", "<init>", "([C)V"⟩ : MethodName) jdk_42_method_3_code 2 none ws ({ frames := 2, cells := 2, slots := 4, locals := 29 } : Room) #[(.ref x), (.ref a)] h0 (fun vm => own_LS Z h0 vm own_K0) ((fun v h L vm => v = none ∧ Fr n0 L ∧ Keep h0 h [x] ∧ (∃ t : Addr, own_Lat Z h x t 0 f) ∧ own_LS Z h vm own_K0), ([""] : List String)) := by
  refine own_bodyW own_pn10 (fun m => mkF m 0 #[rv x, rv a] []) (fun m => own_ef_own_sie m x a) ?_
  intro p e s m below meth c T0 hx hby hml hlk hrt hZ hown hnm X0 e0 LS0 SH0
  have hown : s.vm.findClass "java/lang/String" = some m.cls := hown
  have N0 := Fr.nil n0
  refine own_g (own_F T0 m 1 #[rv x, rv a] [(.ref x)]) (fun _ z_ => XS.aloadN X0.here hx rfl (hb hby own_d3_0) rfl rfl z_) ?_
  refine own_g (own_F T0 m 2 #[rv x, rv a] [(.ref a), (.ref x)]) (fun _ z_ => XS.aloadN X0.here hx rfl (hb hby own_d3_1) rfl rfl z_) ?_
  refine own_g (own_F T0 m 3 #[rv x, rv a] [(.int 0), (.ref a), (.ref x)]) (fun _ z_ => XS.iconst X0.here hx rfl (hb hby own_d3_2) z_) ?_
  refine own_g (own_F T0 m 4 #[rv x, rv a] [(.ref a), (.int 0), (.ref a), (.ref x)]) (fun _ z_ => XS.aloadN X0.here hx rfl (hb hby own_d3_3) rfl rfl z_) ?_
  refine own_alen X0 hx hZ e0 Aa (hb hby own_d3_4) ?_
  show own_Ends p e below s _ _ _ (own_F T0 m 5 #[rv x, rv a] [(.int 0), (.int 0), (.ref a), (.ref x)])
  refine own_g (own_F T0 m 6 #[rv x, rv a] [.null, (.int 0), (.int 0), (.ref a), (.ref x)]) (fun _ z_ => XS.aconstNull X0.here hx rfl (hb hby own_d3_5) z_) ?_
  refine own_callI (y := (⟨"java/lang/String", "<init>", "([CIILjava/lang/Void;)V"⟩ : MethodName)) (b := x) X0 hx hZ hown rfl (own_w hw 17) (own_w hw 18) (own_w hw 20) (own_w hw 13) (by decide) e0 (hM := own_sie4 l Z a0 hw [] x a f g h0 n0 Z0 Aa E_x F_v F_c g_x hkp hh7 hcw) (hv := fun _ hq_ => own_LS.warm LS0 hq_) (hsub := fun _ z_ => z_) (W := 0) (pc := 6) (Ls := #[rv x, rv a]) (argsL := [(.ref a), (.int 0), (.int 0), .null]) (rest := []) (st0 := [.null, (.int 0), (.int 0), (.ref a), (.ref x)]) (by rw [hml]; rfl) (lenOf own_pd7 rfl) rfl (Nat.le_of_eq rfl) (hb hby own_d3_6) (by decide) (by decide) (by decide) (by decide) ?_
  intro v1 T1 L1 s X1 hZ hown hI1 hvm1 hhp1 hWw1 hQ1
  obtain ⟨rfl, Nq1, K1, Lt1, LS1⟩ := hQ1
  have N1 := Fr.app N0 Nq1
  show own_Ends p e below s _ _ _ (own_F T1 m 9 #[rv x, rv a] [])
  refine own_retV X1 hx hlk hrt (hb hby own_d3_9) (by decide) (by decide) ?_
  exact ⟨rfl, N1, K1, Lt1, own_LS.warm (own_LS.ofvm LS1 hvm1) X1.warmed⟩
set_option maxRecDepth 65536 in
set_option maxHeartbeats 40000000 in
theorem own_str (l : Launch) (Z : State) (a0 : Array Value) (hw : ∀ d ∈ tables_1, d.before a0 Z = true) (ws : List Jvm.Cond) (a : Addr) (ln zc : Int32) (f : Nat → Int32) (h0 : Heap) (n0 : Nat) (Z0 : n0 ≤ h0.size) (Aa : own_A Z h0 a .char 3 (fun i => .int (f i))) (hf : ∀ i, i < 3 → 0 ≤ (f i).toInt ∧ (f i).toInt ≤ 65535) (hl : 0 ≤ ln.toInt ∧ ln.toInt ≤ 3) (hzc : ¬ zc = (0 : Int32)) (S_cs : Sta Z h0 "java/lang/String" "COMPACT_STRINGS" "Z" (.int zc)) (S_ad : Sta Z h0 "java/lang/StringUTF16" "$assertionsDisabled" "Z" (.int (1 : Int32))) (S_hi : Sta Z h0 "java/lang/StringUTF16" "HI_BYTE_SHIFT" "I" (.int (0 : Int32))) (S_lo : Sta Z h0 "java/lang/StringUTF16" "LO_BYTE_SHIFT" "I" (.int (8 : Int32))) (hkp : ∀ (b : Addr) (cl : Cell), Z.heap[b]? = some cl → h0[b]? = some cl) (hh7 : Jvm.Lit.constHeld Z "java/lang/String" 7) (hcw : Jvm.Lit.compactW.before a0 Z = true) :
    own_MetW l Z (⟨"com/example/kunci/kunci/CodePointsComparePinLaw", "str", "([CI)Ljava/lang/String;"⟩ : MethodName) method_3_code 2 (some (.object "java/lang/String")) ws ({ frames := 6, cells := 4, slots := 19, locals := 88 } : Room) #[(.ref a), (.int ln)] h0 (fun vm => own_LS Z h0 vm own_K0) ((fun v h L vm => ∃ x : Addr, v = some (.ref x) ∧ Fr n0 L ∧ Keep h0 h [] ∧ own_Str Z h x ln.toInt.toNat f ∧ own_LS Z h vm own_K0), ([""] : List String)) := by
  refine own_bodyW own_pn11 (fun m => mkF m 0 #[rv a, iv ln] []) (fun m => own_ef_own_str m a ln) ?_
  intro p e s m below meth c T0 hx hby hml hlk hrt hZ hown hnm X0 e0 LS0 SH0
  have hown : s.vm.findClass "com/example/kunci/kunci/CodePointsComparePinLaw" = some m.cls := hown
  have N0 := Fr.nil n0
  refine own_g (own_F T0 m 1 #[rv a, iv ln] [(.int ln)]) (fun _ z_ => XS.iloadN X0.here hx rfl (hb hby own_d2_0) rfl z_) ?_
  by_cases c1 : ln = (0 : Int32)
  · -- pc 1: ln = (0 : Int32)
   refine own_g (own_F T0 m 4 #[rv a, iv ln] []) (fun _ z_ => XS.ifNo X0.here hx rfl (hb hby own_d2_1) rfl ((if0 _ _).trans (teq c1).2) z_) ?_
   obtain ⟨T1, h1, X1, e1, E1, A1, D1, -, st1⟩ := newO X0 hx hZ hown (own_w hw 11) (own_w hw 12) (own_w hw 13) e0 (g := (mkF m 4 #[rv a, iv ln] [])) rfl (hb hby own_d2_4) (by decide) (by decide)
   obtain ⟨b1, g1⟩ : ∃ z, z = h0.size := ⟨_, rfl⟩
   rw [← g1] at A1 D1 st1
   have sz_b1 : h0.size ≤ b1 := Nat.le_trans (Nat.le_refl h0.size) (Nat.le_of_eq g1.symm)
   have ge_b1 : n0 ≤ b1 := Nat.le_trans Z0 (Nat.le_of_eq g1.symm)
   have ne_a_b1 : a ≠ b1 := Nat.ne_of_lt (Nat.lt_of_lt_of_le Aa.lt (Nat.le_of_eq g1.symm))
   have F1_value : Fld Z h1 b1 "java/lang/String" "value" "[B" .null := D1 (Or.inr (own_w hw 26)) (ty := (.array .byte)) (by decide)
   have F1_coder : Fld Z h1 b1 "java/lang/String" "coder" "B" (.int 0) := D1 (Or.inr (own_w hw 27)) (ty := .byte) (by decide)
   refine own_pre (S' := (own_F T1 m 7 #[rv a, iv ln] [(.ref b1)])) st1 ?_
   refine own_g (own_F T1 m 8 #[rv a, iv ln] [(.ref b1), (.ref b1)]) (fun _ z_ => XS.dup X1.here hx rfl (hb hby own_d2_7) rfl rfl z_) ?_
   refine own_g (own_F T1 m 9 #[rv a, iv ln] [(.int 0), (.ref b1), (.ref b1)]) (fun _ z_ => XS.iconst X1.here hx rfl (hb hby own_d2_8) z_) ?_
   refine own_newA X1 hx hZ .char rfl (own_w hw 0) e1 (hb hby own_d2_9) 0 rfl 0 (by decide) (by decide) (by decide) (by decide) ?_
   intro T2 h2 b2 X2 e2 E2 g2 A2
   have sz_b2 : h0.size ≤ b2 := Nat.le_trans (Nat.le_trans (Nat.le_refl h0.size) E1.1) (Nat.le_of_eq g2.symm)
   have ge_b2 : n0 ≤ b2 := Nat.le_trans (Nat.le_trans Z0 E1.1) (Nat.le_of_eq g2.symm)
   have ne_a_b2 : a ≠ b2 := Nat.ne_of_lt (Nat.lt_of_lt_of_le (Aa.ext E1).lt (Nat.le_of_eq g2.symm))
   have ne_b1_b2 : b1 ≠ b2 := Nat.ne_of_lt (Nat.lt_of_lt_of_le F1_value.lt (Nat.le_of_eq g2.symm))
   have A2 : own_A Z h2 b2 .char 0 (fun q_ => .int ((fun _ => (0 : Int32)) q_)) := A2
   show own_Ends p e below s _ _ _ (own_F T2 m 11 #[rv a, iv ln] [(.ref b2), (.ref b1), (.ref b1)])
   refine own_callI (y := (⟨"java/lang/String", "<init>", "([C)V"⟩ : MethodName)) (b := b1) X2 hx hZ hown rfl (own_w hw 14) (own_w hw 15) (own_w hw 16) (own_w hw 13) (by decide) e2 (hM := own_sie l Z a0 hw [] b1 b2 f (fun _ => (0 : Int32)) h2 n0 (Nat.le_trans (Nat.le_trans Z0 E1.1) E2.1) A2 (A1.ext E2) (F1_value.ext E2) (F1_coder.ext E2) ge_b1 (fun b_ c_ q_ => ((((Keep.refl _ _).ext E1).ext E2)).2.1 b_ c_ (hkp b_ c_ q_) nin0) hh7 hcw) (hv := fun _ hq_ => own_LS.warm (LS0.keep (((Keep.refl _ _).ext E1).ext E2)) hq_) (hsub := fun _ z_ => z_) (W := 1) (pc := 11) (Ls := #[rv a, iv ln]) (argsL := [(.ref b2)]) (rest := [(.ref b1)]) (st0 := [(.ref b2), (.ref b1), (.ref b1)]) (by rw [hml]; rfl) (lenOf own_pd8 rfl) rfl (Nat.le_of_eq rfl) (hb hby own_d2_11) (by decide) (by decide) (by decide) (by decide) ?_
   intro v3 T3 L3 s X3 hZ hown hI3 hvm3 hhp3 hWw3 hQ3
   have SH3 : s.heap = h0 := hhp3.trans SH0
   obtain ⟨rfl, Nq3, K3, ⟨t3, Lz3⟩, LS3⟩ := hQ3
   have La3 := own_Str.ofLat Lz3
   have N3 := Fr.app N0 Nq3
   show own_Ends p e below s _ _ _ (own_F T3 m 14 #[rv a, iv ln] [(.ref b1)])
   refine own_ret (t := (.object "java/lang/String")) X3 hx hlk hrt rfl (Or.inr (Or.inr (Or.inr (Or.inr ⟨rfl, rfl, rfl⟩)))) (hb hby own_d2_14) (by decide) (by decide) ?_
   have hln : 0 = ln.toInt.toNat := (by rw [c1]; rfl)
   exact ⟨b1, rfl, N3, ((((Keep.refl _ _).ext E1).ext E2).trans K3 (allS (Or.inr sz_b1) all0)), La3.congr hln (fun i hi => absurd hi (Nat.not_lt_zero i)), own_LS.warm (own_LS.ofvm LS3 hvm3) X3.warmed⟩
  · -- pc 1: not ln = (0 : Int32)
   refine own_g (own_F T0 m 15 #[rv a, iv ln] []) (fun _ z_ => XS.ifYes X0.here hx rfl (pc0 := 1) (pc' := 15) rfl (hb hby own_d2_1) rfl ((if0 _ _).trans (feq c1).2) (by decide) (by decide) z_) ?_
   refine own_g (own_F T0 m 16 #[rv a, iv ln] [(.int ln)]) (fun _ z_ => XS.iloadN X0.here hx rfl (hb hby own_d2_15) rfl z_) ?_
   refine own_g (own_F T0 m 17 #[rv a, iv ln] [(.int 1), (.int ln)]) (fun _ z_ => XS.iconst X0.here hx rfl (hb hby own_d2_16) z_) ?_
   by_cases c17 : ln = (1 : Int32)
   · -- pc 17: ln = (1 : Int32)
    refine own_g (own_F T0 m 20 #[rv a, iv ln] []) (fun _ z_ => XS.icmpNo X0.here hx rfl (hb hby own_d2_17) rfl (teq c17).2 z_) ?_
    obtain ⟨T4, h4, X4, e4, E4, A4, D4, -, st4⟩ := newO X0 hx hZ hown (own_w hw 11) (own_w hw 12) (own_w hw 13) e0 (g := (mkF m 20 #[rv a, iv ln] [])) rfl (hb hby own_d2_20) (by decide) (by decide)
    obtain ⟨b4, g4⟩ : ∃ z, z = h0.size := ⟨_, rfl⟩
    rw [← g4] at A4 D4 st4
    have sz_b4 : h0.size ≤ b4 := Nat.le_trans (Nat.le_refl h0.size) (Nat.le_of_eq g4.symm)
    have ge_b4 : n0 ≤ b4 := Nat.le_trans Z0 (Nat.le_of_eq g4.symm)
    have ne_a_b4 : a ≠ b4 := Nat.ne_of_lt (Nat.lt_of_lt_of_le Aa.lt (Nat.le_of_eq g4.symm))
    have F4_value : Fld Z h4 b4 "java/lang/String" "value" "[B" .null := D4 (Or.inr (own_w hw 26)) (ty := (.array .byte)) (by decide)
    have F4_coder : Fld Z h4 b4 "java/lang/String" "coder" "B" (.int 0) := D4 (Or.inr (own_w hw 27)) (ty := .byte) (by decide)
    refine own_pre (S' := (own_F T4 m 23 #[rv a, iv ln] [(.ref b4)])) st4 ?_
    refine own_g (own_F T4 m 24 #[rv a, iv ln] [(.ref b4), (.ref b4)]) (fun _ z_ => XS.dup X4.here hx rfl (hb hby own_d2_23) rfl rfl z_) ?_
    refine own_g (own_F T4 m 25 #[rv a, iv ln] [(.int 1), (.ref b4), (.ref b4)]) (fun _ z_ => XS.iconst X4.here hx rfl (hb hby own_d2_24) z_) ?_
    refine own_newA X4 hx hZ .char rfl (own_w hw 0) e4 (hb hby own_d2_25) 1 rfl 1 (by decide) (by decide) (by decide) (by decide) ?_
    intro T5 h5 b5 X5 e5 E5 g5 A5
    have sz_b5 : h0.size ≤ b5 := Nat.le_trans (Nat.le_trans (Nat.le_refl h0.size) E4.1) (Nat.le_of_eq g5.symm)
    have ge_b5 : n0 ≤ b5 := Nat.le_trans (Nat.le_trans Z0 E4.1) (Nat.le_of_eq g5.symm)
    have ne_a_b5 : a ≠ b5 := Nat.ne_of_lt (Nat.lt_of_lt_of_le (Aa.ext E4).lt (Nat.le_of_eq g5.symm))
    have ne_b4_b5 : b4 ≠ b5 := Nat.ne_of_lt (Nat.lt_of_lt_of_le F4_value.lt (Nat.le_of_eq g5.symm))
    have A5 : own_A Z h5 b5 .char 1 (fun q_ => .int ((fun _ => (0 : Int32)) q_)) := A5
    show own_Ends p e below s _ _ _ (own_F T5 m 27 #[rv a, iv ln] [(.ref b5), (.ref b4), (.ref b4)])
    refine own_g (own_F T5 m 28 #[rv a, iv ln] [(.ref b5), (.ref b5), (.ref b4), (.ref b4)]) (fun _ z_ => XS.dup X5.here hx rfl (hb hby own_d2_27) rfl rfl z_) ?_
    refine own_g (own_F T5 m 29 #[rv a, iv ln] [(.int 0), (.ref b5), (.ref b5), (.ref b4), (.ref b4)]) (fun _ z_ => XS.iconst X5.here hx rfl (hb hby own_d2_28) z_) ?_
    refine own_g (own_F T5 m 30 #[rv a, iv ln] [(.ref a), (.int 0), (.ref b5), (.ref b5), (.ref b4), (.ref b4)]) (fun _ z_ => XS.aloadN X5.here hx rfl (hb hby own_d2_29) rfl rfl z_) ?_
    refine own_g (own_F T5 m 31 #[rv a, iv ln] [(.int 0), (.ref a), (.int 0), (.ref b5), (.ref b5), (.ref b4), (.ref b4)]) (fun _ z_ => XS.iconst X5.here hx rfl (hb hby own_d2_30) z_) ?_
    refine own_cald X5 hx hZ e5 ((Aa.ext E4).ext E5) 0 rfl (by decide) (hb hby own_d2_31) ?_
    show own_Ends p e below s _ _ _ (own_F T5 m 32 #[rv a, iv ln] [(.int (f 0)), (.int 0), (.ref b5), (.ref b5), (.ref b4), (.ref b4)])
    refine own_cast X5 hx hZ e5 A5 0 rfl (by decide) (f 0) (own_narC (hf 0 (by decide))) (hb hby own_d2_32) ?_
    intro T6 h6 X6 e6 W6 A6
    have N6 := Fr.snoc X6 N0 ge_b5
    obtain ⟨g6, A6, q6_0⟩ : ∃ gq_ : Nat → Int32, own_A Z h6 b5 .char 1 (fun q_ => .int (gq_ q_)) ∧ gq_ 0 = (f 0) := ⟨_, A6, rfl⟩
    show own_Ends p e below s _ _ _ (own_F T6 m 33 #[rv a, iv ln] [(.ref b5), (.ref b4), (.ref b4)])
    have hgf : ∀ i, i < 1 → g6 i = f i := fun i hi => by rcases own_lt1 hi with rfl; exact q6_0
    refine own_callI (y := (⟨"java/lang/String", "<init>", "([C)V"⟩ : MethodName)) (b := b4) X6 hx hZ hown rfl (own_w hw 14) (own_w hw 15) (own_w hw 16) (own_w hw 13) (by decide) e6 (hM := own_si l Z a0 hw [] b4 b5 1 1 zc g6 h6 n0 (Nat.le_trans (Nat.le_trans (Nat.le_trans Z0 E4.1) E5.1) (Nat.le_of_eq W6.size.symm)) rfl (by decide) (by decide) hzc A6 (fun i hi => by rw [hgf i hi]; exact hf i (by omega)) ((A4.ext E5).wr W6) ((F4_value.ext E5).other W6 (Or.inl ne_b4_b5)) ((F4_coder.ext E5).other W6 (Or.inl ne_b4_b5)) (((S_cs.ext E4).ext E5).wr W6) (((S_ad.ext E4).ext E5).wr W6) (((S_hi.ext E4).ext E5).wr W6) (((S_lo.ext E4).ext E5).wr W6) ge_b4 ne_b4_b5) (W := 1) (pc := 33) (Ls := #[rv a, iv ln]) (argsL := [(.ref b5)]) (rest := [(.ref b4)]) (st0 := [(.ref b5), (.ref b4), (.ref b4)]) (by rw [hml]; rfl) (lenOf own_pd8 rfl) rfl (Nat.le_of_eq rfl) (hb hby own_d2_33) (by decide) (by decide) (by decide) (by decide) ?_
    intro v7 T7 L7 s X7 hZ hown hI7 hvm7 hhp7 hWw7 hQ7
    have SH7 : s.heap = h0 := hhp7.trans SH0
    obtain ⟨rfl, Nq7, K7, La7⟩ := hQ7
    have N7 := Fr.app N6 Nq7
    show own_Ends p e below s _ _ _ (own_F T7 m 36 #[rv a, iv ln] [(.ref b4)])
    have LS7 := own_LS.step LS0 hI7 hWw7
    refine own_ret (t := (.object "java/lang/String")) X7 hx hlk hrt rfl (Or.inr (Or.inr (Or.inr (Or.inr ⟨rfl, rfl, rfl⟩)))) (hb hby own_d2_36) (by decide) (by decide) ?_
    have hln : 1 = ln.toInt.toNat := (by rw [c17]; rfl)
    exact ⟨b4, rfl, N7, (((((Keep.refl _ _).ext E4).ext E5).wr W6 (Or.inr sz_b5)).trans K7 (allS (Or.inr sz_b4) all0)), La7.congr hln hgf, own_LS.warm (LS7.keep (((((Keep.refl _ _).ext E4).ext E5).wr W6 (Or.inr sz_b5)).trans K7 (allS (Or.inr sz_b4) all0))) X7.warmed⟩
   · -- pc 17: not ln = (1 : Int32)
    refine own_g (own_F T0 m 37 #[rv a, iv ln] []) (fun _ z_ => XS.icmpYes X0.here hx rfl (pc0 := 17) (pc' := 37) rfl (hb hby own_d2_17) rfl (feq c17).2 (by decide) (by decide) z_) ?_
    refine own_g (own_F T0 m 38 #[rv a, iv ln] [(.int ln)]) (fun _ z_ => XS.iloadN X0.here hx rfl (hb hby own_d2_37) rfl z_) ?_
    refine own_g (own_F T0 m 39 #[rv a, iv ln] [(.int 2), (.int ln)]) (fun _ z_ => XS.iconst X0.here hx rfl (hb hby own_d2_38) z_) ?_
    by_cases c39 : ln = (2 : Int32)
    · -- pc 39: ln = (2 : Int32)
     refine own_g (own_F T0 m 42 #[rv a, iv ln] []) (fun _ z_ => XS.icmpNo X0.here hx rfl (hb hby own_d2_39) rfl (teq c39).2 z_) ?_
     obtain ⟨T8, h8, X8, e8, E8, A8, D8, -, st8⟩ := newO X0 hx hZ hown (own_w hw 11) (own_w hw 12) (own_w hw 13) e0 (g := (mkF m 42 #[rv a, iv ln] [])) rfl (hb hby own_d2_42) (by decide) (by decide)
     obtain ⟨b8, g8⟩ : ∃ z, z = h0.size := ⟨_, rfl⟩
     rw [← g8] at A8 D8 st8
     have sz_b8 : h0.size ≤ b8 := Nat.le_trans (Nat.le_refl h0.size) (Nat.le_of_eq g8.symm)
     have ge_b8 : n0 ≤ b8 := Nat.le_trans Z0 (Nat.le_of_eq g8.symm)
     have ne_a_b8 : a ≠ b8 := Nat.ne_of_lt (Nat.lt_of_lt_of_le Aa.lt (Nat.le_of_eq g8.symm))
     have F8_value : Fld Z h8 b8 "java/lang/String" "value" "[B" .null := D8 (Or.inr (own_w hw 26)) (ty := (.array .byte)) (by decide)
     have F8_coder : Fld Z h8 b8 "java/lang/String" "coder" "B" (.int 0) := D8 (Or.inr (own_w hw 27)) (ty := .byte) (by decide)
     refine own_pre (S' := (own_F T8 m 45 #[rv a, iv ln] [(.ref b8)])) st8 ?_
     refine own_g (own_F T8 m 46 #[rv a, iv ln] [(.ref b8), (.ref b8)]) (fun _ z_ => XS.dup X8.here hx rfl (hb hby own_d2_45) rfl rfl z_) ?_
     refine own_g (own_F T8 m 47 #[rv a, iv ln] [(.int 2), (.ref b8), (.ref b8)]) (fun _ z_ => XS.iconst X8.here hx rfl (hb hby own_d2_46) z_) ?_
     refine own_newA X8 hx hZ .char rfl (own_w hw 0) e8 (hb hby own_d2_47) 2 rfl 2 (by decide) (by decide) (by decide) (by decide) ?_
     intro T9 h9 b9 X9 e9 E9 g9 A9
     have sz_b9 : h0.size ≤ b9 := Nat.le_trans (Nat.le_trans (Nat.le_refl h0.size) E8.1) (Nat.le_of_eq g9.symm)
     have ge_b9 : n0 ≤ b9 := Nat.le_trans (Nat.le_trans Z0 E8.1) (Nat.le_of_eq g9.symm)
     have ne_a_b9 : a ≠ b9 := Nat.ne_of_lt (Nat.lt_of_lt_of_le (Aa.ext E8).lt (Nat.le_of_eq g9.symm))
     have ne_b8_b9 : b8 ≠ b9 := Nat.ne_of_lt (Nat.lt_of_lt_of_le F8_value.lt (Nat.le_of_eq g9.symm))
     have A9 : own_A Z h9 b9 .char 2 (fun q_ => .int ((fun _ => (0 : Int32)) q_)) := A9
     show own_Ends p e below s _ _ _ (own_F T9 m 49 #[rv a, iv ln] [(.ref b9), (.ref b8), (.ref b8)])
     refine own_g (own_F T9 m 50 #[rv a, iv ln] [(.ref b9), (.ref b9), (.ref b8), (.ref b8)]) (fun _ z_ => XS.dup X9.here hx rfl (hb hby own_d2_49) rfl rfl z_) ?_
     refine own_g (own_F T9 m 51 #[rv a, iv ln] [(.int 0), (.ref b9), (.ref b9), (.ref b8), (.ref b8)]) (fun _ z_ => XS.iconst X9.here hx rfl (hb hby own_d2_50) z_) ?_
     refine own_g (own_F T9 m 52 #[rv a, iv ln] [(.ref a), (.int 0), (.ref b9), (.ref b9), (.ref b8), (.ref b8)]) (fun _ z_ => XS.aloadN X9.here hx rfl (hb hby own_d2_51) rfl rfl z_) ?_
     refine own_g (own_F T9 m 53 #[rv a, iv ln] [(.int 0), (.ref a), (.int 0), (.ref b9), (.ref b9), (.ref b8), (.ref b8)]) (fun _ z_ => XS.iconst X9.here hx rfl (hb hby own_d2_52) z_) ?_
     refine own_cald X9 hx hZ e9 ((Aa.ext E8).ext E9) 0 rfl (by decide) (hb hby own_d2_53) ?_
     show own_Ends p e below s _ _ _ (own_F T9 m 54 #[rv a, iv ln] [(.int (f 0)), (.int 0), (.ref b9), (.ref b9), (.ref b8), (.ref b8)])
     refine own_cast X9 hx hZ e9 A9 0 rfl (by decide) (f 0) (own_narC (hf 0 (by decide))) (hb hby own_d2_54) ?_
     intro T10 h10 X10 e10 W10 A10
     have N10 := Fr.snoc X10 N0 ge_b9
     obtain ⟨g10, A10, q10_0, q10_1⟩ : ∃ gq_ : Nat → Int32, own_A Z h10 b9 .char 2 (fun q_ => .int (gq_ q_)) ∧ gq_ 0 = (f 0) ∧ gq_ 1 = (0 : Int32) := ⟨_, A10, rfl, (show ite _ _ _ = _ from (if_neg (by decide)).trans rfl)⟩
     show own_Ends p e below s _ _ _ (own_F T10 m 55 #[rv a, iv ln] [(.ref b9), (.ref b8), (.ref b8)])
     refine own_g (own_F T10 m 56 #[rv a, iv ln] [(.ref b9), (.ref b9), (.ref b8), (.ref b8)]) (fun _ z_ => XS.dup X10.here hx rfl (hb hby own_d2_55) rfl rfl z_) ?_
     refine own_g (own_F T10 m 57 #[rv a, iv ln] [(.int 1), (.ref b9), (.ref b9), (.ref b8), (.ref b8)]) (fun _ z_ => XS.iconst X10.here hx rfl (hb hby own_d2_56) z_) ?_
     refine own_g (own_F T10 m 58 #[rv a, iv ln] [(.ref a), (.int 1), (.ref b9), (.ref b9), (.ref b8), (.ref b8)]) (fun _ z_ => XS.aloadN X10.here hx rfl (hb hby own_d2_57) rfl rfl z_) ?_
     refine own_g (own_F T10 m 59 #[rv a, iv ln] [(.int 1), (.ref a), (.int 1), (.ref b9), (.ref b9), (.ref b8), (.ref b8)]) (fun _ z_ => XS.iconst X10.here hx rfl (hb hby own_d2_58) z_) ?_
     refine own_cald X10 hx hZ e10 (((Aa.ext E8).ext E9).other W10 ne_a_b9) 1 rfl (by decide) (hb hby own_d2_59) ?_
     show own_Ends p e below s _ _ _ (own_F T10 m 60 #[rv a, iv ln] [(.int (f 1)), (.int 1), (.ref b9), (.ref b9), (.ref b8), (.ref b8)])
     refine own_cast X10 hx hZ e10 A10 1 rfl (by decide) (f 1) (own_narC (hf 1 (by decide))) (hb hby own_d2_60) ?_
     intro T11 h11 X11 e11 W11 A11
     have N11 := Fr.snoc X11 N10 ge_b9
     obtain ⟨g11, A11, q11_0, q11_1⟩ : ∃ gq_ : Nat → Int32, own_A Z h11 b9 .char 2 (fun q_ => .int (gq_ q_)) ∧ gq_ 0 = (f 0) ∧ gq_ 1 = (f 1) := ⟨_, A11, (show ite _ _ _ = _ from (if_neg (by decide)).trans q10_0), rfl⟩
     show own_Ends p e below s _ _ _ (own_F T11 m 61 #[rv a, iv ln] [(.ref b9), (.ref b8), (.ref b8)])
     have hgf : ∀ i, i < 2 → g11 i = f i := fun i hi => by rcases own_lt2 hi with rfl | rfl; exact q11_0; exact q11_1
     refine own_callI (y := (⟨"java/lang/String", "<init>", "([C)V"⟩ : MethodName)) (b := b8) X11 hx hZ hown rfl (own_w hw 14) (own_w hw 15) (own_w hw 16) (own_w hw 13) (by decide) e11 (hM := own_si l Z a0 hw [] b8 b9 2 2 zc g11 h11 n0 (Nat.le_trans (Nat.le_trans (Nat.le_trans (Nat.le_trans Z0 E8.1) E9.1) (Nat.le_of_eq W10.size.symm)) (Nat.le_of_eq W11.size.symm)) rfl (by decide) (by decide) hzc A11 (fun i hi => by rw [hgf i hi]; exact hf i (by omega)) (((A8.ext E9).wr W10).wr W11) (((F8_value.ext E9).other W10 (Or.inl ne_b8_b9)).other W11 (Or.inl ne_b8_b9)) (((F8_coder.ext E9).other W10 (Or.inl ne_b8_b9)).other W11 (Or.inl ne_b8_b9)) ((((S_cs.ext E8).ext E9).wr W10).wr W11) ((((S_ad.ext E8).ext E9).wr W10).wr W11) ((((S_hi.ext E8).ext E9).wr W10).wr W11) ((((S_lo.ext E8).ext E9).wr W10).wr W11) ge_b8 ne_b8_b9) (W := 1) (pc := 61) (Ls := #[rv a, iv ln]) (argsL := [(.ref b9)]) (rest := [(.ref b8)]) (st0 := [(.ref b9), (.ref b8), (.ref b8)]) (by rw [hml]; rfl) (lenOf own_pd8 rfl) rfl (Nat.le_of_eq rfl) (hb hby own_d2_61) (by decide) (by decide) (by decide) (by decide) ?_
     intro v12 T12 L12 s X12 hZ hown hI12 hvm12 hhp12 hWw12 hQ12
     have SH12 : s.heap = h0 := hhp12.trans SH0
     obtain ⟨rfl, Nq12, K12, La12⟩ := hQ12
     have N12 := Fr.app N11 Nq12
     show own_Ends p e below s _ _ _ (own_F T12 m 64 #[rv a, iv ln] [(.ref b8)])
     have LS12 := own_LS.step LS0 hI12 hWw12
     refine own_ret (t := (.object "java/lang/String")) X12 hx hlk hrt rfl (Or.inr (Or.inr (Or.inr (Or.inr ⟨rfl, rfl, rfl⟩)))) (hb hby own_d2_64) (by decide) (by decide) ?_
     have hln : 2 = ln.toInt.toNat := (by rw [c39]; rfl)
     exact ⟨b8, rfl, N12, ((((((Keep.refl _ _).ext E8).ext E9).wr W10 (Or.inr sz_b9)).wr W11 (Or.inr sz_b9)).trans K12 (allS (Or.inr sz_b8) all0)), La12.congr hln hgf, own_LS.warm (LS12.keep ((((((Keep.refl _ _).ext E8).ext E9).wr W10 (Or.inr sz_b9)).wr W11 (Or.inr sz_b9)).trans K12 (allS (Or.inr sz_b8) all0))) X12.warmed⟩
    · -- pc 39: not ln = (2 : Int32)
     refine own_g (own_F T0 m 65 #[rv a, iv ln] []) (fun _ z_ => XS.icmpYes X0.here hx rfl (pc0 := 39) (pc' := 65) rfl (hb hby own_d2_39) rfl (feq c39).2 (by decide) (by decide) z_) ?_
     obtain ⟨T13, h13, X13, e13, E13, A13, D13, -, st13⟩ := newO X0 hx hZ hown (own_w hw 11) (own_w hw 12) (own_w hw 13) e0 (g := (mkF m 65 #[rv a, iv ln] [])) rfl (hb hby own_d2_65) (by decide) (by decide)
     obtain ⟨b13, g13⟩ : ∃ z, z = h0.size := ⟨_, rfl⟩
     rw [← g13] at A13 D13 st13
     have sz_b13 : h0.size ≤ b13 := Nat.le_trans (Nat.le_refl h0.size) (Nat.le_of_eq g13.symm)
     have ge_b13 : n0 ≤ b13 := Nat.le_trans Z0 (Nat.le_of_eq g13.symm)
     have ne_a_b13 : a ≠ b13 := Nat.ne_of_lt (Nat.lt_of_lt_of_le Aa.lt (Nat.le_of_eq g13.symm))
     have F13_value : Fld Z h13 b13 "java/lang/String" "value" "[B" .null := D13 (Or.inr (own_w hw 26)) (ty := (.array .byte)) (by decide)
     have F13_coder : Fld Z h13 b13 "java/lang/String" "coder" "B" (.int 0) := D13 (Or.inr (own_w hw 27)) (ty := .byte) (by decide)
     refine own_pre (S' := (own_F T13 m 68 #[rv a, iv ln] [(.ref b13)])) st13 ?_
     refine own_g (own_F T13 m 69 #[rv a, iv ln] [(.ref b13), (.ref b13)]) (fun _ z_ => XS.dup X13.here hx rfl (hb hby own_d2_68) rfl rfl z_) ?_
     refine own_g (own_F T13 m 70 #[rv a, iv ln] [(.int 3), (.ref b13), (.ref b13)]) (fun _ z_ => XS.iconst X13.here hx rfl (hb hby own_d2_69) z_) ?_
     refine own_newA X13 hx hZ .char rfl (own_w hw 0) e13 (hb hby own_d2_70) 3 rfl 3 (by decide) (by decide) (by decide) (by decide) ?_
     intro T14 h14 b14 X14 e14 E14 g14 A14
     have sz_b14 : h0.size ≤ b14 := Nat.le_trans (Nat.le_trans (Nat.le_refl h0.size) E13.1) (Nat.le_of_eq g14.symm)
     have ge_b14 : n0 ≤ b14 := Nat.le_trans (Nat.le_trans Z0 E13.1) (Nat.le_of_eq g14.symm)
     have ne_a_b14 : a ≠ b14 := Nat.ne_of_lt (Nat.lt_of_lt_of_le (Aa.ext E13).lt (Nat.le_of_eq g14.symm))
     have ne_b13_b14 : b13 ≠ b14 := Nat.ne_of_lt (Nat.lt_of_lt_of_le F13_value.lt (Nat.le_of_eq g14.symm))
     have A14 : own_A Z h14 b14 .char 3 (fun q_ => .int ((fun _ => (0 : Int32)) q_)) := A14
     show own_Ends p e below s _ _ _ (own_F T14 m 72 #[rv a, iv ln] [(.ref b14), (.ref b13), (.ref b13)])
     refine own_g (own_F T14 m 73 #[rv a, iv ln] [(.ref b14), (.ref b14), (.ref b13), (.ref b13)]) (fun _ z_ => XS.dup X14.here hx rfl (hb hby own_d2_72) rfl rfl z_) ?_
     refine own_g (own_F T14 m 74 #[rv a, iv ln] [(.int 0), (.ref b14), (.ref b14), (.ref b13), (.ref b13)]) (fun _ z_ => XS.iconst X14.here hx rfl (hb hby own_d2_73) z_) ?_
     refine own_g (own_F T14 m 75 #[rv a, iv ln] [(.ref a), (.int 0), (.ref b14), (.ref b14), (.ref b13), (.ref b13)]) (fun _ z_ => XS.aloadN X14.here hx rfl (hb hby own_d2_74) rfl rfl z_) ?_
     refine own_g (own_F T14 m 76 #[rv a, iv ln] [(.int 0), (.ref a), (.int 0), (.ref b14), (.ref b14), (.ref b13), (.ref b13)]) (fun _ z_ => XS.iconst X14.here hx rfl (hb hby own_d2_75) z_) ?_
     refine own_cald X14 hx hZ e14 ((Aa.ext E13).ext E14) 0 rfl (by decide) (hb hby own_d2_76) ?_
     show own_Ends p e below s _ _ _ (own_F T14 m 77 #[rv a, iv ln] [(.int (f 0)), (.int 0), (.ref b14), (.ref b14), (.ref b13), (.ref b13)])
     refine own_cast X14 hx hZ e14 A14 0 rfl (by decide) (f 0) (own_narC (hf 0 (by decide))) (hb hby own_d2_77) ?_
     intro T15 h15 X15 e15 W15 A15
     have N15 := Fr.snoc X15 N0 ge_b14
     obtain ⟨g15, A15, q15_0, q15_1, q15_2⟩ : ∃ gq_ : Nat → Int32, own_A Z h15 b14 .char 3 (fun q_ => .int (gq_ q_)) ∧ gq_ 0 = (f 0) ∧ gq_ 1 = (0 : Int32) ∧ gq_ 2 = (0 : Int32) := ⟨_, A15, rfl, (show ite _ _ _ = _ from (if_neg (by decide)).trans rfl), (show ite _ _ _ = _ from (if_neg (by decide)).trans rfl)⟩
     show own_Ends p e below s _ _ _ (own_F T15 m 78 #[rv a, iv ln] [(.ref b14), (.ref b13), (.ref b13)])
     refine own_g (own_F T15 m 79 #[rv a, iv ln] [(.ref b14), (.ref b14), (.ref b13), (.ref b13)]) (fun _ z_ => XS.dup X15.here hx rfl (hb hby own_d2_78) rfl rfl z_) ?_
     refine own_g (own_F T15 m 80 #[rv a, iv ln] [(.int 1), (.ref b14), (.ref b14), (.ref b13), (.ref b13)]) (fun _ z_ => XS.iconst X15.here hx rfl (hb hby own_d2_79) z_) ?_
     refine own_g (own_F T15 m 81 #[rv a, iv ln] [(.ref a), (.int 1), (.ref b14), (.ref b14), (.ref b13), (.ref b13)]) (fun _ z_ => XS.aloadN X15.here hx rfl (hb hby own_d2_80) rfl rfl z_) ?_
     refine own_g (own_F T15 m 82 #[rv a, iv ln] [(.int 1), (.ref a), (.int 1), (.ref b14), (.ref b14), (.ref b13), (.ref b13)]) (fun _ z_ => XS.iconst X15.here hx rfl (hb hby own_d2_81) z_) ?_
     refine own_cald X15 hx hZ e15 (((Aa.ext E13).ext E14).other W15 ne_a_b14) 1 rfl (by decide) (hb hby own_d2_82) ?_
     show own_Ends p e below s _ _ _ (own_F T15 m 83 #[rv a, iv ln] [(.int (f 1)), (.int 1), (.ref b14), (.ref b14), (.ref b13), (.ref b13)])
     refine own_cast X15 hx hZ e15 A15 1 rfl (by decide) (f 1) (own_narC (hf 1 (by decide))) (hb hby own_d2_83) ?_
     intro T16 h16 X16 e16 W16 A16
     have N16 := Fr.snoc X16 N15 ge_b14
     obtain ⟨g16, A16, q16_0, q16_1, q16_2⟩ : ∃ gq_ : Nat → Int32, own_A Z h16 b14 .char 3 (fun q_ => .int (gq_ q_)) ∧ gq_ 0 = (f 0) ∧ gq_ 1 = (f 1) ∧ gq_ 2 = (0 : Int32) := ⟨_, A16, (show ite _ _ _ = _ from (if_neg (by decide)).trans q15_0), rfl, (show ite _ _ _ = _ from (if_neg (by decide)).trans q15_2)⟩
     show own_Ends p e below s _ _ _ (own_F T16 m 84 #[rv a, iv ln] [(.ref b14), (.ref b13), (.ref b13)])
     refine own_g (own_F T16 m 85 #[rv a, iv ln] [(.ref b14), (.ref b14), (.ref b13), (.ref b13)]) (fun _ z_ => XS.dup X16.here hx rfl (hb hby own_d2_84) rfl rfl z_) ?_
     refine own_g (own_F T16 m 86 #[rv a, iv ln] [(.int 2), (.ref b14), (.ref b14), (.ref b13), (.ref b13)]) (fun _ z_ => XS.iconst X16.here hx rfl (hb hby own_d2_85) z_) ?_
     refine own_g (own_F T16 m 87 #[rv a, iv ln] [(.ref a), (.int 2), (.ref b14), (.ref b14), (.ref b13), (.ref b13)]) (fun _ z_ => XS.aloadN X16.here hx rfl (hb hby own_d2_86) rfl rfl z_) ?_
     refine own_g (own_F T16 m 88 #[rv a, iv ln] [(.int 2), (.ref a), (.int 2), (.ref b14), (.ref b14), (.ref b13), (.ref b13)]) (fun _ z_ => XS.iconst X16.here hx rfl (hb hby own_d2_87) z_) ?_
     refine own_cald X16 hx hZ e16 ((((Aa.ext E13).ext E14).other W15 ne_a_b14).other W16 ne_a_b14) 2 rfl (by decide) (hb hby own_d2_88) ?_
     show own_Ends p e below s _ _ _ (own_F T16 m 89 #[rv a, iv ln] [(.int (f 2)), (.int 2), (.ref b14), (.ref b14), (.ref b13), (.ref b13)])
     refine own_cast X16 hx hZ e16 A16 2 rfl (by decide) (f 2) (own_narC (hf 2 (by decide))) (hb hby own_d2_89) ?_
     intro T17 h17 X17 e17 W17 A17
     have N17 := Fr.snoc X17 N16 ge_b14
     obtain ⟨g17, A17, q17_0, q17_1, q17_2⟩ : ∃ gq_ : Nat → Int32, own_A Z h17 b14 .char 3 (fun q_ => .int (gq_ q_)) ∧ gq_ 0 = (f 0) ∧ gq_ 1 = (f 1) ∧ gq_ 2 = (f 2) := ⟨_, A17, (show ite _ _ _ = _ from (if_neg (by decide)).trans q16_0), (show ite _ _ _ = _ from (if_neg (by decide)).trans q16_1), rfl⟩
     show own_Ends p e below s _ _ _ (own_F T17 m 90 #[rv a, iv ln] [(.ref b14), (.ref b13), (.ref b13)])
     have hgf : ∀ i, i < 3 → g17 i = f i := fun i hi => by rcases own_lt3 hi with rfl | rfl | rfl; exact q17_0; exact q17_1; exact q17_2
     refine own_callI (y := (⟨"java/lang/String", "<init>", "([C)V"⟩ : MethodName)) (b := b13) X17 hx hZ hown rfl (own_w hw 14) (own_w hw 15) (own_w hw 16) (own_w hw 13) (by decide) e17 (hM := own_si l Z a0 hw [] b13 b14 3 3 zc g17 h17 n0 (Nat.le_trans (Nat.le_trans (Nat.le_trans (Nat.le_trans (Nat.le_trans Z0 E13.1) E14.1) (Nat.le_of_eq W15.size.symm)) (Nat.le_of_eq W16.size.symm)) (Nat.le_of_eq W17.size.symm)) rfl (by decide) (by decide) hzc A17 (fun i hi => by rw [hgf i hi]; exact hf i (by omega)) ((((A13.ext E14).wr W15).wr W16).wr W17) ((((F13_value.ext E14).other W15 (Or.inl ne_b13_b14)).other W16 (Or.inl ne_b13_b14)).other W17 (Or.inl ne_b13_b14)) ((((F13_coder.ext E14).other W15 (Or.inl ne_b13_b14)).other W16 (Or.inl ne_b13_b14)).other W17 (Or.inl ne_b13_b14)) (((((S_cs.ext E13).ext E14).wr W15).wr W16).wr W17) (((((S_ad.ext E13).ext E14).wr W15).wr W16).wr W17) (((((S_hi.ext E13).ext E14).wr W15).wr W16).wr W17) (((((S_lo.ext E13).ext E14).wr W15).wr W16).wr W17) ge_b13 ne_b13_b14) (W := 1) (pc := 90) (Ls := #[rv a, iv ln]) (argsL := [(.ref b14)]) (rest := [(.ref b13)]) (st0 := [(.ref b14), (.ref b13), (.ref b13)]) (by rw [hml]; rfl) (lenOf own_pd8 rfl) rfl (Nat.le_of_eq rfl) (hb hby own_d2_90) (by decide) (by decide) (by decide) (by decide) ?_
     intro v18 T18 L18 s X18 hZ hown hI18 hvm18 hhp18 hWw18 hQ18
     have SH18 : s.heap = h0 := hhp18.trans SH0
     obtain ⟨rfl, Nq18, K18, La18⟩ := hQ18
     have N18 := Fr.app N17 Nq18
     show own_Ends p e below s _ _ _ (own_F T18 m 93 #[rv a, iv ln] [(.ref b13)])
     have LS18 := own_LS.step LS0 hI18 hWw18
     refine own_ret (t := (.object "java/lang/String")) X18 hx hlk hrt rfl (Or.inr (Or.inr (Or.inr (Or.inr ⟨rfl, rfl, rfl⟩)))) (hb hby own_d2_93) (by decide) (by decide) ?_
     have hln : 3 = ln.toInt.toNat := (by simp only [← Int32.toInt_inj, Int32.reduceToInt] at c1 c17 c39; omega)
     exact ⟨b13, rfl, N18, (((((((Keep.refl _ _).ext E13).ext E14).wr W15 (Or.inr sz_b14)).wr W16 (Or.inr sz_b14)).wr W17 (Or.inr sz_b14)).trans K18 (allS (Or.inr sz_b13) all0)), La18.congr hln hgf, own_LS.warm (LS18.keep (((((((Keep.refl _ _).ext E13).ext E14).wr W15 (Or.inr sz_b14)).wr W16 (Or.inr sz_b14)).wr W17 (Or.inr sz_b14)).trans K18 (allS (Or.inr sz_b13) all0))) X18.warmed⟩
set_option maxRecDepth 65536 in
set_option maxHeartbeats 40000000 in
theorem own_cod (l : Launch) (Z : State) (a0 : Array Value) (hw : ∀ d ∈ tables_1, d.before a0 Z = true) (ws : List Jvm.Cond) (x : Addr) (cd zc : Int32) (h0 : Heap) (n0 : Nat) (Z0 : n0 ≤ h0.size) (hcd : narrow .byte (.int cd) = .int cd) (hzc : ¬ zc = (0 : Int32)) (F_c : Fld Z h0 x "java/lang/String" "coder" "B" (.int cd)) (S_cs : Sta Z h0 "java/lang/String" "COMPACT_STRINGS" "Z" (.int zc)) :
    own_Met l Z (⟨"java/lang/String", "coder", "()B"⟩ : MethodName) jdk_42_method_152_code 1 (some .byte) ws ({ frames := 0, cells := 0, slots := 0, locals := 0 } : Room) #[(.ref x)] h0 (fun v h L => v = some (.int cd) ∧ Fr n0 L ∧ h = h0) := by
  refine own_body own_pn12 (fun m => mkF m 0 #[rv x] []) (fun m => own_ef_own_cod m x) ?_
  intro p e s m below meth c T0 hx hby hml hlk hrt hZ hown hnm X0 e0
  have hown : s.vm.findClass "java/lang/String" = some m.cls := hown
  have N0 := Fr.nil n0
  obtain ⟨T1, X1, e1, st1⟩ := getS2 X0 hx hZ hown (host := "") (Or.inl (own_w hw 46)) Via.refl e0 S_cs (g := (mkF m 0 #[rv x] [])) rfl (hb hby own_d8_0)
  refine own_pre (S' := (own_F T1 m 3 #[rv x] [(.int zc)])) st1 ?_
  refine own_g (own_F T1 m 6 #[rv x] []) (fun _ z_ => XS.ifNo X1.here hx rfl (hb hby own_d8_3) rfl ((if0 _ _).trans (feq hzc).1) z_) ?_
  refine own_g (own_F T1 m 7 #[rv x] [(.ref x)]) (fun _ z_ => XS.aloadN X1.here hx rfl (hb hby own_d8_6) rfl rfl z_) ?_
  obtain ⟨T2, X2, e2, st2⟩ := getF X1 hx hZ hown (host := "") (Or.inl (own_w hw 31)) Via.refl e1 F_c (g := (mkF m 7 #[rv x] [(.ref x)])) rfl rfl (hb hby own_d8_7)
  refine own_pre (S' := (own_F T2 m 10 #[rv x] [(.int cd)])) st2 ?_
  refine own_g (own_F T2 m 14 #[rv x] [(.int cd)]) (fun _ z_ => XS.goto X2.here hx rfl (pc0 := 10) (pc' := 14) rfl (hb hby own_d8_10) (by decide) (by decide) z_) ?_
  refine own_ret (t := .byte) X2 hx hlk hrt hcd (Or.inl ⟨rfl, by simp, _, rfl⟩) (hb hby own_d8_14) (by decide) (by decide) ?_
  exact ⟨rfl, N0, e2⟩
set_option maxRecDepth 65536 in
set_option maxHeartbeats 40000000 in
theorem own_slen (l : Launch) (Z : State) (a0 : Array Value) (hw : ∀ d ∈ tables_1, d.before a0 Z = true) (ws : List Jvm.Cond) (x : Addr) (n : Nat) (nn zc : Int32) (f : Nat → Int32) (h0 : Heap) (n0 : Nat) (Z0 : n0 ≤ h0.size) (hn : nn.toInt = (n : Int)) (hzc : ¬ zc = (0 : Int32)) (hS : own_Str Z h0 x n f) (S_cs : Sta Z h0 "java/lang/String" "COMPACT_STRINGS" "Z" (.int zc)) :
    own_Met l Z (⟨"java/lang/String", "length", "()I"⟩ : MethodName) jdk_42_method_54_code 1 (some .int) ws ({ frames := 1, cells := 0, slots := 0, locals := 13 } : Room) #[(.ref x)] h0 (fun v h L => v = some (.int nn) ∧ Fr n0 L ∧ h = h0) := by
  refine own_body own_pn13 (fun m => mkF m 0 #[rv x] []) (fun m => own_ef_own_slen m x) ?_
  intro p e s m below meth c T0 hx hby hml hlk hrt hZ hown hnm X0 e0
  have hown : s.vm.findClass "java/lang/String" = some m.cls := hown
  have N0 := Fr.nil n0
  obtain ⟨t, E_x, F_v, hf, CC⟩ := hS
  rcases CC with ⟨F_c, At, hl⟩ | ⟨F_c, At⟩
  ·
   refine own_g (own_F T0 m 1 #[rv x] [(.ref x)]) (fun _ z_ => XS.aloadN X0.here hx rfl (hb hby own_d7_0) rfl rfl z_) ?_
   obtain ⟨T1, X1, e1, st1⟩ := getF X0 hx hZ hown (host := "") (Or.inl (own_w hw 30)) Via.refl e0 F_v (g := (mkF m 1 #[rv x] [(.ref x)])) rfl rfl (hb hby own_d7_1)
   refine own_pre (S' := (own_F T1 m 4 #[rv x] [(.ref t)])) st1 ?_
   refine own_alen X1 hx hZ e1 At (hb hby own_d7_4) ?_
   show own_Ends p e below s _ _ _ (own_F T1 m 5 #[rv x] [(.int (Nat.toInt32 n))])
   refine own_g (own_F T1 m 6 #[rv x] [(.ref x), (.int (Nat.toInt32 n))]) (fun _ z_ => XS.aloadN X1.here hx rfl (hb hby own_d7_5) rfl rfl z_) ?_
   refine own_callV (C := "java/lang/String") (y := (⟨"java/lang/String", "coder", "()B"⟩ : MethodName)) (b := x) X1 hx hZ hown (own_w hw 41) (own_w hw 42) (own_w hw 44) (own_w hw 43) (own_w hw 45) (own_w hw 13) (by decide) e1 E_x (hM := own_cod l Z a0 hw [] x (0 : Int32) zc h0 n0 Z0 rfl hzc F_c S_cs) (W := 1) (pc := 6) (Ls := #[rv x]) (argsL := []) (rest := [(.int (Nat.toInt32 n))]) (st0 := [(.ref x), (.int (Nat.toInt32 n))]) (by rw [hml]; rfl) (lenOf own_pd9 rfl) rfl (Nat.le_of_eq rfl) (hb hby own_d7_6) (by decide) (by decide) (by decide) (by decide) ?_
   intro v2 T2 L2 s X2 hZ hown hI2 hvm2 hhp2 hWw2 hQ2
   obtain ⟨rfl, Nq2, hh2⟩ := hQ2
   have N2 := Fr.app N0 Nq2
   show own_Ends p e below s _ _ _ (own_F T2 m 9 #[rv x] [(.int 0), (.int (Nat.toInt32 n))])
   refine own_g (own_F T2 m 10 #[rv x] [(.int ((Nat.toInt32 n) >>> ((0 : Int32) &&& 31)))]) (fun _ z_ => XS.ishr X2.here hx rfl (hb hby own_d7_9) rfl z_) ?_
   refine own_ret (t := .int) X2 hx hlk hrt rfl (Or.inl ⟨rfl, by simp, _, rfl⟩) (hb hby own_d7_10) (by decide) (by decide) ?_
   exact ⟨congrArg (fun z => some (Value.int z)) (own_sh0 hn), N2, hh2⟩
  ·
   refine own_g (own_F T0 m 1 #[rv x] [(.ref x)]) (fun _ z_ => XS.aloadN X0.here hx rfl (hb hby own_d7_0) rfl rfl z_) ?_
   obtain ⟨T3, X3, e3, st3⟩ := getF X0 hx hZ hown (host := "") (Or.inl (own_w hw 30)) Via.refl e0 F_v (g := (mkF m 1 #[rv x] [(.ref x)])) rfl rfl (hb hby own_d7_1)
   refine own_pre (S' := (own_F T3 m 4 #[rv x] [(.ref t)])) st3 ?_
   refine own_alen X3 hx hZ e3 At (hb hby own_d7_4) ?_
   show own_Ends p e below s _ _ _ (own_F T3 m 5 #[rv x] [(.int (Nat.toInt32 (2 * n)))])
   refine own_g (own_F T3 m 6 #[rv x] [(.ref x), (.int (Nat.toInt32 (2 * n)))]) (fun _ z_ => XS.aloadN X3.here hx rfl (hb hby own_d7_5) rfl rfl z_) ?_
   refine own_callV (C := "java/lang/String") (y := (⟨"java/lang/String", "coder", "()B"⟩ : MethodName)) (b := x) X3 hx hZ hown (own_w hw 41) (own_w hw 42) (own_w hw 44) (own_w hw 43) (own_w hw 45) (own_w hw 13) (by decide) e3 E_x (hM := own_cod l Z a0 hw [] x (1 : Int32) zc h0 n0 Z0 rfl hzc F_c S_cs) (W := 1) (pc := 6) (Ls := #[rv x]) (argsL := []) (rest := [(.int (Nat.toInt32 (2 * n)))]) (st0 := [(.ref x), (.int (Nat.toInt32 (2 * n)))]) (by rw [hml]; rfl) (lenOf own_pd9 rfl) rfl (Nat.le_of_eq rfl) (hb hby own_d7_6) (by decide) (by decide) (by decide) (by decide) ?_
   intro v4 T4 L4 s X4 hZ hown hI4 hvm4 hhp4 hWw4 hQ4
   obtain ⟨rfl, Nq4, hh4⟩ := hQ4
   have N4 := Fr.app N0 Nq4
   show own_Ends p e below s _ _ _ (own_F T4 m 9 #[rv x] [(.int 1), (.int (Nat.toInt32 (2 * n)))])
   refine own_g (own_F T4 m 10 #[rv x] [(.int ((Nat.toInt32 (2 * n)) >>> ((1 : Int32) &&& 31)))]) (fun _ z_ => XS.ishr X4.here hx rfl (hb hby own_d7_9) rfl z_) ?_
   refine own_ret (t := .int) X4 hx hlk hrt rfl (Or.inl ⟨rfl, by simp, _, rfl⟩) (hb hby own_d7_10) (by decide) (by decide) ?_
   exact ⟨congrArg (fun z => some (Value.int z)) (own_half hn At.1), N4, hh4⟩
set_option maxRecDepth 65536 in
set_option maxHeartbeats 40000000 in
theorem own_icmp (l : Launch) (Z : State) (a0 : Array Value) (hw : ∀ d ∈ tables_1, d.before a0 Z = true) (ws : List Jvm.Cond) (x y : Int32) (h0 : Heap) (n0 : Nat) (Z0 : n0 ≤ h0.size)  :
    own_Met l Z (⟨"java/lang/Integer", "compare", "(II)I"⟩ : MethodName) jdk_33_method_40_code 2 (some .int) ws ({ frames := 0, cells := 0, slots := 0, locals := 0 } : Room) #[(.int x), (.int y)] h0 (fun v h L => v = some (.int (own_cm x y)) ∧ Fr n0 L ∧ h = h0) := by
  refine own_body own_pn14 (fun m => mkF m 0 #[iv x, iv y] []) (fun m => own_ef_own_icmp m x y) ?_
  intro p e s m below meth c T0 hx hby hml hlk hrt hZ hown hnm X0 e0
  have hown : s.vm.findClass "java/lang/Integer" = some m.cls := hown
  have N0 := Fr.nil n0
  refine own_g (own_F T0 m 1 #[iv x, iv y] [(.int x)]) (fun _ z_ => XS.iloadN X0.here hx rfl (hb hby own_d9_0) rfl z_) ?_
  refine own_g (own_F T0 m 2 #[iv x, iv y] [(.int y), (.int x)]) (fun _ z_ => XS.iloadN X0.here hx rfl (hb hby own_d9_1) rfl z_) ?_
  by_cases c2 : x < y
  · -- pc 2: x < y
   refine own_g (own_F T0 m 5 #[iv x, iv y] []) (fun _ z_ => XS.icmpNo X0.here hx rfl (hb hby own_d9_2) rfl (tlt c2).2.1 z_) ?_
   refine own_g (own_F T0 m 6 #[iv x, iv y] [(.int (-1))]) (fun _ z_ => XS.iconst X0.here hx rfl (hb hby own_d9_5) z_) ?_
   refine own_g (own_F T0 m 19 #[iv x, iv y] [(.int (-1))]) (fun _ z_ => XS.goto X0.here hx rfl (pc0 := 6) (pc' := 19) rfl (hb hby own_d9_6) (by decide) (by decide) z_) ?_
   refine own_ret (t := .int) X0 hx hlk hrt rfl (Or.inl ⟨rfl, by simp, _, rfl⟩) (hb hby own_d9_19) (by decide) (by decide) ?_
   refine ⟨congrArg (fun z => some (Value.int z)) ?_, N0, e0⟩
   simp only [own_cm, c2, if_true, if_false]
  · -- pc 2: not x < y
   refine own_g (own_F T0 m 9 #[iv x, iv y] []) (fun _ z_ => XS.icmpYes X0.here hx rfl (pc0 := 2) (pc' := 9) rfl (hb hby own_d9_2) rfl (flt c2).2.1 (by decide) (by decide) z_) ?_
   refine own_g (own_F T0 m 10 #[iv x, iv y] [(.int x)]) (fun _ z_ => XS.iloadN X0.here hx rfl (hb hby own_d9_9) rfl z_) ?_
   refine own_g (own_F T0 m 11 #[iv x, iv y] [(.int y), (.int x)]) (fun _ z_ => XS.iloadN X0.here hx rfl (hb hby own_d9_10) rfl z_) ?_
   by_cases c11 : x = y
   · -- pc 11: x = y
    refine own_g (own_F T0 m 14 #[iv x, iv y] []) (fun _ z_ => XS.icmpNo X0.here hx rfl (hb hby own_d9_11) rfl (teq c11).2 z_) ?_
    refine own_g (own_F T0 m 15 #[iv x, iv y] [(.int 0)]) (fun _ z_ => XS.iconst X0.here hx rfl (hb hby own_d9_14) z_) ?_
    refine own_g (own_F T0 m 19 #[iv x, iv y] [(.int 0)]) (fun _ z_ => XS.goto X0.here hx rfl (pc0 := 15) (pc' := 19) rfl (hb hby own_d9_15) (by decide) (by decide) z_) ?_
    refine own_ret (t := .int) X0 hx hlk hrt rfl (Or.inl ⟨rfl, by simp, _, rfl⟩) (hb hby own_d9_19) (by decide) (by decide) ?_
    refine ⟨congrArg (fun z => some (Value.int z)) ?_, N0, e0⟩
    exact (own_cmE c11).symm
   · -- pc 11: not x = y
    refine own_g (own_F T0 m 18 #[iv x, iv y] []) (fun _ z_ => XS.icmpYes X0.here hx rfl (pc0 := 11) (pc' := 18) rfl (hb hby own_d9_11) rfl (feq c11).2 (by decide) (by decide) z_) ?_
    refine own_g (own_F T0 m 19 #[iv x, iv y] [(.int 1)]) (fun _ z_ => XS.iconst X0.here hx rfl (hb hby own_d9_18) z_) ?_
    refine own_ret (t := .int) X0 hx hlk hrt rfl (Or.inl ⟨rfl, by simp, _, rfl⟩) (hb hby own_d9_19) (by decide) (by decide) ?_
    refine ⟨congrArg (fun z => some (Value.int z)) ?_, N0, e0⟩
    exact (own_cmG c2 c11).symm
set_option maxRecDepth 65536 in
set_option maxHeartbeats 40000000 in
theorem own_cmpC (l : Launch) (Z : State) (a0 : Array Value) (hw : ∀ d ∈ tables_1, d.before a0 Z = true) (ws : List Jvm.Cond) (x y : Int32) (h0 : Heap) (n0 : Nat) (Z0 : n0 ≤ h0.size)  :
    own_Met l Z (⟨"com/example/kunci/kunci/CodePointsComparePinLaw", "cmp", "(II)I"⟩ : MethodName) method_8_code 2 (some .int) ws ({ frames := 0, cells := 0, slots := 0, locals := 0 } : Room) #[(.int x), (.int y)] h0 (fun v h L => v = some (.int (own_cm x y)) ∧ Fr n0 L ∧ h = h0) := by
  refine own_body own_pn15 (fun m => mkF m 0 #[iv x, iv y] []) (fun m => own_ef_own_cmpC m x y) ?_
  intro p e s m below meth c T0 hx hby hml hlk hrt hZ hown hnm X0 e0
  have hown : s.vm.findClass "com/example/kunci/kunci/CodePointsComparePinLaw" = some m.cls := hown
  have N0 := Fr.nil n0
  refine own_g (own_F T0 m 1 #[iv x, iv y] [(.int x)]) (fun _ z_ => XS.iloadN X0.here hx rfl (hb hby own_d12_0) rfl z_) ?_
  refine own_g (own_F T0 m 2 #[iv x, iv y] [(.int y), (.int x)]) (fun _ z_ => XS.iloadN X0.here hx rfl (hb hby own_d12_1) rfl z_) ?_
  by_cases c2 : x < y
  · -- pc 2: x < y
   refine own_g (own_F T0 m 5 #[iv x, iv y] []) (fun _ z_ => XS.icmpNo X0.here hx rfl (hb hby own_d12_2) rfl (tlt c2).2.1 z_) ?_
   refine own_g (own_F T0 m 6 #[iv x, iv y] [(.int (-1))]) (fun _ z_ => XS.iconst X0.here hx rfl (hb hby own_d12_5) z_) ?_
   refine own_g (own_F T0 m 19 #[iv x, iv y] [(.int (-1))]) (fun _ z_ => XS.goto X0.here hx rfl (pc0 := 6) (pc' := 19) rfl (hb hby own_d12_6) (by decide) (by decide) z_) ?_
   refine own_ret (t := .int) X0 hx hlk hrt rfl (Or.inl ⟨rfl, by simp, _, rfl⟩) (hb hby own_d12_19) (by decide) (by decide) ?_
   refine ⟨congrArg (fun z => some (Value.int z)) ?_, N0, e0⟩
   simp only [own_cm, c2, if_true, if_false]
  · -- pc 2: not x < y
   refine own_g (own_F T0 m 9 #[iv x, iv y] []) (fun _ z_ => XS.icmpYes X0.here hx rfl (pc0 := 2) (pc' := 9) rfl (hb hby own_d12_2) rfl (flt c2).2.1 (by decide) (by decide) z_) ?_
   refine own_g (own_F T0 m 10 #[iv x, iv y] [(.int x)]) (fun _ z_ => XS.iloadN X0.here hx rfl (hb hby own_d12_9) rfl z_) ?_
   refine own_g (own_F T0 m 11 #[iv x, iv y] [(.int y), (.int x)]) (fun _ z_ => XS.iloadN X0.here hx rfl (hb hby own_d12_10) rfl z_) ?_
   by_cases c11 : y < x
   · -- pc 11: y < x
    refine own_g (own_F T0 m 14 #[iv x, iv y] []) (fun _ z_ => XS.icmpNo X0.here hx rfl (hb hby own_d12_11) rfl (tlt c11).2.2.2 z_) ?_
    refine own_g (own_F T0 m 15 #[iv x, iv y] [(.int 1)]) (fun _ z_ => XS.iconst X0.here hx rfl (hb hby own_d12_14) z_) ?_
    refine own_g (own_F T0 m 19 #[iv x, iv y] [(.int 1)]) (fun _ z_ => XS.goto X0.here hx rfl (pc0 := 15) (pc' := 19) rfl (hb hby own_d12_15) (by decide) (by decide) z_) ?_
    refine own_ret (t := .int) X0 hx hlk hrt rfl (Or.inl ⟨rfl, by simp, _, rfl⟩) (hb hby own_d12_19) (by decide) (by decide) ?_
    refine ⟨congrArg (fun z => some (Value.int z)) ?_, N0, e0⟩
    simp only [own_cm, c2, c11, if_true, if_false]
   · -- pc 11: not y < x
    refine own_g (own_F T0 m 18 #[iv x, iv y] []) (fun _ z_ => XS.icmpYes X0.here hx rfl (pc0 := 11) (pc' := 18) rfl (hb hby own_d12_11) rfl (flt c11).2.2.2 (by decide) (by decide) z_) ?_
    refine own_g (own_F T0 m 19 #[iv x, iv y] [(.int 0)]) (fun _ z_ => XS.iconst X0.here hx rfl (hb hby own_d12_18) z_) ?_
    refine own_ret (t := .int) X0 hx hlk hrt rfl (Or.inl ⟨rfl, by simp, _, rfl⟩) (hb hby own_d12_19) (by decide) (by decide) ?_
    refine ⟨congrArg (fun z => some (Value.int z)) ?_, N0, e0⟩
    simp only [own_cm, c2, c11, if_true, if_false]
set_option maxRecDepth 65536 in
set_option maxHeartbeats 40000000 in
theorem own_cc (l : Launch) (Z : State) (a0 : Array Value) (hw : ∀ d ∈ tables_1, d.before a0 Z = true) (ws : List Jvm.Cond) (x r : Int32) (h0 : Heap) (n0 : Nat) (Z0 : n0 ≤ h0.size) (hr : r = if x < (65536 : Int32) then 1 else 2) :
    own_Met l Z (⟨"java/lang/Character", "charCount", "(I)I"⟩ : MethodName) jdk_89_method_18_code 1 (some .int) ws ({ frames := 0, cells := 0, slots := 0, locals := 0 } : Room) #[(.int x)] h0 (fun v h L => v = some (.int r) ∧ Fr n0 L ∧ h = h0) := by
  refine own_body own_pn16 (fun m => mkF m 0 #[iv x] []) (fun m => own_ef_own_cc m x) ?_
  intro p e s m below meth c T0 hx hby hml hlk hrt hZ hown hnm X0 e0
  have hown : s.vm.findClass "java/lang/Character" = some m.cls := hown
  have N0 := Fr.nil n0
  refine own_g (own_F T0 m 1 #[iv x] [(.int x)]) (fun _ z_ => XS.iloadN X0.here hx rfl (hb hby own_d31_0) rfl z_) ?_
  refine own_pre (S' := (own_F T0 m 3 #[iv x] [(.int 65536), (.int x)])) (X0.ldcInt hx hown (mvT hZ (own_w hw 134)) (g := (mkF m 1 #[iv x] [(.int x)])) rfl (hb hby own_d31_1)) ?_
  by_cases c3 : x < (65536 : Int32)
  · -- pc 3: x < (65536 : Int32)
   refine own_g (own_F T0 m 10 #[iv x] []) (fun _ z_ => XS.icmpYes X0.here hx rfl (pc0 := 3) (pc' := 10) rfl (hb hby own_d31_3) rfl (tlt c3).1 (by decide) (by decide) z_) ?_
   refine own_g (own_F T0 m 11 #[iv x] [(.int 1)]) (fun _ z_ => XS.iconst X0.here hx rfl (hb hby own_d31_10) z_) ?_
   refine own_ret (t := .int) X0 hx hlk hrt rfl (Or.inl ⟨rfl, by simp, _, rfl⟩) (hb hby own_d31_11) (by decide) (by decide) ?_
   exact ⟨congrArg (fun z => some (Value.int z)) (by rw [hr]; simp only [c3, if_true, if_false]), N0, e0⟩
  · -- pc 3: not x < (65536 : Int32)
   refine own_g (own_F T0 m 6 #[iv x] []) (fun _ z_ => XS.icmpNo X0.here hx rfl (hb hby own_d31_3) rfl (flt c3).1 z_) ?_
   refine own_g (own_F T0 m 7 #[iv x] [(.int 2)]) (fun _ z_ => XS.iconst X0.here hx rfl (hb hby own_d31_6) z_) ?_
   refine own_g (own_F T0 m 11 #[iv x] [(.int 2)]) (fun _ z_ => XS.goto X0.here hx rfl (pc0 := 7) (pc' := 11) rfl (hb hby own_d31_7) (by decide) (by decide) z_) ?_
   refine own_ret (t := .int) X0 hx hlk hrt rfl (Or.inl ⟨rfl, by simp, _, rfl⟩) (hb hby own_d31_11) (by decide) (by decide) ?_
   exact ⟨congrArg (fun z => some (Value.int z)) (by rw [hr]; simp only [c3, if_true, if_false]), N0, e0⟩
set_option maxRecDepth 65536 in
set_option maxHeartbeats 40000000 in
theorem own_isHighSurrogate (l : Launch) (Z : State) (a0 : Array Value) (hw : ∀ d ∈ tables_1, d.before a0 Z = true) (ws : List Jvm.Cond) (x r : Int32) (h0 : Heap) (n0 : Nat) (Z0 : n0 ≤ h0.size) (hr : (r = 1 ∧ (55296 ≤ x.toInt ∧ x.toInt < 56320)) ∨ (r = 0 ∧ ¬ (55296 ≤ x.toInt ∧ x.toInt < 56320))) :
    own_Met l Z (⟨"java/lang/Character", "isHighSurrogate", "(C)Z"⟩ : MethodName) jdk_89_method_14_code 1 (some .boolean) ws ({ frames := 0, cells := 0, slots := 0, locals := 0 } : Room) #[(.int x)] h0 (fun v h L => v = some (.int r) ∧ Fr n0 L ∧ h = h0) := by
  refine own_body own_pn17 (fun m => mkF m 0 #[iv x] []) (fun m => own_ef_own_isHighSurrogate m x) ?_
  intro p e s m below meth c T0 hx hby hml hlk hrt hZ hown hnm X0 e0
  have hown : s.vm.findClass "java/lang/Character" = some m.cls := hown
  have N0 := Fr.nil n0
  refine own_g (own_F T0 m 1 #[iv x] [(.int x)]) (fun _ z_ => XS.iloadN X0.here hx rfl (hb hby own_d27_0) rfl z_) ?_
  refine own_pre (S' := (own_F T0 m 3 #[iv x] [(.int 55296), (.int x)])) (X0.ldcInt hx hown (mvT hZ (own_w hw 118)) (g := (mkF m 1 #[iv x] [(.int x)])) rfl (hb hby own_d27_1)) ?_
  by_cases c3 : x < (55296 : Int32)
  · -- pc 3: x < (55296 : Int32)
   refine own_g (own_F T0 m 16 #[iv x] []) (fun _ z_ => XS.icmpYes X0.here hx rfl (pc0 := 3) (pc' := 16) rfl (hb hby own_d27_3) rfl (tlt c3).1 (by decide) (by decide) z_) ?_
   refine own_g (own_F T0 m 17 #[iv x] [(.int 0)]) (fun _ z_ => XS.iconst X0.here hx rfl (hb hby own_d27_16) z_) ?_
   refine own_ret (t := .boolean) X0 hx hlk hrt rfl (Or.inl ⟨rfl, by simp, _, rfl⟩) (hb hby own_d27_17) (by decide) (by decide) ?_
   refine ⟨congrArg (fun z => some (Value.int z)) ?_, N0, e0⟩
   simp only [Int32.lt_iff_toInt_lt, ← Int32.toInt_inj, Int32.reduceToInt] at c3
   rcases hr with ⟨rfl, q⟩ | ⟨rfl, q⟩ <;> first | rfl | (exfalso; omega)
  · -- pc 3: not x < (55296 : Int32)
   refine own_g (own_F T0 m 6 #[iv x] []) (fun _ z_ => XS.icmpNo X0.here hx rfl (hb hby own_d27_3) rfl (flt c3).1 z_) ?_
   refine own_g (own_F T0 m 7 #[iv x] [(.int x)]) (fun _ z_ => XS.iloadN X0.here hx rfl (hb hby own_d27_6) rfl z_) ?_
   refine own_pre (S' := (own_F T0 m 9 #[iv x] [(.int 56320), (.int x)])) (X0.ldcInt hx hown (mvT hZ (own_w hw 119)) (g := (mkF m 7 #[iv x] [(.int x)])) rfl (hb hby own_d27_7)) ?_
   by_cases c9 : x < (56320 : Int32)
   · -- pc 9: x < (56320 : Int32)
    refine own_g (own_F T0 m 12 #[iv x] []) (fun _ z_ => XS.icmpNo X0.here hx rfl (hb hby own_d27_9) rfl (tlt c9).2.1 z_) ?_
    refine own_g (own_F T0 m 13 #[iv x] [(.int 1)]) (fun _ z_ => XS.iconst X0.here hx rfl (hb hby own_d27_12) z_) ?_
    refine own_g (own_F T0 m 17 #[iv x] [(.int 1)]) (fun _ z_ => XS.goto X0.here hx rfl (pc0 := 13) (pc' := 17) rfl (hb hby own_d27_13) (by decide) (by decide) z_) ?_
    refine own_ret (t := .boolean) X0 hx hlk hrt rfl (Or.inl ⟨rfl, by simp, _, rfl⟩) (hb hby own_d27_17) (by decide) (by decide) ?_
    refine ⟨congrArg (fun z => some (Value.int z)) ?_, N0, e0⟩
    simp only [Int32.lt_iff_toInt_lt, ← Int32.toInt_inj, Int32.reduceToInt] at c3 c9
    rcases hr with ⟨rfl, q⟩ | ⟨rfl, q⟩ <;> first | rfl | (exfalso; omega)
   · -- pc 9: not x < (56320 : Int32)
    refine own_g (own_F T0 m 16 #[iv x] []) (fun _ z_ => XS.icmpYes X0.here hx rfl (pc0 := 9) (pc' := 16) rfl (hb hby own_d27_9) rfl (flt c9).2.1 (by decide) (by decide) z_) ?_
    refine own_g (own_F T0 m 17 #[iv x] [(.int 0)]) (fun _ z_ => XS.iconst X0.here hx rfl (hb hby own_d27_16) z_) ?_
    refine own_ret (t := .boolean) X0 hx hlk hrt rfl (Or.inl ⟨rfl, by simp, _, rfl⟩) (hb hby own_d27_17) (by decide) (by decide) ?_
    refine ⟨congrArg (fun z => some (Value.int z)) ?_, N0, e0⟩
    simp only [Int32.lt_iff_toInt_lt, ← Int32.toInt_inj, Int32.reduceToInt] at c3 c9
    rcases hr with ⟨rfl, q⟩ | ⟨rfl, q⟩ <;> first | rfl | (exfalso; omega)
set_option maxRecDepth 65536 in
set_option maxHeartbeats 40000000 in
theorem own_isLowSurrogate (l : Launch) (Z : State) (a0 : Array Value) (hw : ∀ d ∈ tables_1, d.before a0 Z = true) (ws : List Jvm.Cond) (x r : Int32) (h0 : Heap) (n0 : Nat) (Z0 : n0 ≤ h0.size) (hr : (r = 1 ∧ (56320 ≤ x.toInt ∧ x.toInt < 57344)) ∨ (r = 0 ∧ ¬ (56320 ≤ x.toInt ∧ x.toInt < 57344))) :
    own_Met l Z (⟨"java/lang/Character", "isLowSurrogate", "(C)Z"⟩ : MethodName) jdk_89_method_15_code 1 (some .boolean) ws ({ frames := 0, cells := 0, slots := 0, locals := 0 } : Room) #[(.int x)] h0 (fun v h L => v = some (.int r) ∧ Fr n0 L ∧ h = h0) := by
  refine own_body own_pn18 (fun m => mkF m 0 #[iv x] []) (fun m => own_ef_own_isLowSurrogate m x) ?_
  intro p e s m below meth c T0 hx hby hml hlk hrt hZ hown hnm X0 e0
  have hown : s.vm.findClass "java/lang/Character" = some m.cls := hown
  have N0 := Fr.nil n0
  refine own_g (own_F T0 m 1 #[iv x] [(.int x)]) (fun _ z_ => XS.iloadN X0.here hx rfl (hb hby own_d32_0) rfl z_) ?_
  refine own_pre (S' := (own_F T0 m 3 #[iv x] [(.int 56320), (.int x)])) (X0.ldcInt hx hown (mvT hZ (own_w hw 119)) (g := (mkF m 1 #[iv x] [(.int x)])) rfl (hb hby own_d32_1)) ?_
  by_cases c3 : x < (56320 : Int32)
  · -- pc 3: x < (56320 : Int32)
   refine own_g (own_F T0 m 16 #[iv x] []) (fun _ z_ => XS.icmpYes X0.here hx rfl (pc0 := 3) (pc' := 16) rfl (hb hby own_d32_3) rfl (tlt c3).1 (by decide) (by decide) z_) ?_
   refine own_g (own_F T0 m 17 #[iv x] [(.int 0)]) (fun _ z_ => XS.iconst X0.here hx rfl (hb hby own_d32_16) z_) ?_
   refine own_ret (t := .boolean) X0 hx hlk hrt rfl (Or.inl ⟨rfl, by simp, _, rfl⟩) (hb hby own_d32_17) (by decide) (by decide) ?_
   refine ⟨congrArg (fun z => some (Value.int z)) ?_, N0, e0⟩
   simp only [Int32.lt_iff_toInt_lt, ← Int32.toInt_inj, Int32.reduceToInt] at c3
   rcases hr with ⟨rfl, q⟩ | ⟨rfl, q⟩ <;> first | rfl | (exfalso; omega)
  · -- pc 3: not x < (56320 : Int32)
   refine own_g (own_F T0 m 6 #[iv x] []) (fun _ z_ => XS.icmpNo X0.here hx rfl (hb hby own_d32_3) rfl (flt c3).1 z_) ?_
   refine own_g (own_F T0 m 7 #[iv x] [(.int x)]) (fun _ z_ => XS.iloadN X0.here hx rfl (hb hby own_d32_6) rfl z_) ?_
   refine own_pre (S' := (own_F T0 m 9 #[iv x] [(.int 57344), (.int x)])) (X0.ldcInt hx hown (mvT hZ (own_w hw 139)) (g := (mkF m 7 #[iv x] [(.int x)])) rfl (hb hby own_d32_7)) ?_
   by_cases c9 : x < (57344 : Int32)
   · -- pc 9: x < (57344 : Int32)
    refine own_g (own_F T0 m 12 #[iv x] []) (fun _ z_ => XS.icmpNo X0.here hx rfl (hb hby own_d32_9) rfl (tlt c9).2.1 z_) ?_
    refine own_g (own_F T0 m 13 #[iv x] [(.int 1)]) (fun _ z_ => XS.iconst X0.here hx rfl (hb hby own_d32_12) z_) ?_
    refine own_g (own_F T0 m 17 #[iv x] [(.int 1)]) (fun _ z_ => XS.goto X0.here hx rfl (pc0 := 13) (pc' := 17) rfl (hb hby own_d32_13) (by decide) (by decide) z_) ?_
    refine own_ret (t := .boolean) X0 hx hlk hrt rfl (Or.inl ⟨rfl, by simp, _, rfl⟩) (hb hby own_d32_17) (by decide) (by decide) ?_
    refine ⟨congrArg (fun z => some (Value.int z)) ?_, N0, e0⟩
    simp only [Int32.lt_iff_toInt_lt, ← Int32.toInt_inj, Int32.reduceToInt] at c3 c9
    rcases hr with ⟨rfl, q⟩ | ⟨rfl, q⟩ <;> first | rfl | (exfalso; omega)
   · -- pc 9: not x < (57344 : Int32)
    refine own_g (own_F T0 m 16 #[iv x] []) (fun _ z_ => XS.icmpYes X0.here hx rfl (pc0 := 9) (pc' := 16) rfl (hb hby own_d32_9) rfl (flt c9).2.1 (by decide) (by decide) z_) ?_
    refine own_g (own_F T0 m 17 #[iv x] [(.int 0)]) (fun _ z_ => XS.iconst X0.here hx rfl (hb hby own_d32_16) z_) ?_
    refine own_ret (t := .boolean) X0 hx hlk hrt rfl (Or.inl ⟨rfl, by simp, _, rfl⟩) (hb hby own_d32_17) (by decide) (by decide) ?_
    refine ⟨congrArg (fun z => some (Value.int z)) ?_, N0, e0⟩
    simp only [Int32.lt_iff_toInt_lt, ← Int32.toInt_inj, Int32.reduceToInt] at c3 c9
    rcases hr with ⟨rfl, q⟩ | ⟨rfl, q⟩ <;> first | rfl | (exfalso; omega)
set_option maxRecDepth 65536 in
set_option maxHeartbeats 40000000 in
theorem own_tcpC (l : Launch) (Z : State) (a0 : Array Value) (hw : ∀ d ∈ tables_1, d.before a0 Z = true) (ws : List Jvm.Cond) (x y : Int32) (h0 : Heap) (n0 : Nat) (Z0 : n0 ≤ h0.size)  :
    own_Met l Z (⟨"java/lang/Character", "toCodePoint", "(CC)I"⟩ : MethodName) jdk_89_method_19_code 2 (some .int) ws ({ frames := 0, cells := 0, slots := 0, locals := 0 } : Room) #[(.int x), (.int y)] h0 (fun v h L => v = some (.int (((x <<< ((10 : Int32) &&& 31)) + y) + (-56613888 : Int32))) ∧ Fr n0 L ∧ h = h0) := by
  refine own_body own_pn19 (fun m => mkF m 0 #[iv x, iv y] []) (fun m => own_ef_own_tcpC m x y) ?_
  intro p e s m below meth c T0 hx hby hml hlk hrt hZ hown hnm X0 e0
  have hown : s.vm.findClass "java/lang/Character" = some m.cls := hown
  have N0 := Fr.nil n0
  refine own_g (own_F T0 m 1 #[iv x, iv y] [(.int x)]) (fun _ z_ => XS.iloadN X0.here hx rfl (hb hby own_d33_0) rfl z_) ?_
  refine own_g (own_F T0 m 3 #[iv x, iv y] [(.int 10), (.int x)]) (fun _ z_ => XS.bipush X0.here hx rfl (hb hby own_d33_1) z_) ?_
  refine own_g (own_F T0 m 4 #[iv x, iv y] [(.int (x <<< ((10 : Int32) &&& 31)))]) (fun _ z_ => XS.ishl X0.here hx rfl (hb hby own_d33_3) rfl z_) ?_
  refine own_g (own_F T0 m 5 #[iv x, iv y] [(.int y), (.int (x <<< ((10 : Int32) &&& 31)))]) (fun _ z_ => XS.iloadN X0.here hx rfl (hb hby own_d33_4) rfl z_) ?_
  refine own_g (own_F T0 m 6 #[iv x, iv y] [(.int ((x <<< ((10 : Int32) &&& 31)) + y))]) (fun _ z_ => XS.iadd X0.here hx rfl (hb hby own_d33_5) rfl z_) ?_
  refine own_pre (S' := (own_F T0 m 8 #[iv x, iv y] [(.int (-56613888)), (.int ((x <<< ((10 : Int32) &&& 31)) + y))])) (X0.ldcInt hx hown (mvT hZ (own_w hw 143)) (g := (mkF m 6 #[iv x, iv y] [(.int ((x <<< ((10 : Int32) &&& 31)) + y))])) rfl (hb hby own_d33_6)) ?_
  refine own_g (own_F T0 m 9 #[iv x, iv y] [(.int (((x <<< ((10 : Int32) &&& 31)) + y) + (-56613888 : Int32)))]) (fun _ z_ => XS.iadd X0.here hx rfl (hb hby own_d33_8) rfl z_) ?_
  refine own_ret (t := .int) X0 hx hlk hrt rfl (Or.inl ⟨rfl, by simp, _, rfl⟩) (hb hby own_d33_9) (by decide) (by decide) ?_
  exact ⟨rfl, N0, e0⟩
set_option maxRecDepth 65536 in
set_option maxHeartbeats 40000000 in
theorem own_ucp3 (l : Launch) (Z : State) (a0 : Array Value) (hw : ∀ d ∈ tables_1, d.before a0 Z = true) (ws : List Jvm.Cond) (t : Addr) (n k : Nat) (j nn : Int32) (f : Nat → Int32) (h0 : Heap) (n0 : Nat) (Z0 : n0 ≤ h0.size) (hj : j.toInt = (k : Int)) (hk : k < n) (hn : nn.toInt = (n : Int)) (hf : ∀ i, i < n → 0 ≤ (f i).toInt ∧ (f i).toInt ≤ 65535) (At : own_A Z h0 t .byte (2 * n) (fun i => .int (own_ub f i))) (S_ad : Sta Z h0 "java/lang/StringUTF16" "$assertionsDisabled" "Z" (.int (1 : Int32))) (S_hi : Sta Z h0 "java/lang/StringUTF16" "HI_BYTE_SHIFT" "I" (.int (0 : Int32))) (S_lo : Sta Z h0 "java/lang/StringUTF16" "LO_BYTE_SHIFT" "I" (.int (8 : Int32))) :
    own_Met l Z (⟨"java/lang/StringUTF16", "codePointAt", "([BIIZ)I"⟩ : MethodName) jdk_52_method_7_code 6 (some .int) ws ({ frames := 1, cells := 0, slots := 0, locals := 13 } : Room) #[(.ref t), (.int j), (.int nn), (.int 0)] h0 (fun v h L => v = some (.int (own_cpt f n k)) ∧ Fr n0 L ∧ h = h0) := by
  refine own_body own_pn20 (fun m => mkF m 0 #[rv t, iv j, iv nn, iv 0, .unset, .unset] []) (fun m => own_ef_own_ucp3 m t j nn (0 : Int32)) ?_
  intro p e s m below meth c T0 hx hby hml hlk hrt hZ hown hnm X0 e0
  have hown : s.vm.findClass "java/lang/StringUTF16" = some m.cls := hown
  have N0 := Fr.nil n0
  have hb2 := At.1
  obtain ⟨rH, hrH⟩ := own_dec (55296 ≤ (f k).toInt ∧ (f k).toInt < 56320)
  obtain ⟨rL, hrL⟩ := own_dec (56320 ≤ (f (k + 1)).toInt ∧ (f (k + 1)).toInt < 57344)
  have hk1 := own_k1i hj hn (by omega)
  obtain ⟨T1, X1, e1, st1⟩ := getS2 X0 hx hZ hown (host := "") (Or.inl (own_w hw 84)) Via.refl e0 S_ad (g := (mkF m 0 #[rv t, iv j, iv nn, iv 0, .unset, .unset] [])) rfl (hb hby own_d26_0)
  refine own_pre (S' := (own_F T1 m 3 #[rv t, iv j, iv nn, iv 0, .unset, .unset] [(.int 1)])) st1 ?_
  refine own_g (own_F T1 m 19 #[rv t, iv j, iv nn, iv 0, .unset, .unset] []) (fun _ z_ => XS.ifYes X1.here hx rfl (pc0 := 3) (pc' := 19) rfl (hb hby own_d26_3) rfl ((if0 _ _).trans (feq (by decide : ¬ ((1 : Int32) = (0 : Int32)))).2) (by decide) (by decide) z_) ?_
  refine own_g (own_F T1 m 20 #[rv t, iv j, iv nn, iv 0, .unset, .unset] [(.int 0)]) (fun _ z_ => XS.iloadN X1.here hx rfl (hb hby own_d26_19) rfl z_) ?_
  refine own_g (own_F T1 m 28 #[rv t, iv j, iv nn, iv 0, .unset, .unset] []) (fun _ z_ => XS.ifYes X1.here hx rfl (pc0 := 20) (pc' := 28) rfl (hb hby own_d26_20) rfl ((if0 _ _).trans (teq (by decide : ((0 : Int32) = (0 : Int32)))).1) (by decide) (by decide) z_) ?_
  refine own_g (own_F T1 m 29 #[rv t, iv j, iv nn, iv 0, .unset, .unset] [(.ref t)]) (fun _ z_ => XS.aloadN X1.here hx rfl (hb hby own_d26_28) rfl rfl z_) ?_
  refine own_g (own_F T1 m 30 #[rv t, iv j, iv nn, iv 0, .unset, .unset] [(.int j), (.ref t)]) (fun _ z_ => XS.iloadN X1.here hx rfl (hb hby own_d26_29) rfl z_) ?_
  refine own_callS (y := (⟨"java/lang/StringUTF16", "getChar", "([BI)C"⟩ : MethodName)) X1 hx hZ hown (own_w hw 87) (own_w hw 88) (own_w hw 63) (own_w hw 89) (by decide) e1 (hM := own_getc l Z a0 hw [] t n k j f h0 n0 Z0 hj hk hb2 (hf k hk) At S_ad S_hi S_lo) (W := 0) (pc := 30) (Ls := #[rv t, iv j, iv nn, iv 0, .unset, .unset]) (argsL := [(.ref t), (.int j)]) (rest := []) (st0 := [(.int j), (.ref t)]) (by rw [hml]; rfl) (lenOf own_pd5 rfl) rfl (Nat.le_of_eq rfl) (hb hby own_d26_30) (by decide) (by decide) (by decide) (by decide) ?_
  intro v2 T2 L2 s X2 hZ hown hI2 hvm2 hhp2 hWw2 hQ2
  obtain ⟨rfl, Nq2, hh2⟩ := hQ2
  have N2 := Fr.app N0 Nq2
  show own_Ends p e below s _ _ _ (own_F T2 m 33 #[rv t, iv j, iv nn, iv 0, .unset, .unset] [(.int (f k))])
  refine own_g (own_F T2 m 35 #[rv t, iv j, iv nn, iv 0, iv (f k), .unset] []) (fun _ z_ => XS.istore X2.here hx rfl (hb hby own_d26_33) rfl (l' := #[rv t, iv j, iv nn, iv 0, iv (f k), .unset]) rfl z_) ?_
  refine own_g (own_F T2 m 37 #[rv t, iv j, iv nn, iv 0, iv (f k), .unset] [(.int (f k))]) (fun _ z_ => XS.iload X2.here hx rfl (hb hby own_d26_35) rfl z_) ?_
  refine own_callS (y := (⟨"java/lang/Character", "isHighSurrogate", "(C)Z"⟩ : MethodName)) X2 hx hZ hown (own_w hw 114) (own_w hw 115) (own_w hw 116) (own_w hw 117) (by decide) hh2 (hM := own_isHighSurrogate l Z a0 hw [] (f k) rH h0 n0 Z0 hrH) (W := 0) (pc := 37) (Ls := #[rv t, iv j, iv nn, iv 0, iv (f k), .unset]) (argsL := [(.int (f k))]) (rest := []) (st0 := [(.int (f k))]) (by rw [hml]; rfl) (lenOf own_pd10 rfl) rfl (Nat.le_of_eq rfl) (hb hby own_d26_37) (by decide) (by decide) (by decide) (by decide) ?_
  intro v3 T3 L3 s X3 hZ hown hI3 hvm3 hhp3 hWw3 hQ3
  obtain ⟨rfl, Nq3, hh3⟩ := hQ3
  have N3 := Fr.app N2 Nq3
  show own_Ends p e below s _ _ _ (own_F T3 m 40 #[rv t, iv j, iv nn, iv 0, iv (f k), .unset] [(.int rH)])
  by_cases c40 : rH = (0 : Int32)
  · -- pc 40: rH = (0 : Int32)
   refine own_g (own_F T3 m 83 #[rv t, iv j, iv nn, iv 0, iv (f k), .unset] []) (fun _ z_ => XS.ifYes X3.here hx rfl (pc0 := 40) (pc' := 83) rfl (hb hby own_d26_40) rfl ((if0 _ _).trans (teq c40).1) (by decide) (by decide) z_) ?_
   refine own_g (own_F T3 m 85 #[rv t, iv j, iv nn, iv 0, iv (f k), .unset] [(.int (f k))]) (fun _ z_ => XS.iload X3.here hx rfl (hb hby own_d26_83) rfl z_) ?_
   refine own_ret (t := .int) X3 hx hlk hrt rfl (Or.inl ⟨rfl, by simp, _, rfl⟩) (hb hby own_d26_85) (by decide) (by decide) ?_
   refine ⟨congrArg (fun z => some (Value.int z)) ?_, N3, hh3⟩
   refine (if_neg fun q => ?_).symm
   have := own_r0' hrH c40; omega
  · -- pc 40: not rH = (0 : Int32)
   refine own_g (own_F T3 m 43 #[rv t, iv j, iv nn, iv 0, iv (f k), .unset] []) (fun _ z_ => XS.ifNo X3.here hx rfl (hb hby own_d26_40) rfl ((if0 _ _).trans (feq c40).1) z_) ?_
   refine own_g (own_F T3 m 46 #[rv t, iv (j + (1 : Int32)), iv nn, iv 0, iv (f k), .unset] []) (fun _ z_ => XS.iinc X3.here hx rfl (hb hby own_d26_43) rfl (l' := #[rv t, iv (j + (1 : Int32)), iv nn, iv 0, iv (f k), .unset]) rfl z_) ?_
   refine own_g (own_F T3 m 47 #[rv t, iv (j + (1 : Int32)), iv nn, iv 0, iv (f k), .unset] [(.int (j + (1 : Int32)))]) (fun _ z_ => XS.iloadN X3.here hx rfl (hb hby own_d26_46) rfl z_) ?_
   refine own_g (own_F T3 m 48 #[rv t, iv (j + (1 : Int32)), iv nn, iv 0, iv (f k), .unset] [(.int nn), (.int (j + (1 : Int32)))]) (fun _ z_ => XS.iloadN X3.here hx rfl (hb hby own_d26_47) rfl z_) ?_
   by_cases c48 : (j + (1 : Int32)) < nn
   · -- pc 48: (j + (1 : Int32)) < nn
    refine own_g (own_F T3 m 51 #[rv t, iv (j + (1 : Int32)), iv nn, iv 0, iv (f k), .unset] []) (fun _ z_ => XS.icmpNo X3.here hx rfl (hb hby own_d26_48) rfl (tlt c48).2.1 z_) ?_
    refine own_g (own_F T3 m 52 #[rv t, iv (j + (1 : Int32)), iv nn, iv 0, iv (f k), .unset] [(.int 0)]) (fun _ z_ => XS.iloadN X3.here hx rfl (hb hby own_d26_51) rfl z_) ?_
    refine own_g (own_F T3 m 60 #[rv t, iv (j + (1 : Int32)), iv nn, iv 0, iv (f k), .unset] []) (fun _ z_ => XS.ifYes X3.here hx rfl (pc0 := 52) (pc' := 60) rfl (hb hby own_d26_52) rfl ((if0 _ _).trans (teq (by decide : ((0 : Int32) = (0 : Int32)))).1) (by decide) (by decide) z_) ?_
    refine own_g (own_F T3 m 61 #[rv t, iv (j + (1 : Int32)), iv nn, iv 0, iv (f k), .unset] [(.ref t)]) (fun _ z_ => XS.aloadN X3.here hx rfl (hb hby own_d26_60) rfl rfl z_) ?_
    refine own_g (own_F T3 m 62 #[rv t, iv (j + (1 : Int32)), iv nn, iv 0, iv (f k), .unset] [(.int (j + (1 : Int32))), (.ref t)]) (fun _ z_ => XS.iloadN X3.here hx rfl (hb hby own_d26_61) rfl z_) ?_
    refine own_callS (y := (⟨"java/lang/StringUTF16", "getChar", "([BI)C"⟩ : MethodName)) X3 hx hZ hown (own_w hw 87) (own_w hw 88) (own_w hw 63) (own_w hw 89) (by decide) hh3 (hM := own_getc l Z a0 hw [] t n (k + 1) (j + (1 : Int32)) f h0 n0 Z0 (own_add1 hj (by omega)) (hk1.mp c48) hb2 (hf _ (hk1.mp c48)) At S_ad S_hi S_lo) (W := 0) (pc := 62) (Ls := #[rv t, iv (j + (1 : Int32)), iv nn, iv 0, iv (f k), .unset]) (argsL := [(.ref t), (.int (j + (1 : Int32)))]) (rest := []) (st0 := [(.int (j + (1 : Int32))), (.ref t)]) (by rw [hml]; rfl) (lenOf own_pd5 rfl) rfl (Nat.le_of_eq rfl) (hb hby own_d26_62) (by decide) (by decide) (by decide) (by decide) ?_
    intro v4 T4 L4 s X4 hZ hown hI4 hvm4 hhp4 hWw4 hQ4
    obtain ⟨rfl, Nq4, hh4⟩ := hQ4
    have N4 := Fr.app N3 Nq4
    show own_Ends p e below s _ _ _ (own_F T4 m 65 #[rv t, iv (j + (1 : Int32)), iv nn, iv 0, iv (f k), .unset] [(.int (f (k + 1)))])
    refine own_g (own_F T4 m 67 #[rv t, iv (j + (1 : Int32)), iv nn, iv 0, iv (f k), iv (f (k + 1))] []) (fun _ z_ => XS.istore X4.here hx rfl (hb hby own_d26_65) rfl (l' := #[rv t, iv (j + (1 : Int32)), iv nn, iv 0, iv (f k), iv (f (k + 1))]) rfl z_) ?_
    refine own_g (own_F T4 m 69 #[rv t, iv (j + (1 : Int32)), iv nn, iv 0, iv (f k), iv (f (k + 1))] [(.int (f (k + 1)))]) (fun _ z_ => XS.iload X4.here hx rfl (hb hby own_d26_67) rfl z_) ?_
    refine own_callS (y := (⟨"java/lang/Character", "isLowSurrogate", "(C)Z"⟩ : MethodName)) X4 hx hZ hown (own_w hw 136) (own_w hw 137) (own_w hw 116) (own_w hw 138) (by decide) hh4 (hM := own_isLowSurrogate l Z a0 hw [] (f (k + 1)) rL h0 n0 Z0 hrL) (W := 0) (pc := 69) (Ls := #[rv t, iv (j + (1 : Int32)), iv nn, iv 0, iv (f k), iv (f (k + 1))]) (argsL := [(.int (f (k + 1)))]) (rest := []) (st0 := [(.int (f (k + 1)))]) (by rw [hml]; rfl) (lenOf own_pd10 rfl) rfl (Nat.le_of_eq rfl) (hb hby own_d26_69) (by decide) (by decide) (by decide) (by decide) ?_
    intro v5 T5 L5 s X5 hZ hown hI5 hvm5 hhp5 hWw5 hQ5
    obtain ⟨rfl, Nq5, hh5⟩ := hQ5
    have N5 := Fr.app N4 Nq5
    show own_Ends p e below s _ _ _ (own_F T5 m 72 #[rv t, iv (j + (1 : Int32)), iv nn, iv 0, iv (f k), iv (f (k + 1))] [(.int rL)])
    by_cases c72 : rL = (0 : Int32)
    · -- pc 72: rL = (0 : Int32)
     refine own_g (own_F T5 m 83 #[rv t, iv (j + (1 : Int32)), iv nn, iv 0, iv (f k), iv (f (k + 1))] []) (fun _ z_ => XS.ifYes X5.here hx rfl (pc0 := 72) (pc' := 83) rfl (hb hby own_d26_72) rfl ((if0 _ _).trans (teq c72).1) (by decide) (by decide) z_) ?_
     refine own_g (own_F T5 m 85 #[rv t, iv (j + (1 : Int32)), iv nn, iv 0, iv (f k), iv (f (k + 1))] [(.int (f k))]) (fun _ z_ => XS.iload X5.here hx rfl (hb hby own_d26_83) rfl z_) ?_
     refine own_ret (t := .int) X5 hx hlk hrt rfl (Or.inl ⟨rfl, by simp, _, rfl⟩) (hb hby own_d26_85) (by decide) (by decide) ?_
     refine ⟨congrArg (fun z => some (Value.int z)) ?_, N5, hh5⟩
     refine (if_neg fun q => ?_).symm
     have := own_r0' hrL c72; omega
    · -- pc 72: not rL = (0 : Int32)
     refine own_g (own_F T5 m 75 #[rv t, iv (j + (1 : Int32)), iv nn, iv 0, iv (f k), iv (f (k + 1))] []) (fun _ z_ => XS.ifNo X5.here hx rfl (hb hby own_d26_72) rfl ((if0 _ _).trans (feq c72).1) z_) ?_
     refine own_g (own_F T5 m 77 #[rv t, iv (j + (1 : Int32)), iv nn, iv 0, iv (f k), iv (f (k + 1))] [(.int (f k))]) (fun _ z_ => XS.iload X5.here hx rfl (hb hby own_d26_75) rfl z_) ?_
     refine own_g (own_F T5 m 79 #[rv t, iv (j + (1 : Int32)), iv nn, iv 0, iv (f k), iv (f (k + 1))] [(.int (f (k + 1))), (.int (f k))]) (fun _ z_ => XS.iload X5.here hx rfl (hb hby own_d26_77) rfl z_) ?_
     refine own_callS (y := (⟨"java/lang/Character", "toCodePoint", "(CC)I"⟩ : MethodName)) X5 hx hZ hown (own_w hw 140) (own_w hw 141) (own_w hw 116) (own_w hw 142) (by decide) hh5 (hM := own_tcpC l Z a0 hw [] (f k) (f (k + 1)) h0 n0 Z0) (W := 0) (pc := 79) (Ls := #[rv t, iv (j + (1 : Int32)), iv nn, iv 0, iv (f k), iv (f (k + 1))]) (argsL := [(.int (f k)), (.int (f (k + 1)))]) (rest := []) (st0 := [(.int (f (k + 1))), (.int (f k))]) (by rw [hml]; rfl) (lenOf own_pd11 rfl) rfl (Nat.le_of_eq rfl) (hb hby own_d26_79) (by decide) (by decide) (by decide) (by decide) ?_
     intro v6 T6 L6 s X6 hZ hown hI6 hvm6 hhp6 hWw6 hQ6
     obtain ⟨rfl, Nq6, hh6⟩ := hQ6
     have N6 := Fr.app N5 Nq6
     show own_Ends p e below s _ _ _ (own_F T6 m 82 #[rv t, iv (j + (1 : Int32)), iv nn, iv 0, iv (f k), iv (f (k + 1))] [(.int ((((f k) <<< ((10 : Int32) &&& 31)) + (f (k + 1))) + (-56613888 : Int32)))])
     refine own_ret (t := .int) X6 hx hlk hrt rfl (Or.inl ⟨rfl, by simp, _, rfl⟩) (hb hby own_d26_82) (by decide) (by decide) ?_
     refine ⟨congrArg (fun z => some (Value.int z)) ?_, N6, hh6⟩
     have q1 := own_r1' hrH c40; have q2 := own_r1' hrL c72; have q3 := hk1.mp c48
     rw [own_cpt, if_pos (by omega)]; exact own_tcp
   · -- pc 48: not (j + (1 : Int32)) < nn
    refine own_g (own_F T3 m 83 #[rv t, iv (j + (1 : Int32)), iv nn, iv 0, iv (f k), .unset] []) (fun _ z_ => XS.icmpYes X3.here hx rfl (pc0 := 48) (pc' := 83) rfl (hb hby own_d26_48) rfl (flt c48).2.1 (by decide) (by decide) z_) ?_
    refine own_g (own_F T3 m 85 #[rv t, iv (j + (1 : Int32)), iv nn, iv 0, iv (f k), .unset] [(.int (f k))]) (fun _ z_ => XS.iload X3.here hx rfl (hb hby own_d26_83) rfl z_) ?_
    refine own_ret (t := .int) X3 hx hlk hrt rfl (Or.inl ⟨rfl, by simp, _, rfl⟩) (hb hby own_d26_85) (by decide) (by decide) ?_
    refine ⟨congrArg (fun z => some (Value.int z)) ?_, N3, hh3⟩
    refine (if_neg fun q => ?_).symm
    exact c48 (hk1.mpr q.2.2.1)
set_option maxRecDepth 65536 in
set_option maxHeartbeats 40000000 in
theorem own_ucp2 (l : Launch) (Z : State) (a0 : Array Value) (hw : ∀ d ∈ tables_1, d.before a0 Z = true) (ws : List Jvm.Cond) (t : Addr) (n k : Nat) (j nn : Int32) (f : Nat → Int32) (h0 : Heap) (n0 : Nat) (Z0 : n0 ≤ h0.size) (hj : j.toInt = (k : Int)) (hk : k < n) (hn : nn.toInt = (n : Int)) (hf : ∀ i, i < n → 0 ≤ (f i).toInt ∧ (f i).toInt ≤ 65535) (At : own_A Z h0 t .byte (2 * n) (fun i => .int (own_ub f i))) (S_ad : Sta Z h0 "java/lang/StringUTF16" "$assertionsDisabled" "Z" (.int (1 : Int32))) (S_hi : Sta Z h0 "java/lang/StringUTF16" "HI_BYTE_SHIFT" "I" (.int (0 : Int32))) (S_lo : Sta Z h0 "java/lang/StringUTF16" "LO_BYTE_SHIFT" "I" (.int (8 : Int32))) :
    own_Met l Z (⟨"java/lang/StringUTF16", "codePointAt", "([BII)I"⟩ : MethodName) jdk_52_method_8_code 3 (some .int) ws ({ frames := 2, cells := 0, slots := 0, locals := 30 } : Room) #[(.ref t), (.int j), (.int nn)] h0 (fun v h L => v = some (.int (own_cpt f n k)) ∧ Fr n0 L ∧ h = h0) := by
  refine own_body own_pn21 (fun m => mkF m 0 #[rv t, iv j, iv nn] []) (fun m => own_ef_own_ucp2 m t j nn) ?_
  intro p e s m below meth c T0 hx hby hml hlk hrt hZ hown hnm X0 e0
  have hown : s.vm.findClass "java/lang/StringUTF16" = some m.cls := hown
  have N0 := Fr.nil n0
  refine own_g (own_F T0 m 1 #[rv t, iv j, iv nn] [(.ref t)]) (fun _ z_ => XS.aloadN X0.here hx rfl (hb hby own_d25_0) rfl rfl z_) ?_
  refine own_g (own_F T0 m 2 #[rv t, iv j, iv nn] [(.int j), (.ref t)]) (fun _ z_ => XS.iloadN X0.here hx rfl (hb hby own_d25_1) rfl z_) ?_
  refine own_g (own_F T0 m 3 #[rv t, iv j, iv nn] [(.int nn), (.int j), (.ref t)]) (fun _ z_ => XS.iloadN X0.here hx rfl (hb hby own_d25_2) rfl z_) ?_
  refine own_g (own_F T0 m 4 #[rv t, iv j, iv nn] [(.int 0), (.int nn), (.int j), (.ref t)]) (fun _ z_ => XS.iconst X0.here hx rfl (hb hby own_d25_3) z_) ?_
  refine own_callS (y := (⟨"java/lang/StringUTF16", "codePointAt", "([BIIZ)I"⟩ : MethodName)) X0 hx hZ hown (own_w hw 111) (own_w hw 112) (own_w hw 63) (own_w hw 113) (by decide) e0 (hM := own_ucp3 l Z a0 hw [] t n k j nn f h0 n0 Z0 hj hk hn hf At S_ad S_hi S_lo) (W := 0) (pc := 4) (Ls := #[rv t, iv j, iv nn]) (argsL := [(.ref t), (.int j), (.int nn), (.int 0)]) (rest := []) (st0 := [(.int 0), (.int nn), (.int j), (.ref t)]) (by rw [hml]; rfl) (lenOf own_pd12 rfl) rfl (Nat.le_of_eq rfl) (hb hby own_d25_4) (by decide) (by decide) (by decide) (by decide) ?_
  intro v1 T1 L1 s X1 hZ hown hI1 hvm1 hhp1 hWw1 hQ1
  obtain ⟨rfl, Nq1, hh1⟩ := hQ1
  have N1 := Fr.app N0 Nq1
  show own_Ends p e below s _ _ _ (own_F T1 m 7 #[rv t, iv j, iv nn] [(.int (own_cpt f n k))])
  refine own_ret (t := .int) X1 hx hlk hrt rfl (Or.inl ⟨rfl, by simp, _, rfl⟩) (hb hby own_d25_7) (by decide) (by decide) ?_
  exact ⟨rfl, N1, hh1⟩
set_option maxRecDepth 65536 in
set_option maxHeartbeats 40000000 in
theorem own_pci (l : Launch) (Z : State) (a0 : Array Value) (hw : ∀ d ∈ tables_1, d.before a0 Z = true) (ws : List Jvm.Cond) (j nn : Int32) (k n : Nat) (sv : Value) (hsv : sv.isRef = true) (h0 : Heap) (n0 : Nat) (Z0 : n0 ≤ h0.size) (hj : j.toInt = (k : Int)) (hn : nn.toInt = (n : Int)) (hk : k < n) :
    own_Met l Z (⟨"jdk/internal/util/Preconditions", "checkIndex", "(IILjava/util/function/BiFunction;)I"⟩ : MethodName) jdk_41_method_11_code 3 (some .int) ws ({ frames := 0, cells := 0, slots := 0, locals := 0 } : Room) #[(.int j), (.int nn), sv] h0 (fun v h L => v = some (.int j) ∧ Fr n0 L ∧ h = h0) := by
  refine own_body own_pn22 (fun m => mkF m 0 #[iv j, iv nn, .val sv] []) (fun m => own_ef_own_pci m j nn sv hsv) ?_
  intro p e s m below meth c T0 hx hby hml hlk hrt hZ hown hnm X0 e0
  have hown : s.vm.findClass "jdk/internal/util/Preconditions" = some m.cls := hown
  have N0 := Fr.nil n0
  refine own_g (own_F T0 m 1 #[iv j, iv nn, .val sv] [(.int j)]) (fun _ z_ => XS.iloadN X0.here hx rfl (hb hby own_d24_0) rfl z_) ?_
  refine own_g (own_F T0 m 4 #[iv j, iv nn, .val sv] []) (fun _ z_ => XS.ifNo X0.here hx rfl (hb hby own_d24_1) rfl ((if0 _ _).trans (flt (own_n0 hj)).1) z_) ?_
  refine own_g (own_F T0 m 5 #[iv j, iv nn, .val sv] [(.int j)]) (fun _ z_ => XS.iloadN X0.here hx rfl (hb hby own_d24_4) rfl z_) ?_
  refine own_g (own_F T0 m 6 #[iv j, iv nn, .val sv] [(.int nn), (.int j)]) (fun _ z_ => XS.iloadN X0.here hx rfl (hb hby own_d24_5) rfl z_) ?_
  refine own_g (own_F T0 m 16 #[iv j, iv nn, .val sv] []) (fun _ z_ => XS.icmpYes X0.here hx rfl (pc0 := 6) (pc' := 16) rfl (hb hby own_d24_6) rfl (tlt (own_jlt hj hn hk)).1 (by decide) (by decide) z_) ?_
  refine own_g (own_F T0 m 17 #[iv j, iv nn, .val sv] [(.int j)]) (fun _ z_ => XS.iloadN X0.here hx rfl (hb hby own_d24_16) rfl z_) ?_
  refine own_ret (t := .int) X0 hx hlk hrt rfl (Or.inl ⟨rfl, by simp, _, rfl⟩) (hb hby own_d24_17) (by decide) (by decide) ?_
  exact ⟨rfl, N0, e0⟩
set_option maxRecDepth 65536 in
set_option maxHeartbeats 40000000 in
theorem own_sci (l : Launch) (Z : State) (a0 : Array Value) (hw : ∀ d ∈ tables_1, d.before a0 Z = true) (ws : List Jvm.Cond) (j nn : Int32) (k n : Nat) (sv : Value) (hsv : sv.isRef = true) (h0 : Heap) (n0 : Nat) (Z0 : n0 ≤ h0.size) (hj : j.toInt = (k : Int)) (hn : nn.toInt = (n : Int)) (hk : k < n) (S_sf : Sta Z h0 "jdk/internal/util/Preconditions" "SIOOBE_FORMATTER" "Ljava/util/function/BiFunction;" sv) :
    own_Met l Z (⟨"java/lang/String", "checkIndex", "(II)V"⟩ : MethodName) jdk_42_method_155_code 2 none ws ({ frames := 1, cells := 0, slots := 0, locals := 14 } : Room) #[(.int j), (.int nn)] h0 (fun v h L => v = none ∧ Fr n0 L ∧ h = h0) := by
  refine own_body own_pn23 (fun m => mkF m 0 #[iv j, iv nn] []) (fun m => own_ef_own_sci m j nn) ?_
  intro p e s m below meth c T0 hx hby hml hlk hrt hZ hown hnm X0 e0
  have hown : s.vm.findClass "java/lang/String" = some m.cls := hown
  have N0 := Fr.nil n0
  refine own_g (own_F T0 m 1 #[iv j, iv nn] [(.int j)]) (fun _ z_ => XS.iloadN X0.here hx rfl (hb hby own_d23_0) rfl z_) ?_
  refine own_g (own_F T0 m 2 #[iv j, iv nn] [(.int nn), (.int j)]) (fun _ z_ => XS.iloadN X0.here hx rfl (hb hby own_d23_1) rfl z_) ?_
  obtain ⟨T1, X1, e1, st1⟩ := getS2 X0 hx hZ hown (host := "") (Or.inl (own_w hw 103)) Via.refl e0 S_sf (g := (mkF m 2 #[iv j, iv nn] [(.int nn), (.int j)])) rfl (hb hby own_d23_2)
  refine own_pre (S' := (own_F T1 m 5 #[iv j, iv nn] [sv, (.int nn), (.int j)])) st1 ?_
  refine own_callS (y := (⟨"jdk/internal/util/Preconditions", "checkIndex", "(IILjava/util/function/BiFunction;)I"⟩ : MethodName)) X1 hx hZ hown (own_w hw 105) (own_w hw 106) (own_w hw 104) (own_w hw 107) (by decide) e1 (hM := own_pci l Z a0 hw [] j nn k n sv hsv h0 n0 Z0 hj hn hk) (W := 0) (pc := 5) (Ls := #[iv j, iv nn]) (argsL := [(.int j), (.int nn), sv]) (rest := []) (st0 := [sv, (.int nn), (.int j)]) (by rw [hml]; rfl) (lenOf own_pd13 rfl) rfl (Nat.le_of_eq rfl) (hb hby own_d23_5) (by decide) (by decide) (by decide) (by decide) ?_
  intro v2 T2 L2 s X2 hZ hown hI2 hvm2 hhp2 hWw2 hQ2
  obtain ⟨rfl, Nq2, hh2⟩ := hQ2
  have N2 := Fr.app N0 Nq2
  show own_Ends p e below s _ _ _ (own_F T2 m 8 #[iv j, iv nn] [(.int j)])
  refine own_g (own_F T2 m 9 #[iv j, iv nn] []) (fun _ z_ => XS.pop X2.here hx rfl (hb hby own_d23_8) rfl rfl z_) ?_
  refine own_retV X2 hx hlk hrt (hb hby own_d23_9) (by decide) (by decide) ?_
  exact ⟨rfl, N2, hh2⟩
set_option maxRecDepth 65536 in
set_option maxHeartbeats 40000000 in
theorem own_isl (l : Launch) (Z : State) (a0 : Array Value) (hw : ∀ d ∈ tables_1, d.before a0 Z = true) (ws : List Jvm.Cond) (x : Addr) (cd zc r : Int32) (h0 : Heap) (n0 : Nat) (Z0 : n0 ≤ h0.size) (hr : (if cd = (0 : Int32) then (1 : Int32) else 0) = r) (hzc : ¬ zc = (0 : Int32)) (F_c : Fld Z h0 x "java/lang/String" "coder" "B" (.int cd)) (S_cs : Sta Z h0 "java/lang/String" "COMPACT_STRINGS" "Z" (.int zc)) :
    own_Met l Z (⟨"java/lang/String", "isLatin1", "()Z"⟩ : MethodName) jdk_42_method_154_code 1 (some .boolean) ws ({ frames := 0, cells := 0, slots := 0, locals := 0 } : Room) #[(.ref x)] h0 (fun v h L => v = some (.int r) ∧ Fr n0 L ∧ h = h0) := by
  refine own_body own_pn24 (fun m => mkF m 0 #[rv x] []) (fun m => own_ef_own_isl m x) ?_
  intro p e s m below meth c T0 hx hby hml hlk hrt hZ hown hnm X0 e0
  have hown : s.vm.findClass "java/lang/String" = some m.cls := hown
  have N0 := Fr.nil n0
  obtain ⟨T1, X1, e1, st1⟩ := getS2 X0 hx hZ hown (host := "") (Or.inl (own_w hw 46)) Via.refl e0 S_cs (g := (mkF m 0 #[rv x] [])) rfl (hb hby own_d22_0)
  refine own_pre (S' := (own_F T1 m 3 #[rv x] [(.int zc)])) st1 ?_
  refine own_g (own_F T1 m 6 #[rv x] []) (fun _ z_ => XS.ifNo X1.here hx rfl (hb hby own_d22_3) rfl ((if0 _ _).trans (feq hzc).1) z_) ?_
  refine own_g (own_F T1 m 7 #[rv x] [(.ref x)]) (fun _ z_ => XS.aloadN X1.here hx rfl (hb hby own_d22_6) rfl rfl z_) ?_
  obtain ⟨T2, X2, e2, st2⟩ := getF X1 hx hZ hown (host := "") (Or.inl (own_w hw 31)) Via.refl e1 F_c (g := (mkF m 7 #[rv x] [(.ref x)])) rfl rfl (hb hby own_d22_7)
  refine own_pre (S' := (own_F T2 m 10 #[rv x] [(.int cd)])) st2 ?_
  by_cases c10 : cd = (0 : Int32)
  · -- pc 10: cd = (0 : Int32)
   refine own_g (own_F T2 m 13 #[rv x] []) (fun _ z_ => XS.ifNo X2.here hx rfl (hb hby own_d22_10) rfl ((if0 _ _).trans (teq c10).2) z_) ?_
   refine own_g (own_F T2 m 14 #[rv x] [(.int 1)]) (fun _ z_ => XS.iconst X2.here hx rfl (hb hby own_d22_13) z_) ?_
   refine own_g (own_F T2 m 18 #[rv x] [(.int 1)]) (fun _ z_ => XS.goto X2.here hx rfl (pc0 := 14) (pc' := 18) rfl (hb hby own_d22_14) (by decide) (by decide) z_) ?_
   refine own_ret (t := .boolean) X2 hx hlk hrt rfl (Or.inl ⟨rfl, by simp, _, rfl⟩) (hb hby own_d22_18) (by decide) (by decide) ?_
   exact ⟨by rw [← hr]; simp [c10], N0, e2⟩
  · -- pc 10: not cd = (0 : Int32)
   refine own_g (own_F T2 m 17 #[rv x] []) (fun _ z_ => XS.ifYes X2.here hx rfl (pc0 := 10) (pc' := 17) rfl (hb hby own_d22_10) rfl ((if0 _ _).trans (feq c10).2) (by decide) (by decide) z_) ?_
   refine own_g (own_F T2 m 18 #[rv x] [(.int 0)]) (fun _ z_ => XS.iconst X2.here hx rfl (hb hby own_d22_17) z_) ?_
   refine own_ret (t := .boolean) X2 hx hlk hrt rfl (Or.inl ⟨rfl, by simp, _, rfl⟩) (hb hby own_d22_18) (by decide) (by decide) ?_
   exact ⟨by rw [← hr]; simp [c10], N0, e2⟩
set_option maxRecDepth 65536 in
set_option maxHeartbeats 40000000 in
theorem own_cpa (l : Launch) (Z : State) (a0 : Array Value) (hw : ∀ d ∈ tables_1, d.before a0 Z = true) (ws : List Jvm.Cond) (x : Addr) (j nn zc : Int32) (k n : Nat) (f : Nat → Int32) (sv : Value) (hsv : sv.isRef = true) (h0 : Heap) (n0 : Nat) (Z0 : n0 ≤ h0.size) (hj : j.toInt = (k : Int)) (hk : k < n) (hn : nn.toInt = (n : Int)) (hzc : ¬ zc = (0 : Int32)) (hS : own_Str Z h0 x n f) (S_cs : Sta Z h0 "java/lang/String" "COMPACT_STRINGS" "Z" (.int zc)) (S_sf : Sta Z h0 "jdk/internal/util/Preconditions" "SIOOBE_FORMATTER" "Ljava/util/function/BiFunction;" sv) (S_ad : Sta Z h0 "java/lang/StringUTF16" "$assertionsDisabled" "Z" (.int (1 : Int32))) (S_hi : Sta Z h0 "java/lang/StringUTF16" "HI_BYTE_SHIFT" "I" (.int (0 : Int32))) (S_lo : Sta Z h0 "java/lang/StringUTF16" "LO_BYTE_SHIFT" "I" (.int (8 : Int32))) :
    own_Met l Z (⟨"java/lang/String", "codePointAt", "(I)I"⟩ : MethodName) jdk_42_method_57_code 3 (some .int) ws ({ frames := 3, cells := 0, slots := 0, locals := 44 } : Room) #[(.ref x), (.int j)] h0 (fun v h L => v = some (.int (own_cpt f n k)) ∧ Fr n0 L ∧ h = h0) := by
  refine own_body own_pn25 (fun m => mkF m 0 #[rv x, iv j, .unset] []) (fun m => own_ef_own_cpa m x j) ?_
  intro p e s m below meth c T0 hx hby hml hlk hrt hZ hown hnm X0 e0
  have hown : s.vm.findClass "java/lang/String" = some m.cls := hown
  have N0 := Fr.nil n0
  obtain ⟨t, E_x, F_v, hf, CC⟩ := hS
  rcases CC with ⟨F_c, At, hl⟩ | ⟨F_c, At⟩
  ·
   refine own_g (own_F T0 m 1 #[rv x, iv j, .unset] [(.ref x)]) (fun _ z_ => XS.aloadN X0.here hx rfl (hb hby own_d21_0) rfl rfl z_) ?_
   refine own_callV (C := "java/lang/String") (y := (⟨"java/lang/String", "isLatin1", "()Z"⟩ : MethodName)) (b := x) X0 hx hZ hown (own_w hw 95) (own_w hw 96) (own_w hw 98) (own_w hw 97) (own_w hw 99) (own_w hw 13) (by decide) e0 E_x (hM := own_isl l Z a0 hw [] x (0 : Int32) zc (1 : Int32) h0 n0 Z0 (by decide) hzc F_c S_cs) (W := 0) (pc := 1) (Ls := #[rv x, iv j, .unset]) (argsL := []) (rest := []) (st0 := [(.ref x)]) (by rw [hml]; rfl) (lenOf own_pd14 rfl) rfl (Nat.le_of_eq rfl) (hb hby own_d21_1) (by decide) (by decide) (by decide) (by decide) ?_
   intro v1 T1 L1 s X1 hZ hown hI1 hvm1 hhp1 hWw1 hQ1
   obtain ⟨rfl, Nq1, hh1⟩ := hQ1
   have N1 := Fr.app N0 Nq1
   show own_Ends p e below s _ _ _ (own_F T1 m 4 #[rv x, iv j, .unset] [(.int 1)])
   refine own_g (own_F T1 m 7 #[rv x, iv j, .unset] []) (fun _ z_ => XS.ifNo X1.here hx rfl (hb hby own_d21_4) rfl ((if0 _ _).trans (feq (by decide : ¬ ((1 : Int32) = (0 : Int32)))).1) z_) ?_
   refine own_g (own_F T1 m 8 #[rv x, iv j, .unset] [(.int j)]) (fun _ z_ => XS.iloadN X1.here hx rfl (hb hby own_d21_7) rfl z_) ?_
   refine own_g (own_F T1 m 9 #[rv x, iv j, .unset] [(.ref x), (.int j)]) (fun _ z_ => XS.aloadN X1.here hx rfl (hb hby own_d21_8) rfl rfl z_) ?_
   obtain ⟨T2, X2, e2, st2⟩ := getF X1 hx hZ hown (host := "") (Or.inl (own_w hw 30)) Via.refl hh1 F_v (g := (mkF m 9 #[rv x, iv j, .unset] [(.ref x), (.int j)])) rfl rfl (hb hby own_d21_9)
   refine own_pre (S' := (own_F T2 m 12 #[rv x, iv j, .unset] [(.ref t), (.int j)])) st2 ?_
   refine own_alen X2 hx hZ e2 At (hb hby own_d21_12) ?_
   show own_Ends p e below s _ _ _ (own_F T2 m 13 #[rv x, iv j, .unset] [(.int (Nat.toInt32 n)), (.int j)])
   refine own_callS (y := (⟨"java/lang/String", "checkIndex", "(II)V"⟩ : MethodName)) X2 hx hZ hown (own_w hw 100) (own_w hw 101) (own_w hw 13) (own_w hw 102) (by decide) e2 (hM := own_sci l Z a0 hw [] j (Nat.toInt32 n) k n sv hsv h0 n0 Z0 hj (len_toInt At.1) hk S_sf) (W := 0) (pc := 13) (Ls := #[rv x, iv j, .unset]) (argsL := [(.int j), (.int (Nat.toInt32 n))]) (rest := []) (st0 := [(.int (Nat.toInt32 n)), (.int j)]) (by rw [hml]; rfl) (lenOf own_pd15 rfl) rfl (Nat.le_of_eq rfl) (hb hby own_d21_13) (by decide) (by decide) (by decide) (by decide) ?_
   intro v3 T3 L3 s X3 hZ hown hI3 hvm3 hhp3 hWw3 hQ3
   obtain ⟨rfl, Nq3, hh3⟩ := hQ3
   have N3 := Fr.app N1 Nq3
   show own_Ends p e below s _ _ _ (own_F T3 m 16 #[rv x, iv j, .unset] [])
   refine own_g (own_F T3 m 17 #[rv x, iv j, .unset] [(.ref x)]) (fun _ z_ => XS.aloadN X3.here hx rfl (hb hby own_d21_16) rfl rfl z_) ?_
   obtain ⟨T4, X4, e4, st4⟩ := getF X3 hx hZ hown (host := "") (Or.inl (own_w hw 30)) Via.refl hh3 F_v (g := (mkF m 17 #[rv x, iv j, .unset] [(.ref x)])) rfl rfl (hb hby own_d21_17)
   refine own_pre (S' := (own_F T4 m 20 #[rv x, iv j, .unset] [(.ref t)])) st4 ?_
   refine own_g (own_F T4 m 21 #[rv x, iv j, .unset] [(.int j), (.ref t)]) (fun _ z_ => XS.iloadN X4.here hx rfl (hb hby own_d21_20) rfl z_) ?_
   refine own_bald X4 hx hZ e4 At k hj hk (hb hby own_d21_21) ?_
   show own_Ends p e below s _ _ _ (own_F T4 m 22 #[rv x, iv j, .unset] [(.int ((f k).toInt8.toInt32))])
   refine own_g (own_F T4 m 25 #[rv x, iv j, .unset] [(.int 255), (.int ((f k).toInt8.toInt32))]) (fun _ z_ => XS.sipush X4.here hx rfl (hb hby own_d21_22) z_) ?_
   refine own_g (own_F T4 m 26 #[rv x, iv j, .unset] [(.int (((f k).toInt8.toInt32) &&& (255 : Int32)))]) (fun _ z_ => XS.iand X4.here hx rfl (hb hby own_d21_25) rfl z_) ?_
   refine own_ret (t := .int) X4 hx hlk hrt rfl (Or.inl ⟨rfl, by simp, _, rfl⟩) (hb hby own_d21_26) (by decide) (by decide) ?_
   exact ⟨congrArg (fun z => some (Value.int z)) ((own_lat2 (hl k hk)).trans (own_cpl (by have := hl k hk; omega)).symm), N3, e4⟩
  ·
   refine own_g (own_F T0 m 1 #[rv x, iv j, .unset] [(.ref x)]) (fun _ z_ => XS.aloadN X0.here hx rfl (hb hby own_d21_0) rfl rfl z_) ?_
   refine own_callV (C := "java/lang/String") (y := (⟨"java/lang/String", "isLatin1", "()Z"⟩ : MethodName)) (b := x) X0 hx hZ hown (own_w hw 95) (own_w hw 96) (own_w hw 98) (own_w hw 97) (own_w hw 99) (own_w hw 13) (by decide) e0 E_x (hM := own_isl l Z a0 hw [] x (1 : Int32) zc (0 : Int32) h0 n0 Z0 (by decide) hzc F_c S_cs) (W := 0) (pc := 1) (Ls := #[rv x, iv j, .unset]) (argsL := []) (rest := []) (st0 := [(.ref x)]) (by rw [hml]; rfl) (lenOf own_pd14 rfl) rfl (Nat.le_of_eq rfl) (hb hby own_d21_1) (by decide) (by decide) (by decide) (by decide) ?_
   intro v5 T5 L5 s X5 hZ hown hI5 hvm5 hhp5 hWw5 hQ5
   obtain ⟨rfl, Nq5, hh5⟩ := hQ5
   have N5 := Fr.app N0 Nq5
   show own_Ends p e below s _ _ _ (own_F T5 m 4 #[rv x, iv j, .unset] [(.int 0)])
   refine own_g (own_F T5 m 27 #[rv x, iv j, .unset] []) (fun _ z_ => XS.ifYes X5.here hx rfl (pc0 := 4) (pc' := 27) rfl (hb hby own_d21_4) rfl ((if0 _ _).trans (teq (by decide : ((0 : Int32) = (0 : Int32)))).1) (by decide) (by decide) z_) ?_
   refine own_g (own_F T5 m 28 #[rv x, iv j, .unset] [(.ref x)]) (fun _ z_ => XS.aloadN X5.here hx rfl (hb hby own_d21_27) rfl rfl z_) ?_
   obtain ⟨T6, X6, e6, st6⟩ := getF X5 hx hZ hown (host := "") (Or.inl (own_w hw 30)) Via.refl hh5 F_v (g := (mkF m 28 #[rv x, iv j, .unset] [(.ref x)])) rfl rfl (hb hby own_d21_28)
   refine own_pre (S' := (own_F T6 m 31 #[rv x, iv j, .unset] [(.ref t)])) st6 ?_
   refine own_alen X6 hx hZ e6 At (hb hby own_d21_31) ?_
   show own_Ends p e below s _ _ _ (own_F T6 m 32 #[rv x, iv j, .unset] [(.int (Nat.toInt32 (2 * n)))])
   refine own_g (own_F T6 m 33 #[rv x, iv j, .unset] [(.int 1), (.int (Nat.toInt32 (2 * n)))]) (fun _ z_ => XS.iconst X6.here hx rfl (hb hby own_d21_32) z_) ?_
   refine own_g (own_F T6 m 34 #[rv x, iv j, .unset] [(.int ((Nat.toInt32 (2 * n)) >>> ((1 : Int32) &&& 31)))]) (fun _ z_ => XS.ishr X6.here hx rfl (hb hby own_d21_33) rfl z_) ?_
   rw [own_half hn At.1]
   refine own_g (own_F T6 m 35 #[rv x, iv j, iv nn] []) (fun _ z_ => XS.istoreN X6.here hx rfl (hb hby own_d21_34) rfl (l' := #[rv x, iv j, iv nn]) rfl z_) ?_
   refine own_g (own_F T6 m 36 #[rv x, iv j, iv nn] [(.int j)]) (fun _ z_ => XS.iloadN X6.here hx rfl (hb hby own_d21_35) rfl z_) ?_
   refine own_g (own_F T6 m 37 #[rv x, iv j, iv nn] [(.int nn), (.int j)]) (fun _ z_ => XS.iloadN X6.here hx rfl (hb hby own_d21_36) rfl z_) ?_
   refine own_callS (y := (⟨"java/lang/String", "checkIndex", "(II)V"⟩ : MethodName)) X6 hx hZ hown (own_w hw 100) (own_w hw 101) (own_w hw 13) (own_w hw 102) (by decide) e6 (hM := own_sci l Z a0 hw [] j nn k n sv hsv h0 n0 Z0 hj hn hk S_sf) (W := 0) (pc := 37) (Ls := #[rv x, iv j, iv nn]) (argsL := [(.int j), (.int nn)]) (rest := []) (st0 := [(.int nn), (.int j)]) (by rw [hml]; rfl) (lenOf own_pd15 rfl) rfl (Nat.le_of_eq rfl) (hb hby own_d21_37) (by decide) (by decide) (by decide) (by decide) ?_
   intro v7 T7 L7 s X7 hZ hown hI7 hvm7 hhp7 hWw7 hQ7
   obtain ⟨rfl, Nq7, hh7⟩ := hQ7
   have N7 := Fr.app N5 Nq7
   show own_Ends p e below s _ _ _ (own_F T7 m 40 #[rv x, iv j, iv nn] [])
   refine own_g (own_F T7 m 41 #[rv x, iv j, iv nn] [(.ref x)]) (fun _ z_ => XS.aloadN X7.here hx rfl (hb hby own_d21_40) rfl rfl z_) ?_
   obtain ⟨T8, X8, e8, st8⟩ := getF X7 hx hZ hown (host := "") (Or.inl (own_w hw 30)) Via.refl hh7 F_v (g := (mkF m 41 #[rv x, iv j, iv nn] [(.ref x)])) rfl rfl (hb hby own_d21_41)
   refine own_pre (S' := (own_F T8 m 44 #[rv x, iv j, iv nn] [(.ref t)])) st8 ?_
   refine own_g (own_F T8 m 45 #[rv x, iv j, iv nn] [(.int j), (.ref t)]) (fun _ z_ => XS.iloadN X8.here hx rfl (hb hby own_d21_44) rfl z_) ?_
   refine own_g (own_F T8 m 46 #[rv x, iv j, iv nn] [(.int nn), (.int j), (.ref t)]) (fun _ z_ => XS.iloadN X8.here hx rfl (hb hby own_d21_45) rfl z_) ?_
   refine own_callS (y := (⟨"java/lang/StringUTF16", "codePointAt", "([BII)I"⟩ : MethodName)) X8 hx hZ hown (own_w hw 108) (own_w hw 109) (own_w hw 63) (own_w hw 110) (by decide) e8 (hM := own_ucp2 l Z a0 hw [] t n k j nn f h0 n0 Z0 hj hk hn hf At S_ad S_hi S_lo) (W := 0) (pc := 46) (Ls := #[rv x, iv j, iv nn]) (argsL := [(.ref t), (.int j), (.int nn)]) (rest := []) (st0 := [(.int nn), (.int j), (.ref t)]) (by rw [hml]; rfl) (lenOf own_pd16 rfl) rfl (Nat.le_of_eq rfl) (hb hby own_d21_46) (by decide) (by decide) (by decide) (by decide) ?_
   intro v9 T9 L9 s X9 hZ hown hI9 hvm9 hhp9 hWw9 hQ9
   obtain ⟨rfl, Nq9, hh9⟩ := hQ9
   have N9 := Fr.app N7 Nq9
   show own_Ends p e below s _ _ _ (own_F T9 m 49 #[rv x, iv j, iv nn] [(.int (own_cpt f n k))])
   refine own_ret (t := .int) X9 hx hlk hrt rfl (Or.inl ⟨rfl, by simp, _, rfl⟩) (hb hby own_d21_49) (by decide) (by decide) ?_
   exact ⟨congrArg (fun z => some (Value.int z)) rfl, N9, hh9⟩
set_option maxRecDepth 65536 in
set_option maxHeartbeats 40000000 in
theorem own_cmp (l : Launch) (Z : State) (a0 : Array Value) (hw : ∀ d ∈ tables_1, d.before a0 Z = true) (ws : List Jvm.Cond) (x y : Addr) (n n2 : Nat) (nn mm zc : Int32) (f g : Nat → Int32) (sv : Value) (hsv : sv.isRef = true) (h0 : Heap) (n0 : Nat) (Z0 : n0 ≤ h0.size) (hn : nn.toInt = (n : Int)) (hn2 : mm.toInt = (n2 : Int)) (hn3 : n ≤ 3) (hzc : ¬ zc = (0 : Int32)) (hSx : own_Str Z h0 x n f) (hSy : own_Str Z h0 y n2 g) (hfr : ∀ i, i < n → 0 ≤ (f i).toInt ∧ (f i).toInt ≤ 65535) (S_cs : Sta Z h0 "java/lang/String" "COMPACT_STRINGS" "Z" (.int zc)) (S_sf : Sta Z h0 "jdk/internal/util/Preconditions" "SIOOBE_FORMATTER" "Ljava/util/function/BiFunction;" sv) (S_ad : Sta Z h0 "java/lang/StringUTF16" "$assertionsDisabled" "Z" (.int (1 : Int32))) (S_hi : Sta Z h0 "java/lang/StringUTF16" "HI_BYTE_SHIFT" "I" (.int (0 : Int32))) (S_lo : Sta Z h0 "java/lang/StringUTF16" "LO_BYTE_SHIFT" "I" (.int (8 : Int32))) :
    own_Met l Z (⟨"com/example/kunci/kunci/CodePoints", "compare", "(Ljava/lang/String;Ljava/lang/String;)I"⟩ : MethodName) prog_1_method_2_code 5 (some .int) ws ({ frames := 4, cells := 0, slots := 0, locals := 58 } : Room) #[(.ref x), (.ref y)] h0 (fun v h L => v = some (.int (own_cr f g n n2 nn mm 3 0)) ∧ Fr n0 L ∧ h = h0) := by
  refine own_body own_pn26 (fun m => mkF m 0 #[rv x, rv y, .unset, .unset, .unset] []) (fun m => own_ef_own_cmp m x y) ?_
  intro p e s m below meth c T0 hx hby hml hlk hrt hZ hown hnm X0 e0
  have hown : s.vm.findClass "com/example/kunci/kunci/CodePoints" = some m.cls := hown
  have N0 := Fr.nil n0
  have J : ∀ (r : Nat) (k : Nat) (j : Int32) (s3 : Slot) (s4 : Slot) (T1 : State) (lc1 : List Loc) (hp1 : Heap) (s : State) (hZ : Z.Warmed39 s.vm) (hown : s.vm.findClass "com/example/kunci/kunci/CodePoints" = some m.cls) (X1 : Stand p l e ({ frames := 4, cells := 0, slots := 0, locals := 58 } : Room) s m #[(.ref x), (.ref y)] below meth c T1 lc1 0 0) (e1 : T1.heap = hp1) (N1 : Fr n0 lc1) (zs1 : n0 ≤ hp1.size) (zz1 : h0.size ≤ hp1.size) (f1_0 : Sta Z hp1 "java/lang/String" "COMPACT_STRINGS" "Z" (.int zc)) (f1_1 : Sta Z hp1 "jdk/internal/util/Preconditions" "SIOOBE_FORMATTER" "Ljava/util/function/BiFunction;" sv) (f1_2 : Sta Z hp1 "java/lang/StringUTF16" "$assertionsDisabled" "Z" (.int (1 : Int32))) (f1_3 : Sta Z hp1 "java/lang/StringUTF16" "HI_BYTE_SHIFT" "I" (.int (0 : Int32))) (f1_4 : Sta Z hp1 "java/lang/StringUTF16" "LO_BYTE_SHIFT" "I" (.int (8 : Int32))) (hSx : own_Str Z hp1 x n f) (hSy : own_Str Z hp1 y n2 g) (hkr : n ≤ k + r) (hk3 : k < 1000) (hj : j.toInt = (k : Int)) (hs3 : One s3) (hs4 : One s4) (hq : hp1 = h0) (hR : own_cr f g n n2 nn mm r k = (own_cr f g n n2 nn mm 3 0)), own_Ends p e below s ((fun v h L _ => v = some (.int (own_cr f g n n2 nn mm 3 0)) ∧ Fr n0 L ∧ h = h0), []) ({ frames := 4, cells := 0, slots := 0, locals := 58 } : Room).cells ({ frames := 4, cells := 0, slots := 0, locals := 58 } : Room).slots (own_F T1 m 2 #[rv x, rv y, iv j, s3, s4] []) := by
   intro r
   induction r with
   | zero =>
    intro k j s3 s4 T1 lc1 hp1 s hZ hown X1 e1 N1 zs1 zz1 f1_0 f1_1 f1_2 f1_3 f1_4 hSx hSy hkr hk3 hj hs3 hs4 hq hR
    refine own_g (own_F T1 m 3 #[rv x, rv y, iv j, s3, s4] [(.int j)]) (fun _ z_ => XS.iloadN X1.here hx rfl (hb hby own_d6_2) rfl z_) ?_
    refine own_g (own_F T1 m 4 #[rv x, rv y, iv j, s3, s4] [(.ref x), (.int j)]) (fun _ z_ => XS.aloadN X1.here hx rfl (hb hby own_d6_3) rfl rfl z_) ?_
    refine own_callV (C := "java/lang/String") (y := (⟨"java/lang/String", "length", "()I"⟩ : MethodName)) (b := x) X1 hx hZ hown (own_w hw 36) (own_w hw 37) (own_w hw 39) (own_w hw 38) (own_w hw 40) (own_w hw 13) (by decide) e1 (own_StrE hSx) (hM := own_slen l Z a0 hw [] x n nn zc f hp1 n0 zs1 hn hzc hSx f1_0) (W := 1) (pc := 4) (Ls := #[rv x, rv y, iv j, s3, s4]) (argsL := []) (rest := [(.int j)]) (st0 := [(.ref x), (.int j)]) (by rw [hml]; rfl) (lenOf own_pd17 rfl) rfl (Nat.le_of_eq rfl) (hb hby own_d6_4) (by decide) (by decide) (by decide) (by decide) ?_
    intro v2 T2 L2 s X2 hZ hown hI2 hvm2 hhp2 hWw2 hQ2
    obtain ⟨rfl, Nq2, hh2⟩ := hQ2
    have N2 := Fr.app N1 Nq2
    show own_Ends p e below s _ _ _ (own_F T2 m 7 #[rv x, rv y, iv j, s3, s4] [(.int nn), (.int j)])
    refine own_g (own_F T2 m 54 #[rv x, rv y, iv j, s3, s4] []) (fun _ z_ => XS.icmpYes X2.here hx rfl (pc0 := 7) (pc' := 54) rfl (hb hby own_d6_7) rfl (flt (own_jge hj hn (by omega))).2.1 (by decide) (by decide) z_) ?_
    refine own_g (own_F T2 m 55 #[rv x, rv y, iv j, s3, s4] [(.ref x)]) (fun _ z_ => XS.aloadN X2.here hx rfl (hb hby own_d6_54) rfl rfl z_) ?_
    refine own_callV (C := "java/lang/String") (y := (⟨"java/lang/String", "length", "()I"⟩ : MethodName)) (b := x) X2 hx hZ hown (own_w hw 36) (own_w hw 37) (own_w hw 39) (own_w hw 38) (own_w hw 40) (own_w hw 13) (by decide) hh2 (own_StrE hSx) (hM := own_slen l Z a0 hw [] x n nn zc f hp1 n0 zs1 hn hzc hSx f1_0) (W := 0) (pc := 55) (Ls := #[rv x, rv y, iv j, s3, s4]) (argsL := []) (rest := []) (st0 := [(.ref x)]) (by rw [hml]; rfl) (lenOf own_pd17 rfl) rfl (Nat.le_of_eq rfl) (hb hby own_d6_55) (by decide) (by decide) (by decide) (by decide) ?_
    intro v3 T3 L3 s X3 hZ hown hI3 hvm3 hhp3 hWw3 hQ3
    obtain ⟨rfl, Nq3, hh3⟩ := hQ3
    have N3 := Fr.app N2 Nq3
    show own_Ends p e below s _ _ _ (own_F T3 m 58 #[rv x, rv y, iv j, s3, s4] [(.int nn)])
    refine own_g (own_F T3 m 59 #[rv x, rv y, iv j, s3, s4] [(.ref y), (.int nn)]) (fun _ z_ => XS.aloadN X3.here hx rfl (hb hby own_d6_58) rfl rfl z_) ?_
    refine own_callV (C := "java/lang/String") (y := (⟨"java/lang/String", "length", "()I"⟩ : MethodName)) (b := y) X3 hx hZ hown (own_w hw 36) (own_w hw 37) (own_w hw 39) (own_w hw 38) (own_w hw 40) (own_w hw 13) (by decide) hh3 (own_StrE hSy) (hM := own_slen l Z a0 hw [] y n2 mm zc g hp1 n0 zs1 hn2 hzc hSy f1_0) (W := 1) (pc := 59) (Ls := #[rv x, rv y, iv j, s3, s4]) (argsL := []) (rest := [(.int nn)]) (st0 := [(.ref y), (.int nn)]) (by rw [hml]; rfl) (lenOf own_pd17 rfl) rfl (Nat.le_of_eq rfl) (hb hby own_d6_59) (by decide) (by decide) (by decide) (by decide) ?_
    intro v4 T4 L4 s X4 hZ hown hI4 hvm4 hhp4 hWw4 hQ4
    obtain ⟨rfl, Nq4, hh4⟩ := hQ4
    have N4 := Fr.app N3 Nq4
    show own_Ends p e below s _ _ _ (own_F T4 m 62 #[rv x, rv y, iv j, s3, s4] [(.int mm), (.int nn)])
    refine own_callS (y := (⟨"java/lang/Integer", "compare", "(II)I"⟩ : MethodName)) X4 hx hZ hown (own_w hw 47) (own_w hw 48) (own_w hw 49) (own_w hw 50) (by decide) hh4 (hM := own_icmp l Z a0 hw [] nn mm hp1 n0 zs1) (W := 0) (pc := 62) (Ls := #[rv x, rv y, iv j, s3, s4]) (argsL := [(.int nn), (.int mm)]) (rest := []) (st0 := [(.int mm), (.int nn)]) (by rw [hml]; rfl) (lenOf own_pd18 rfl) rfl (Nat.le_of_eq rfl) (hb hby own_d6_62) (by decide) (by decide) (by decide) (by decide) ?_
    intro v5 T5 L5 s X5 hZ hown hI5 hvm5 hhp5 hWw5 hQ5
    obtain ⟨rfl, Nq5, hh5⟩ := hQ5
    have N5 := Fr.app N4 Nq5
    show own_Ends p e below s _ _ _ (own_F T5 m 65 #[rv x, rv y, iv j, s3, s4] [(.int (own_cm nn mm))])
    refine own_ret (t := .int) X5 hx hlk hrt rfl (Or.inl ⟨rfl, by simp, _, rfl⟩) (hb hby own_d6_65) (by decide) (by decide) ?_
    refine ⟨congrArg (fun z => some (Value.int z)) ?_, N5, hh5.trans hq⟩
    exact own_cr_stop hR (fun q => by omega)
   | succ r ih =>
    intro k j s3 s4 T1 lc1 hp1 s hZ hown X1 e1 N1 zs1 zz1 f1_0 f1_1 f1_2 f1_3 f1_4 hSx hSy hkr hk3 hj hs3 hs4 hq hR
    have hjn := own_ltI hj hn
    have hjm := own_ltI hj hn2
    refine own_g (own_F T1 m 3 #[rv x, rv y, iv j, s3, s4] [(.int j)]) (fun _ z_ => XS.iloadN X1.here hx rfl (hb hby own_d6_2) rfl z_) ?_
    refine own_g (own_F T1 m 4 #[rv x, rv y, iv j, s3, s4] [(.ref x), (.int j)]) (fun _ z_ => XS.aloadN X1.here hx rfl (hb hby own_d6_3) rfl rfl z_) ?_
    refine own_callV (C := "java/lang/String") (y := (⟨"java/lang/String", "length", "()I"⟩ : MethodName)) (b := x) X1 hx hZ hown (own_w hw 36) (own_w hw 37) (own_w hw 39) (own_w hw 38) (own_w hw 40) (own_w hw 13) (by decide) e1 (own_StrE hSx) (hM := own_slen l Z a0 hw [] x n nn zc f hp1 n0 zs1 hn hzc hSx f1_0) (W := 1) (pc := 4) (Ls := #[rv x, rv y, iv j, s3, s4]) (argsL := []) (rest := [(.int j)]) (st0 := [(.ref x), (.int j)]) (by rw [hml]; rfl) (lenOf own_pd17 rfl) rfl (Nat.le_of_eq rfl) (hb hby own_d6_4) (by decide) (by decide) (by decide) (by decide) ?_
    intro v6 T6 L6 s X6 hZ hown hI6 hvm6 hhp6 hWw6 hQ6
    obtain ⟨rfl, Nq6, hh6⟩ := hQ6
    have N6 := Fr.app N1 Nq6
    show own_Ends p e below s _ _ _ (own_F T6 m 7 #[rv x, rv y, iv j, s3, s4] [(.int nn), (.int j)])
    by_cases c7 : j < nn
    · -- pc 7: j < nn
     refine own_g (own_F T6 m 10 #[rv x, rv y, iv j, s3, s4] []) (fun _ z_ => XS.icmpNo X6.here hx rfl (hb hby own_d6_7) rfl (tlt c7).2.1 z_) ?_
     have hkn : k < n := hjn.mp c7
     refine own_g (own_F T6 m 11 #[rv x, rv y, iv j, s3, s4] [(.int j)]) (fun _ z_ => XS.iloadN X6.here hx rfl (hb hby own_d6_10) rfl z_) ?_
     refine own_g (own_F T6 m 12 #[rv x, rv y, iv j, s3, s4] [(.ref y), (.int j)]) (fun _ z_ => XS.aloadN X6.here hx rfl (hb hby own_d6_11) rfl rfl z_) ?_
     refine own_callV (C := "java/lang/String") (y := (⟨"java/lang/String", "length", "()I"⟩ : MethodName)) (b := y) X6 hx hZ hown (own_w hw 36) (own_w hw 37) (own_w hw 39) (own_w hw 38) (own_w hw 40) (own_w hw 13) (by decide) hh6 (own_StrE hSy) (hM := own_slen l Z a0 hw [] y n2 mm zc g hp1 n0 zs1 hn2 hzc hSy f1_0) (W := 1) (pc := 12) (Ls := #[rv x, rv y, iv j, s3, s4]) (argsL := []) (rest := [(.int j)]) (st0 := [(.ref y), (.int j)]) (by rw [hml]; rfl) (lenOf own_pd17 rfl) rfl (Nat.le_of_eq rfl) (hb hby own_d6_12) (by decide) (by decide) (by decide) (by decide) ?_
     intro v7 T7 L7 s X7 hZ hown hI7 hvm7 hhp7 hWw7 hQ7
     obtain ⟨rfl, Nq7, hh7⟩ := hQ7
     have N7 := Fr.app N6 Nq7
     show own_Ends p e below s _ _ _ (own_F T7 m 15 #[rv x, rv y, iv j, s3, s4] [(.int mm), (.int j)])
     by_cases c15 : j < mm
     · -- pc 15: j < mm
      refine own_g (own_F T7 m 18 #[rv x, rv y, iv j, s3, s4] []) (fun _ z_ => XS.icmpNo X7.here hx rfl (hb hby own_d6_15) rfl (tlt c15).2.1 z_) ?_
      have hkm : k < n2 := hjm.mp c15
      refine own_g (own_F T7 m 19 #[rv x, rv y, iv j, s3, s4] [(.ref x)]) (fun _ z_ => XS.aloadN X7.here hx rfl (hb hby own_d6_18) rfl rfl z_) ?_
      refine own_g (own_F T7 m 20 #[rv x, rv y, iv j, s3, s4] [(.int j), (.ref x)]) (fun _ z_ => XS.iloadN X7.here hx rfl (hb hby own_d6_19) rfl z_) ?_
      refine own_callV (C := "java/lang/String") (y := (⟨"java/lang/String", "codePointAt", "(I)I"⟩ : MethodName)) (b := x) X7 hx hZ hown (own_w hw 90) (own_w hw 91) (own_w hw 93) (own_w hw 92) (own_w hw 94) (own_w hw 13) (by decide) hh7 (own_StrE hSx) (hM := own_cpa l Z a0 hw [] x j nn zc k n f sv hsv hp1 n0 zs1 hj hkn hn hzc hSx f1_0 f1_1 f1_2 f1_3 f1_4) (W := 0) (pc := 20) (Ls := #[rv x, rv y, iv j, s3, s4]) (argsL := [(.int j)]) (rest := []) (st0 := [(.int j), (.ref x)]) (by rw [hml]; rfl) (lenOf own_pd0 rfl) rfl (Nat.le_of_eq rfl) (hb hby own_d6_20) (by decide) (by decide) (by decide) (by decide) ?_
      intro v8 T8 L8 s X8 hZ hown hI8 hvm8 hhp8 hWw8 hQ8
      obtain ⟨rfl, Nq8, hh8⟩ := hQ8
      have N8 := Fr.app N7 Nq8
      show own_Ends p e below s _ _ _ (own_F T8 m 23 #[rv x, rv y, iv j, s3, s4] [(.int (own_cpt f n k))])
      refine own_g (own_F T8 m 24 #[rv x, rv y, iv j, iv (own_cpt f n k), s4] []) (fun _ z_ => XS.istoreN X8.here hx rfl (hb hby own_d6_23) rfl (l' := #[rv x, rv y, iv j, iv (own_cpt f n k), s4]) (own_st1 rfl hs3 rfl rfl) z_) ?_
      refine own_g (own_F T8 m 25 #[rv x, rv y, iv j, iv (own_cpt f n k), s4] [(.ref y)]) (fun _ z_ => XS.aloadN X8.here hx rfl (hb hby own_d6_24) rfl rfl z_) ?_
      refine own_g (own_F T8 m 26 #[rv x, rv y, iv j, iv (own_cpt f n k), s4] [(.int j), (.ref y)]) (fun _ z_ => XS.iloadN X8.here hx rfl (hb hby own_d6_25) rfl z_) ?_
      refine own_callV (C := "java/lang/String") (y := (⟨"java/lang/String", "codePointAt", "(I)I"⟩ : MethodName)) (b := y) X8 hx hZ hown (own_w hw 90) (own_w hw 91) (own_w hw 93) (own_w hw 92) (own_w hw 94) (own_w hw 13) (by decide) hh8 (own_StrE hSy) (hM := own_cpa l Z a0 hw [] y j mm zc k n2 g sv hsv hp1 n0 zs1 hj hkm hn2 hzc hSy f1_0 f1_1 f1_2 f1_3 f1_4) (W := 0) (pc := 26) (Ls := #[rv x, rv y, iv j, iv (own_cpt f n k), s4]) (argsL := [(.int j)]) (rest := []) (st0 := [(.int j), (.ref y)]) (by rw [hml]; rfl) (lenOf own_pd0 rfl) rfl (Nat.le_of_eq rfl) (hb hby own_d6_26) (by decide) (by decide) (by decide) (by decide) ?_
      intro v9 T9 L9 s X9 hZ hown hI9 hvm9 hhp9 hWw9 hQ9
      obtain ⟨rfl, Nq9, hh9⟩ := hQ9
      have N9 := Fr.app N8 Nq9
      show own_Ends p e below s _ _ _ (own_F T9 m 29 #[rv x, rv y, iv j, iv (own_cpt f n k), s4] [(.int (own_cpt g n2 k))])
      refine own_g (own_F T9 m 31 #[rv x, rv y, iv j, iv (own_cpt f n k), iv (own_cpt g n2 k)] []) (fun _ z_ => XS.istore X9.here hx rfl (hb hby own_d6_29) rfl (l' := #[rv x, rv y, iv j, iv (own_cpt f n k), iv (own_cpt g n2 k)]) (own_st1 rfl hs4 rfl rfl) z_) ?_
      refine own_g (own_F T9 m 32 #[rv x, rv y, iv j, iv (own_cpt f n k), iv (own_cpt g n2 k)] [(.int (own_cpt f n k))]) (fun _ z_ => XS.iloadN X9.here hx rfl (hb hby own_d6_31) rfl z_) ?_
      refine own_g (own_F T9 m 34 #[rv x, rv y, iv j, iv (own_cpt f n k), iv (own_cpt g n2 k)] [(.int (own_cpt g n2 k)), (.int (own_cpt f n k))]) (fun _ z_ => XS.iload X9.here hx rfl (hb hby own_d6_32) rfl z_) ?_
      by_cases c34 : (own_cpt f n k) = (own_cpt g n2 k)
      · -- pc 34: (own_cpt f n k) = (own_cpt g n2 k)
       refine own_g (own_F T9 m 44 #[rv x, rv y, iv j, iv (own_cpt f n k), iv (own_cpt g n2 k)] []) (fun _ z_ => XS.icmpYes X9.here hx rfl (pc0 := 34) (pc' := 44) rfl (hb hby own_d6_34) rfl (teq c34).1 (by decide) (by decide) z_) ?_
       refine own_g (own_F T9 m 45 #[rv x, rv y, iv j, iv (own_cpt f n k), iv (own_cpt g n2 k)] [(.int j)]) (fun _ z_ => XS.iloadN X9.here hx rfl (hb hby own_d6_44) rfl z_) ?_
       refine own_g (own_F T9 m 46 #[rv x, rv y, iv j, iv (own_cpt f n k), iv (own_cpt g n2 k)] [(.int (own_cpt f n k)), (.int j)]) (fun _ z_ => XS.iloadN X9.here hx rfl (hb hby own_d6_45) rfl z_) ?_
       obtain ⟨rc, hrc⟩ : ∃ r_ : Int32, r_ = if own_cpt f n k < (65536 : Int32) then 1 else 2 := ⟨_, rfl⟩
       refine own_callS (y := (⟨"java/lang/Character", "charCount", "(I)I"⟩ : MethodName)) X9 hx hZ hown (own_w hw 131) (own_w hw 132) (own_w hw 116) (own_w hw 133) (by decide) hh9 (hM := own_cc l Z a0 hw [] (own_cpt f n k) rc hp1 n0 zs1 hrc) (W := 1) (pc := 46) (Ls := #[rv x, rv y, iv j, iv (own_cpt f n k), iv (own_cpt g n2 k)]) (argsL := [(.int (own_cpt f n k))]) (rest := [(.int j)]) (st0 := [(.int (own_cpt f n k)), (.int j)]) (by rw [hml]; rfl) (lenOf own_pd0 rfl) rfl (Nat.le_of_eq rfl) (hb hby own_d6_46) (by decide) (by decide) (by decide) (by decide) ?_
       intro v10 T10 L10 s X10 hZ hown hI10 hvm10 hhp10 hWw10 hQ10
       obtain ⟨rfl, Nq10, hh10⟩ := hQ10
       have N10 := Fr.app N9 Nq10
       show own_Ends p e below s _ _ _ (own_F T10 m 49 #[rv x, rv y, iv j, iv (own_cpt f n k), iv (own_cpt g n2 k)] [(.int rc), (.int j)])
       have hrw := own_ccw (hfr k hkn) hrc
       subst hrw
       refine own_g (own_F T10 m 50 #[rv x, rv y, iv j, iv (own_cpt f n k), iv (own_cpt g n2 k)] [(.int (j + (own_wi f n k)))]) (fun _ z_ => XS.iadd X10.here hx rfl (hb hby own_d6_49) rfl z_) ?_
       refine own_g (own_F T10 m 51 #[rv x, rv y, iv (j + (own_wi f n k)), iv (own_cpt f n k), iv (own_cpt g n2 k)] []) (fun _ z_ => XS.istoreN X10.here hx rfl (hb hby own_d6_50) rfl (l' := #[rv x, rv y, iv (j + (own_wi f n k)), iv (own_cpt f n k), iv (own_cpt g n2 k)]) rfl z_) ?_
       refine own_g (own_F T10 m 2 #[rv x, rv y, iv (j + (own_wi f n k)), iv (own_cpt f n k), iv (own_cpt g n2 k)] []) (fun _ z_ => XS.goto X10.here hx rfl (pc0 := 51) (pc' := 2) rfl (hb hby own_d6_51) (by decide) (by decide) z_) ?_
       have hw12 := own_wd12 f n k
       exact ih (k + own_wd f n k) (j + (own_wi f n k)) _ _ T10 _ _ s hZ hown X10 hh10 N10 zs1 zz1 f1_0 f1_1 f1_2 f1_3 f1_4 hSx hSy (by omega) (by omega) (own_addw f n k hj (by omega)) (One.val rfl) (One.val rfl) hq (own_cr_eq hR ⟨hkn, hkm⟩ c34)
      · -- pc 34: not (own_cpt f n k) = (own_cpt g n2 k)
       refine own_g (own_F T9 m 37 #[rv x, rv y, iv j, iv (own_cpt f n k), iv (own_cpt g n2 k)] []) (fun _ z_ => XS.icmpNo X9.here hx rfl (hb hby own_d6_34) rfl (feq c34).1 z_) ?_
       refine own_g (own_F T9 m 38 #[rv x, rv y, iv j, iv (own_cpt f n k), iv (own_cpt g n2 k)] [(.int (own_cpt f n k))]) (fun _ z_ => XS.iloadN X9.here hx rfl (hb hby own_d6_37) rfl z_) ?_
       refine own_g (own_F T9 m 40 #[rv x, rv y, iv j, iv (own_cpt f n k), iv (own_cpt g n2 k)] [(.int (own_cpt g n2 k)), (.int (own_cpt f n k))]) (fun _ z_ => XS.iload X9.here hx rfl (hb hby own_d6_38) rfl z_) ?_
       refine own_callS (y := (⟨"java/lang/Integer", "compare", "(II)I"⟩ : MethodName)) X9 hx hZ hown (own_w hw 47) (own_w hw 48) (own_w hw 49) (own_w hw 50) (by decide) hh9 (hM := own_icmp l Z a0 hw [] (own_cpt f n k) (own_cpt g n2 k) hp1 n0 zs1) (W := 0) (pc := 40) (Ls := #[rv x, rv y, iv j, iv (own_cpt f n k), iv (own_cpt g n2 k)]) (argsL := [(.int (own_cpt f n k)), (.int (own_cpt g n2 k))]) (rest := []) (st0 := [(.int (own_cpt g n2 k)), (.int (own_cpt f n k))]) (by rw [hml]; rfl) (lenOf own_pd18 rfl) rfl (Nat.le_of_eq rfl) (hb hby own_d6_40) (by decide) (by decide) (by decide) (by decide) ?_
       intro v11 T11 L11 s X11 hZ hown hI11 hvm11 hhp11 hWw11 hQ11
       obtain ⟨rfl, Nq11, hh11⟩ := hQ11
       have N11 := Fr.app N9 Nq11
       show own_Ends p e below s _ _ _ (own_F T11 m 43 #[rv x, rv y, iv j, iv (own_cpt f n k), iv (own_cpt g n2 k)] [(.int (own_cm (own_cpt f n k) (own_cpt g n2 k)))])
       refine own_ret (t := .int) X11 hx hlk hrt rfl (Or.inl ⟨rfl, by simp, _, rfl⟩) (hb hby own_d6_43) (by decide) (by decide) ?_
       refine ⟨congrArg (fun z => some (Value.int z)) ?_, N11, hh11.trans hq⟩
       exact own_cr_ne hR ⟨hkn, hkm⟩ c34
     · -- pc 15: not j < mm
      refine own_g (own_F T7 m 54 #[rv x, rv y, iv j, s3, s4] []) (fun _ z_ => XS.icmpYes X7.here hx rfl (pc0 := 15) (pc' := 54) rfl (hb hby own_d6_15) rfl (flt c15).2.1 (by decide) (by decide) z_) ?_
      refine own_g (own_F T7 m 55 #[rv x, rv y, iv j, s3, s4] [(.ref x)]) (fun _ z_ => XS.aloadN X7.here hx rfl (hb hby own_d6_54) rfl rfl z_) ?_
      refine own_callV (C := "java/lang/String") (y := (⟨"java/lang/String", "length", "()I"⟩ : MethodName)) (b := x) X7 hx hZ hown (own_w hw 36) (own_w hw 37) (own_w hw 39) (own_w hw 38) (own_w hw 40) (own_w hw 13) (by decide) hh7 (own_StrE hSx) (hM := own_slen l Z a0 hw [] x n nn zc f hp1 n0 zs1 hn hzc hSx f1_0) (W := 0) (pc := 55) (Ls := #[rv x, rv y, iv j, s3, s4]) (argsL := []) (rest := []) (st0 := [(.ref x)]) (by rw [hml]; rfl) (lenOf own_pd17 rfl) rfl (Nat.le_of_eq rfl) (hb hby own_d6_55) (by decide) (by decide) (by decide) (by decide) ?_
      intro v12 T12 L12 s X12 hZ hown hI12 hvm12 hhp12 hWw12 hQ12
      obtain ⟨rfl, Nq12, hh12⟩ := hQ12
      have N12 := Fr.app N7 Nq12
      show own_Ends p e below s _ _ _ (own_F T12 m 58 #[rv x, rv y, iv j, s3, s4] [(.int nn)])
      refine own_g (own_F T12 m 59 #[rv x, rv y, iv j, s3, s4] [(.ref y), (.int nn)]) (fun _ z_ => XS.aloadN X12.here hx rfl (hb hby own_d6_58) rfl rfl z_) ?_
      refine own_callV (C := "java/lang/String") (y := (⟨"java/lang/String", "length", "()I"⟩ : MethodName)) (b := y) X12 hx hZ hown (own_w hw 36) (own_w hw 37) (own_w hw 39) (own_w hw 38) (own_w hw 40) (own_w hw 13) (by decide) hh12 (own_StrE hSy) (hM := own_slen l Z a0 hw [] y n2 mm zc g hp1 n0 zs1 hn2 hzc hSy f1_0) (W := 1) (pc := 59) (Ls := #[rv x, rv y, iv j, s3, s4]) (argsL := []) (rest := [(.int nn)]) (st0 := [(.ref y), (.int nn)]) (by rw [hml]; rfl) (lenOf own_pd17 rfl) rfl (Nat.le_of_eq rfl) (hb hby own_d6_59) (by decide) (by decide) (by decide) (by decide) ?_
      intro v13 T13 L13 s X13 hZ hown hI13 hvm13 hhp13 hWw13 hQ13
      obtain ⟨rfl, Nq13, hh13⟩ := hQ13
      have N13 := Fr.app N12 Nq13
      show own_Ends p e below s _ _ _ (own_F T13 m 62 #[rv x, rv y, iv j, s3, s4] [(.int mm), (.int nn)])
      refine own_callS (y := (⟨"java/lang/Integer", "compare", "(II)I"⟩ : MethodName)) X13 hx hZ hown (own_w hw 47) (own_w hw 48) (own_w hw 49) (own_w hw 50) (by decide) hh13 (hM := own_icmp l Z a0 hw [] nn mm hp1 n0 zs1) (W := 0) (pc := 62) (Ls := #[rv x, rv y, iv j, s3, s4]) (argsL := [(.int nn), (.int mm)]) (rest := []) (st0 := [(.int mm), (.int nn)]) (by rw [hml]; rfl) (lenOf own_pd18 rfl) rfl (Nat.le_of_eq rfl) (hb hby own_d6_62) (by decide) (by decide) (by decide) (by decide) ?_
      intro v14 T14 L14 s X14 hZ hown hI14 hvm14 hhp14 hWw14 hQ14
      obtain ⟨rfl, Nq14, hh14⟩ := hQ14
      have N14 := Fr.app N13 Nq14
      show own_Ends p e below s _ _ _ (own_F T14 m 65 #[rv x, rv y, iv j, s3, s4] [(.int (own_cm nn mm))])
      refine own_ret (t := .int) X14 hx hlk hrt rfl (Or.inl ⟨rfl, by simp, _, rfl⟩) (hb hby own_d6_65) (by decide) (by decide) ?_
      refine ⟨congrArg (fun z => some (Value.int z)) ?_, N14, hh14.trans hq⟩
      exact own_cr_stop hR (fun q => c15 (hjm.mpr q.2))
    · -- pc 7: not j < nn
     refine own_g (own_F T6 m 54 #[rv x, rv y, iv j, s3, s4] []) (fun _ z_ => XS.icmpYes X6.here hx rfl (pc0 := 7) (pc' := 54) rfl (hb hby own_d6_7) rfl (flt c7).2.1 (by decide) (by decide) z_) ?_
     refine own_g (own_F T6 m 55 #[rv x, rv y, iv j, s3, s4] [(.ref x)]) (fun _ z_ => XS.aloadN X6.here hx rfl (hb hby own_d6_54) rfl rfl z_) ?_
     refine own_callV (C := "java/lang/String") (y := (⟨"java/lang/String", "length", "()I"⟩ : MethodName)) (b := x) X6 hx hZ hown (own_w hw 36) (own_w hw 37) (own_w hw 39) (own_w hw 38) (own_w hw 40) (own_w hw 13) (by decide) hh6 (own_StrE hSx) (hM := own_slen l Z a0 hw [] x n nn zc f hp1 n0 zs1 hn hzc hSx f1_0) (W := 0) (pc := 55) (Ls := #[rv x, rv y, iv j, s3, s4]) (argsL := []) (rest := []) (st0 := [(.ref x)]) (by rw [hml]; rfl) (lenOf own_pd17 rfl) rfl (Nat.le_of_eq rfl) (hb hby own_d6_55) (by decide) (by decide) (by decide) (by decide) ?_
     intro v15 T15 L15 s X15 hZ hown hI15 hvm15 hhp15 hWw15 hQ15
     obtain ⟨rfl, Nq15, hh15⟩ := hQ15
     have N15 := Fr.app N6 Nq15
     show own_Ends p e below s _ _ _ (own_F T15 m 58 #[rv x, rv y, iv j, s3, s4] [(.int nn)])
     refine own_g (own_F T15 m 59 #[rv x, rv y, iv j, s3, s4] [(.ref y), (.int nn)]) (fun _ z_ => XS.aloadN X15.here hx rfl (hb hby own_d6_58) rfl rfl z_) ?_
     refine own_callV (C := "java/lang/String") (y := (⟨"java/lang/String", "length", "()I"⟩ : MethodName)) (b := y) X15 hx hZ hown (own_w hw 36) (own_w hw 37) (own_w hw 39) (own_w hw 38) (own_w hw 40) (own_w hw 13) (by decide) hh15 (own_StrE hSy) (hM := own_slen l Z a0 hw [] y n2 mm zc g hp1 n0 zs1 hn2 hzc hSy f1_0) (W := 1) (pc := 59) (Ls := #[rv x, rv y, iv j, s3, s4]) (argsL := []) (rest := [(.int nn)]) (st0 := [(.ref y), (.int nn)]) (by rw [hml]; rfl) (lenOf own_pd17 rfl) rfl (Nat.le_of_eq rfl) (hb hby own_d6_59) (by decide) (by decide) (by decide) (by decide) ?_
     intro v16 T16 L16 s X16 hZ hown hI16 hvm16 hhp16 hWw16 hQ16
     obtain ⟨rfl, Nq16, hh16⟩ := hQ16
     have N16 := Fr.app N15 Nq16
     show own_Ends p e below s _ _ _ (own_F T16 m 62 #[rv x, rv y, iv j, s3, s4] [(.int mm), (.int nn)])
     refine own_callS (y := (⟨"java/lang/Integer", "compare", "(II)I"⟩ : MethodName)) X16 hx hZ hown (own_w hw 47) (own_w hw 48) (own_w hw 49) (own_w hw 50) (by decide) hh16 (hM := own_icmp l Z a0 hw [] nn mm hp1 n0 zs1) (W := 0) (pc := 62) (Ls := #[rv x, rv y, iv j, s3, s4]) (argsL := [(.int nn), (.int mm)]) (rest := []) (st0 := [(.int mm), (.int nn)]) (by rw [hml]; rfl) (lenOf own_pd18 rfl) rfl (Nat.le_of_eq rfl) (hb hby own_d6_62) (by decide) (by decide) (by decide) (by decide) ?_
     intro v17 T17 L17 s X17 hZ hown hI17 hvm17 hhp17 hWw17 hQ17
     obtain ⟨rfl, Nq17, hh17⟩ := hQ17
     have N17 := Fr.app N16 Nq17
     show own_Ends p e below s _ _ _ (own_F T17 m 65 #[rv x, rv y, iv j, s3, s4] [(.int (own_cm nn mm))])
     refine own_ret (t := .int) X17 hx hlk hrt rfl (Or.inl ⟨rfl, by simp, _, rfl⟩) (hb hby own_d6_65) (by decide) (by decide) ?_
     refine ⟨congrArg (fun z => some (Value.int z)) ?_, N17, hh17.trans hq⟩
     exact own_cr_stop hR (fun q => c7 (hjn.mpr q.1))
  refine own_g (own_F T0 m 1 #[rv x, rv y, .unset, .unset, .unset] [(.int 0)]) (fun _ z_ => XS.iconst X0.here hx rfl (hb hby own_d6_0) z_) ?_
  refine own_g (own_F T0 m 2 #[rv x, rv y, iv 0, .unset, .unset] []) (fun _ z_ => XS.istoreN X0.here hx rfl (hb hby own_d6_1) rfl (l' := #[rv x, rv y, iv 0, .unset, .unset]) rfl z_) ?_
  exact J 3 0 (0 : Int32) _ _ T0 _ _ s hZ hown X0 e0 N0 Z0 (Nat.le_refl h0.size) S_cs S_sf S_ad S_hi S_lo hSx hSy (by omega) (by omega) rfl (One.u) (One.u) rfl rfl
set_option maxRecDepth 65536 in
set_option maxHeartbeats 40000000 in
theorem own_pa (l : Launch) (Z : State) (a0 : Array Value) (hw : ∀ d ∈ tables_1, d.before a0 Z = true) (ws : List Jvm.Cond) (a : Addr) (n k : Nat) (nn j : Int32) (f : Nat → Int32) (r : Int32) (h0 : Heap) (n0 : Nat) (Z0 : n0 ≤ h0.size) (Aa : own_A Z h0 a .char 3 (fun i => .int (f i))) (hn : nn.toInt = (n : Int)) (hj : j.toInt = (k : Int)) (hk : k < n) (hn3 : n ≤ 3) (hr : (r = 1 ∧ own_pr f n k) ∨ (r = 0 ∧ ¬ own_pr f n k)) :
    own_Met l Z (⟨"com/example/kunci/kunci/CodePointsComparePinLaw", "pairAt", "([CII)Z"⟩ : MethodName) method_4_code 3 (some .boolean) ws ({ frames := 0, cells := 0, slots := 0, locals := 0 } : Room) #[(.ref a), (.int nn), (.int j)] h0 (fun v h L => v = some (.int r) ∧ Fr n0 L ∧ h = h0) := by
  refine own_body own_pn27 (fun m => mkF m 0 #[rv a, iv nn, iv j] []) (fun m => own_ef_own_pa m a nn j) ?_
  intro p e s m below meth c T0 hx hby hml hlk hrt hZ hown hnm X0 e0
  have hown : s.vm.findClass "com/example/kunci/kunci/CodePointsComparePinLaw" = some m.cls := hown
  have N0 := Fr.nil n0
  have hk1 := own_k1i hj hn (by omega)
  refine own_g (own_F T0 m 1 #[rv a, iv nn, iv j] [(.ref a)]) (fun _ z_ => XS.aloadN X0.here hx rfl (hb hby own_d29_0) rfl rfl z_) ?_
  refine own_g (own_F T0 m 2 #[rv a, iv nn, iv j] [(.int j), (.ref a)]) (fun _ z_ => XS.iloadN X0.here hx rfl (hb hby own_d29_1) rfl z_) ?_
  refine own_cald X0 hx hZ e0 Aa k hj (by omega) (hb hby own_d29_2) ?_
  show own_Ends p e below s _ _ _ (own_F T0 m 3 #[rv a, iv nn, iv j] [(.int (f k))])
  refine own_pre (S' := (own_F T0 m 5 #[rv a, iv nn, iv j] [(.int 55296), (.int (f k))])) (X0.ldcInt hx hown (mvT hZ (own_w hw 7)) (g := (mkF m 3 #[rv a, iv nn, iv j] [(.int (f k))])) rfl (hb hby own_d29_3)) ?_
  by_cases c5 : (f k) < (55296 : Int32)
  · -- pc 5: (f k) < (55296 : Int32)
   refine own_g (own_F T0 m 47 #[rv a, iv nn, iv j] []) (fun _ z_ => XS.icmpYes X0.here hx rfl (pc0 := 5) (pc' := 47) rfl (hb hby own_d29_5) rfl (tlt c5).1 (by decide) (by decide) z_) ?_
   refine own_g (own_F T0 m 48 #[rv a, iv nn, iv j] [(.int 0)]) (fun _ z_ => XS.iconst X0.here hx rfl (hb hby own_d29_47) z_) ?_
   refine own_ret (t := .boolean) X0 hx hlk hrt rfl (Or.inl ⟨rfl, by simp, _, rfl⟩) (hb hby own_d29_48) (by decide) (by decide) ?_
   refine ⟨congrArg (fun z => some (Value.int z)) ?_, N0, e0⟩
   simp only [Int32.lt_iff_toInt_lt, ← Int32.toInt_inj, Int32.reduceToInt] at c5
   rcases hr with ⟨rfl, q⟩ | ⟨rfl, q⟩ <;> first | rfl | (exfalso; omega)
  · -- pc 5: not (f k) < (55296 : Int32)
   refine own_g (own_F T0 m 8 #[rv a, iv nn, iv j] []) (fun _ z_ => XS.icmpNo X0.here hx rfl (hb hby own_d29_5) rfl (flt c5).1 z_) ?_
   refine own_g (own_F T0 m 9 #[rv a, iv nn, iv j] [(.ref a)]) (fun _ z_ => XS.aloadN X0.here hx rfl (hb hby own_d29_8) rfl rfl z_) ?_
   refine own_g (own_F T0 m 10 #[rv a, iv nn, iv j] [(.int j), (.ref a)]) (fun _ z_ => XS.iloadN X0.here hx rfl (hb hby own_d29_9) rfl z_) ?_
   refine own_cald X0 hx hZ e0 Aa k hj (by omega) (hb hby own_d29_10) ?_
   show own_Ends p e below s _ _ _ (own_F T0 m 11 #[rv a, iv nn, iv j] [(.int (f k))])
   refine own_pre (S' := (own_F T0 m 13 #[rv a, iv nn, iv j] [(.int 56319), (.int (f k))])) (X0.ldcInt hx hown (mvT hZ (own_w hw 129)) (g := (mkF m 11 #[rv a, iv nn, iv j] [(.int (f k))])) rfl (hb hby own_d29_11)) ?_
   by_cases c13 : (56319 : Int32) < (f k)
   · -- pc 13: (56319 : Int32) < (f k)
    refine own_g (own_F T0 m 47 #[rv a, iv nn, iv j] []) (fun _ z_ => XS.icmpYes X0.here hx rfl (pc0 := 13) (pc' := 47) rfl (hb hby own_d29_13) rfl (tlt c13).2.2.1 (by decide) (by decide) z_) ?_
    refine own_g (own_F T0 m 48 #[rv a, iv nn, iv j] [(.int 0)]) (fun _ z_ => XS.iconst X0.here hx rfl (hb hby own_d29_47) z_) ?_
    refine own_ret (t := .boolean) X0 hx hlk hrt rfl (Or.inl ⟨rfl, by simp, _, rfl⟩) (hb hby own_d29_48) (by decide) (by decide) ?_
    refine ⟨congrArg (fun z => some (Value.int z)) ?_, N0, e0⟩
    simp only [Int32.lt_iff_toInt_lt, ← Int32.toInt_inj, Int32.reduceToInt] at c5 c13
    rcases hr with ⟨rfl, q⟩ | ⟨rfl, q⟩ <;> first | rfl | (exfalso; omega)
   · -- pc 13: not (56319 : Int32) < (f k)
    refine own_g (own_F T0 m 16 #[rv a, iv nn, iv j] []) (fun _ z_ => XS.icmpNo X0.here hx rfl (hb hby own_d29_13) rfl (flt c13).2.2.1 z_) ?_
    refine own_g (own_F T0 m 17 #[rv a, iv nn, iv j] [(.int j)]) (fun _ z_ => XS.iloadN X0.here hx rfl (hb hby own_d29_16) rfl z_) ?_
    refine own_g (own_F T0 m 18 #[rv a, iv nn, iv j] [(.int 1), (.int j)]) (fun _ z_ => XS.iconst X0.here hx rfl (hb hby own_d29_17) z_) ?_
    refine own_g (own_F T0 m 19 #[rv a, iv nn, iv j] [(.int (j + (1 : Int32)))]) (fun _ z_ => XS.iadd X0.here hx rfl (hb hby own_d29_18) rfl z_) ?_
    refine own_g (own_F T0 m 20 #[rv a, iv nn, iv j] [(.int nn), (.int (j + (1 : Int32)))]) (fun _ z_ => XS.iloadN X0.here hx rfl (hb hby own_d29_19) rfl z_) ?_
    by_cases c20 : (j + (1 : Int32)) < nn
    · -- pc 20: (j + (1 : Int32)) < nn
     refine own_g (own_F T0 m 23 #[rv a, iv nn, iv j] []) (fun _ z_ => XS.icmpNo X0.here hx rfl (hb hby own_d29_20) rfl (tlt c20).2.1 z_) ?_
     refine own_g (own_F T0 m 24 #[rv a, iv nn, iv j] [(.ref a)]) (fun _ z_ => XS.aloadN X0.here hx rfl (hb hby own_d29_23) rfl rfl z_) ?_
     refine own_g (own_F T0 m 25 #[rv a, iv nn, iv j] [(.int j), (.ref a)]) (fun _ z_ => XS.iloadN X0.here hx rfl (hb hby own_d29_24) rfl z_) ?_
     refine own_g (own_F T0 m 26 #[rv a, iv nn, iv j] [(.int 1), (.int j), (.ref a)]) (fun _ z_ => XS.iconst X0.here hx rfl (hb hby own_d29_25) z_) ?_
     refine own_g (own_F T0 m 27 #[rv a, iv nn, iv j] [(.int (j + (1 : Int32))), (.ref a)]) (fun _ z_ => XS.iadd X0.here hx rfl (hb hby own_d29_26) rfl z_) ?_
     refine own_cald X0 hx hZ e0 Aa (k + 1) (own_add1 hj (by omega)) (by have := hk1.mp c20; omega) (hb hby own_d29_27) ?_
     show own_Ends p e below s _ _ _ (own_F T0 m 28 #[rv a, iv nn, iv j] [(.int (f (k + 1)))])
     refine own_pre (S' := (own_F T0 m 30 #[rv a, iv nn, iv j] [(.int 56320), (.int (f (k + 1)))])) (X0.ldcInt hx hown (mvT hZ (own_w hw 130)) (g := (mkF m 28 #[rv a, iv nn, iv j] [(.int (f (k + 1)))])) rfl (hb hby own_d29_28)) ?_
     by_cases c30 : (f (k + 1)) < (56320 : Int32)
     · -- pc 30: (f (k + 1)) < (56320 : Int32)
      refine own_g (own_F T0 m 47 #[rv a, iv nn, iv j] []) (fun _ z_ => XS.icmpYes X0.here hx rfl (pc0 := 30) (pc' := 47) rfl (hb hby own_d29_30) rfl (tlt c30).1 (by decide) (by decide) z_) ?_
      refine own_g (own_F T0 m 48 #[rv a, iv nn, iv j] [(.int 0)]) (fun _ z_ => XS.iconst X0.here hx rfl (hb hby own_d29_47) z_) ?_
      refine own_ret (t := .boolean) X0 hx hlk hrt rfl (Or.inl ⟨rfl, by simp, _, rfl⟩) (hb hby own_d29_48) (by decide) (by decide) ?_
      refine ⟨congrArg (fun z => some (Value.int z)) ?_, N0, e0⟩
      rw [hk1] at c20
      simp only [Int32.lt_iff_toInt_lt, ← Int32.toInt_inj, Int32.reduceToInt] at c5 c13 c30
      rcases hr with ⟨rfl, q⟩ | ⟨rfl, q⟩ <;> first | rfl | (exfalso; omega)
     · -- pc 30: not (f (k + 1)) < (56320 : Int32)
      refine own_g (own_F T0 m 33 #[rv a, iv nn, iv j] []) (fun _ z_ => XS.icmpNo X0.here hx rfl (hb hby own_d29_30) rfl (flt c30).1 z_) ?_
      refine own_g (own_F T0 m 34 #[rv a, iv nn, iv j] [(.ref a)]) (fun _ z_ => XS.aloadN X0.here hx rfl (hb hby own_d29_33) rfl rfl z_) ?_
      refine own_g (own_F T0 m 35 #[rv a, iv nn, iv j] [(.int j), (.ref a)]) (fun _ z_ => XS.iloadN X0.here hx rfl (hb hby own_d29_34) rfl z_) ?_
      refine own_g (own_F T0 m 36 #[rv a, iv nn, iv j] [(.int 1), (.int j), (.ref a)]) (fun _ z_ => XS.iconst X0.here hx rfl (hb hby own_d29_35) z_) ?_
      refine own_g (own_F T0 m 37 #[rv a, iv nn, iv j] [(.int (j + (1 : Int32))), (.ref a)]) (fun _ z_ => XS.iadd X0.here hx rfl (hb hby own_d29_36) rfl z_) ?_
      refine own_cald X0 hx hZ e0 Aa (k + 1) (own_add1 hj (by omega)) (by have := hk1.mp c20; omega) (hb hby own_d29_37) ?_
      show own_Ends p e below s _ _ _ (own_F T0 m 38 #[rv a, iv nn, iv j] [(.int (f (k + 1)))])
      refine own_pre (S' := (own_F T0 m 40 #[rv a, iv nn, iv j] [(.int 57343), (.int (f (k + 1)))])) (X0.ldcInt hx hown (mvT hZ (own_w hw 135)) (g := (mkF m 38 #[rv a, iv nn, iv j] [(.int (f (k + 1)))])) rfl (hb hby own_d29_38)) ?_
      by_cases c40 : (57343 : Int32) < (f (k + 1))
      · -- pc 40: (57343 : Int32) < (f (k + 1))
       refine own_g (own_F T0 m 47 #[rv a, iv nn, iv j] []) (fun _ z_ => XS.icmpYes X0.here hx rfl (pc0 := 40) (pc' := 47) rfl (hb hby own_d29_40) rfl (tlt c40).2.2.1 (by decide) (by decide) z_) ?_
       refine own_g (own_F T0 m 48 #[rv a, iv nn, iv j] [(.int 0)]) (fun _ z_ => XS.iconst X0.here hx rfl (hb hby own_d29_47) z_) ?_
       refine own_ret (t := .boolean) X0 hx hlk hrt rfl (Or.inl ⟨rfl, by simp, _, rfl⟩) (hb hby own_d29_48) (by decide) (by decide) ?_
       refine ⟨congrArg (fun z => some (Value.int z)) ?_, N0, e0⟩
       rw [hk1] at c20
       simp only [Int32.lt_iff_toInt_lt, ← Int32.toInt_inj, Int32.reduceToInt] at c5 c13 c30 c40
       rcases hr with ⟨rfl, q⟩ | ⟨rfl, q⟩ <;> first | rfl | (exfalso; omega)
      · -- pc 40: not (57343 : Int32) < (f (k + 1))
       refine own_g (own_F T0 m 43 #[rv a, iv nn, iv j] []) (fun _ z_ => XS.icmpNo X0.here hx rfl (hb hby own_d29_40) rfl (flt c40).2.2.1 z_) ?_
       refine own_g (own_F T0 m 44 #[rv a, iv nn, iv j] [(.int 1)]) (fun _ z_ => XS.iconst X0.here hx rfl (hb hby own_d29_43) z_) ?_
       refine own_g (own_F T0 m 48 #[rv a, iv nn, iv j] [(.int 1)]) (fun _ z_ => XS.goto X0.here hx rfl (pc0 := 44) (pc' := 48) rfl (hb hby own_d29_44) (by decide) (by decide) z_) ?_
       refine own_ret (t := .boolean) X0 hx hlk hrt rfl (Or.inl ⟨rfl, by simp, _, rfl⟩) (hb hby own_d29_48) (by decide) (by decide) ?_
       refine ⟨congrArg (fun z => some (Value.int z)) ?_, N0, e0⟩
       rw [hk1] at c20
       simp only [Int32.lt_iff_toInt_lt, ← Int32.toInt_inj, Int32.reduceToInt] at c5 c13 c30 c40
       rcases hr with ⟨rfl, q⟩ | ⟨rfl, q⟩ <;> first | rfl | (exfalso; omega)
    · -- pc 20: not (j + (1 : Int32)) < nn
     refine own_g (own_F T0 m 47 #[rv a, iv nn, iv j] []) (fun _ z_ => XS.icmpYes X0.here hx rfl (pc0 := 20) (pc' := 47) rfl (hb hby own_d29_20) rfl (flt c20).2.1 (by decide) (by decide) z_) ?_
     refine own_g (own_F T0 m 48 #[rv a, iv nn, iv j] [(.int 0)]) (fun _ z_ => XS.iconst X0.here hx rfl (hb hby own_d29_47) z_) ?_
     refine own_ret (t := .boolean) X0 hx hlk hrt rfl (Or.inl ⟨rfl, by simp, _, rfl⟩) (hb hby own_d29_48) (by decide) (by decide) ?_
     refine ⟨congrArg (fun z => some (Value.int z)) ?_, N0, e0⟩
     rw [hk1] at c20
     simp only [Int32.lt_iff_toInt_lt, ← Int32.toInt_inj, Int32.reduceToInt] at c5 c13
     rcases hr with ⟨rfl, q⟩ | ⟨rfl, q⟩ <;> first | rfl | (exfalso; omega)
set_option maxRecDepth 65536 in
set_option maxHeartbeats 40000000 in
theorem own_cpAt (l : Launch) (Z : State) (a0 : Array Value) (hw : ∀ d ∈ tables_1, d.before a0 Z = true) (ws : List Jvm.Cond) (a : Addr) (n k : Nat) (nn j : Int32) (f : Nat → Int32) (h0 : Heap) (n0 : Nat) (Z0 : n0 ≤ h0.size) (Aa : own_A Z h0 a .char 3 (fun i => .int (f i))) (hn : nn.toInt = (n : Int)) (hj : j.toInt = (k : Int)) (hk : k < n) (hn3 : n ≤ 3) :
    own_Met l Z (⟨"com/example/kunci/kunci/CodePointsComparePinLaw", "cpAt", "([CII)I"⟩ : MethodName) method_5_code 3 (some .int) ws ({ frames := 1, cells := 0, slots := 0, locals := 14 } : Room) #[(.ref a), (.int nn), (.int j)] h0 (fun v h L => v = some (.int (own_cpt f n k)) ∧ Fr n0 L ∧ h = h0) := by
  refine own_body own_pn28 (fun m => mkF m 0 #[rv a, iv nn, iv j] []) (fun m => own_ef_own_cpAt m a nn j) ?_
  intro p e s m below meth c T0 hx hby hml hlk hrt hZ hown hnm X0 e0
  have hown : s.vm.findClass "com/example/kunci/kunci/CodePointsComparePinLaw" = some m.cls := hown
  have N0 := Fr.nil n0
  obtain ⟨r, hr⟩ := own_dec (own_pr f n k)
  refine own_g (own_F T0 m 1 #[rv a, iv nn, iv j] [(.ref a)]) (fun _ z_ => XS.aloadN X0.here hx rfl (hb hby own_d28_0) rfl rfl z_) ?_
  refine own_g (own_F T0 m 2 #[rv a, iv nn, iv j] [(.int nn), (.ref a)]) (fun _ z_ => XS.iloadN X0.here hx rfl (hb hby own_d28_1) rfl z_) ?_
  refine own_g (own_F T0 m 3 #[rv a, iv nn, iv j] [(.int j), (.int nn), (.ref a)]) (fun _ z_ => XS.iloadN X0.here hx rfl (hb hby own_d28_2) rfl z_) ?_
  refine own_callS (y := (⟨"com/example/kunci/kunci/CodePointsComparePinLaw", "pairAt", "([CII)Z"⟩ : MethodName)) X0 hx hZ hown (own_w hw 123) (own_w hw 124) (own_w hw 3) (own_w hw 125) (by decide) e0 (hM := own_pa l Z a0 hw [] a n k nn j f r h0 n0 Z0 Aa hn hj hk hn3 hr) (W := 0) (pc := 3) (Ls := #[rv a, iv nn, iv j]) (argsL := [(.ref a), (.int nn), (.int j)]) (rest := []) (st0 := [(.int j), (.int nn), (.ref a)]) (by rw [hml]; rfl) (lenOf own_pd19 rfl) rfl (Nat.le_of_eq rfl) (hb hby own_d28_3) (by decide) (by decide) (by decide) (by decide) ?_
  intro v1 T1 L1 s X1 hZ hown hI1 hvm1 hhp1 hWw1 hQ1
  obtain ⟨rfl, Nq1, hh1⟩ := hQ1
  have N1 := Fr.app N0 Nq1
  show own_Ends p e below s _ _ _ (own_F T1 m 6 #[rv a, iv nn, iv j] [(.int r)])
  by_cases c6 : r = (0 : Int32)
  · -- pc 6: r = (0 : Int32)
   refine own_g (own_F T1 m 31 #[rv a, iv nn, iv j] []) (fun _ z_ => XS.ifYes X1.here hx rfl (pc0 := 6) (pc' := 31) rfl (hb hby own_d28_6) rfl ((if0 _ _).trans (teq c6).1) (by decide) (by decide) z_) ?_
   refine own_g (own_F T1 m 32 #[rv a, iv nn, iv j] [(.ref a)]) (fun _ z_ => XS.aloadN X1.here hx rfl (hb hby own_d28_31) rfl rfl z_) ?_
   refine own_g (own_F T1 m 33 #[rv a, iv nn, iv j] [(.int j), (.ref a)]) (fun _ z_ => XS.iloadN X1.here hx rfl (hb hby own_d28_32) rfl z_) ?_
   refine own_cald X1 hx hZ hh1 Aa k hj (by omega) (hb hby own_d28_33) ?_
   show own_Ends p e below s _ _ _ (own_F T1 m 34 #[rv a, iv nn, iv j] [(.int (f k))])
   refine own_ret (t := .int) X1 hx hlk hrt rfl (Or.inl ⟨rfl, by simp, _, rfl⟩) (hb hby own_d28_34) (by decide) (by decide) ?_
   exact ⟨congrArg (fun z => some (Value.int z)) (if_neg (own_r0' hr c6)).symm, N1, hh1⟩
  · -- pc 6: not r = (0 : Int32)
   refine own_g (own_F T1 m 9 #[rv a, iv nn, iv j] []) (fun _ z_ => XS.ifNo X1.here hx rfl (hb hby own_d28_6) rfl ((if0 _ _).trans (feq c6).1) z_) ?_
   refine own_g (own_F T1 m 10 #[rv a, iv nn, iv j] [(.ref a)]) (fun _ z_ => XS.aloadN X1.here hx rfl (hb hby own_d28_9) rfl rfl z_) ?_
   refine own_g (own_F T1 m 11 #[rv a, iv nn, iv j] [(.int j), (.ref a)]) (fun _ z_ => XS.iloadN X1.here hx rfl (hb hby own_d28_10) rfl z_) ?_
   refine own_cald X1 hx hZ hh1 Aa k hj (by omega) (hb hby own_d28_11) ?_
   show own_Ends p e below s _ _ _ (own_F T1 m 12 #[rv a, iv nn, iv j] [(.int (f k))])
   refine own_pre (S' := (own_F T1 m 14 #[rv a, iv nn, iv j] [(.int 55296), (.int (f k))])) (X1.ldcInt hx hown (mvT hZ (own_w hw 7)) (g := (mkF m 12 #[rv a, iv nn, iv j] [(.int (f k))])) rfl (hb hby own_d28_12)) ?_
   refine own_g (own_F T1 m 15 #[rv a, iv nn, iv j] [(.int ((f k) - (55296 : Int32)))]) (fun _ z_ => XS.isub X1.here hx rfl (hb hby own_d28_14) rfl z_) ?_
   refine own_g (own_F T1 m 17 #[rv a, iv nn, iv j] [(.int 10), (.int ((f k) - (55296 : Int32)))]) (fun _ z_ => XS.bipush X1.here hx rfl (hb hby own_d28_15) z_) ?_
   refine own_g (own_F T1 m 18 #[rv a, iv nn, iv j] [(.int (((f k) - (55296 : Int32)) <<< ((10 : Int32) &&& 31)))]) (fun _ z_ => XS.ishl X1.here hx rfl (hb hby own_d28_17) rfl z_) ?_
   refine own_g (own_F T1 m 19 #[rv a, iv nn, iv j] [(.ref a), (.int (((f k) - (55296 : Int32)) <<< ((10 : Int32) &&& 31)))]) (fun _ z_ => XS.aloadN X1.here hx rfl (hb hby own_d28_18) rfl rfl z_) ?_
   refine own_g (own_F T1 m 20 #[rv a, iv nn, iv j] [(.int j), (.ref a), (.int (((f k) - (55296 : Int32)) <<< ((10 : Int32) &&& 31)))]) (fun _ z_ => XS.iloadN X1.here hx rfl (hb hby own_d28_19) rfl z_) ?_
   refine own_g (own_F T1 m 21 #[rv a, iv nn, iv j] [(.int 1), (.int j), (.ref a), (.int (((f k) - (55296 : Int32)) <<< ((10 : Int32) &&& 31)))]) (fun _ z_ => XS.iconst X1.here hx rfl (hb hby own_d28_20) z_) ?_
   refine own_g (own_F T1 m 22 #[rv a, iv nn, iv j] [(.int (j + (1 : Int32))), (.ref a), (.int (((f k) - (55296 : Int32)) <<< ((10 : Int32) &&& 31)))]) (fun _ z_ => XS.iadd X1.here hx rfl (hb hby own_d28_21) rfl z_) ?_
   refine own_cald X1 hx hZ hh1 Aa (k + 1) (own_add1 hj (by omega)) (by have := (own_r1' hr c6).2.2.1; omega) (hb hby own_d28_22) ?_
   show own_Ends p e below s _ _ _ (own_F T1 m 23 #[rv a, iv nn, iv j] [(.int (f (k + 1))), (.int (((f k) - (55296 : Int32)) <<< ((10 : Int32) &&& 31)))])
   refine own_pre (S' := (own_F T1 m 25 #[rv a, iv nn, iv j] [(.int 56320), (.int (f (k + 1))), (.int (((f k) - (55296 : Int32)) <<< ((10 : Int32) &&& 31)))])) (X1.ldcInt hx hown (mvT hZ (own_w hw 130)) (g := (mkF m 23 #[rv a, iv nn, iv j] [(.int (f (k + 1))), (.int (((f k) - (55296 : Int32)) <<< ((10 : Int32) &&& 31)))])) rfl (hb hby own_d28_23)) ?_
   refine own_g (own_F T1 m 26 #[rv a, iv nn, iv j] [(.int ((f (k + 1)) - (56320 : Int32))), (.int (((f k) - (55296 : Int32)) <<< ((10 : Int32) &&& 31)))]) (fun _ z_ => XS.isub X1.here hx rfl (hb hby own_d28_25) rfl z_) ?_
   refine own_g (own_F T1 m 27 #[rv a, iv nn, iv j] [(.int ((((f k) - (55296 : Int32)) <<< ((10 : Int32) &&& 31)) + ((f (k + 1)) - (56320 : Int32))))]) (fun _ z_ => XS.iadd X1.here hx rfl (hb hby own_d28_26) rfl z_) ?_
   refine own_pre (S' := (own_F T1 m 29 #[rv a, iv nn, iv j] [(.int 65536), (.int ((((f k) - (55296 : Int32)) <<< ((10 : Int32) &&& 31)) + ((f (k + 1)) - (56320 : Int32))))])) (X1.ldcInt hx hown (mvT hZ (own_w hw 144)) (g := (mkF m 27 #[rv a, iv nn, iv j] [(.int ((((f k) - (55296 : Int32)) <<< ((10 : Int32) &&& 31)) + ((f (k + 1)) - (56320 : Int32))))])) rfl (hb hby own_d28_27)) ?_
   refine own_g (own_F T1 m 30 #[rv a, iv nn, iv j] [(.int (((((f k) - (55296 : Int32)) <<< ((10 : Int32) &&& 31)) + ((f (k + 1)) - (56320 : Int32))) + (65536 : Int32)))]) (fun _ z_ => XS.iadd X1.here hx rfl (hb hby own_d28_29) rfl z_) ?_
   refine own_ret (t := .int) X1 hx hlk hrt rfl (Or.inl ⟨rfl, by simp, _, rfl⟩) (hb hby own_d28_30) (by decide) (by decide) ?_
   exact ⟨congrArg (fun z => some (Value.int z)) (if_pos (own_r1' hr c6)).symm, N1, hh1⟩
set_option maxRecDepth 65536 in
set_option maxHeartbeats 40000000 in
theorem own_width (l : Launch) (Z : State) (a0 : Array Value) (hw : ∀ d ∈ tables_1, d.before a0 Z = true) (ws : List Jvm.Cond) (a : Addr) (n k : Nat) (nn j : Int32) (f : Nat → Int32) (h0 : Heap) (n0 : Nat) (Z0 : n0 ≤ h0.size) (Aa : own_A Z h0 a .char 3 (fun i => .int (f i))) (hn : nn.toInt = (n : Int)) (hj : j.toInt = (k : Int)) (hk : k < n) (hn3 : n ≤ 3) :
    own_Met l Z (⟨"com/example/kunci/kunci/CodePointsComparePinLaw", "width", "([CII)I"⟩ : MethodName) method_6_code 3 (some .int) ws ({ frames := 1, cells := 0, slots := 0, locals := 14 } : Room) #[(.ref a), (.int nn), (.int j)] h0 (fun v h L => v = some (.int (own_wi f n k)) ∧ Fr n0 L ∧ h = h0) := by
  refine own_body own_pn29 (fun m => mkF m 0 #[rv a, iv nn, iv j] []) (fun m => own_ef_own_width m a nn j) ?_
  intro p e s m below meth c T0 hx hby hml hlk hrt hZ hown hnm X0 e0
  have hown : s.vm.findClass "com/example/kunci/kunci/CodePointsComparePinLaw" = some m.cls := hown
  have N0 := Fr.nil n0
  obtain ⟨r, hr⟩ := own_dec (own_pr f n k)
  refine own_g (own_F T0 m 1 #[rv a, iv nn, iv j] [(.ref a)]) (fun _ z_ => XS.aloadN X0.here hx rfl (hb hby own_d30_0) rfl rfl z_) ?_
  refine own_g (own_F T0 m 2 #[rv a, iv nn, iv j] [(.int nn), (.ref a)]) (fun _ z_ => XS.iloadN X0.here hx rfl (hb hby own_d30_1) rfl z_) ?_
  refine own_g (own_F T0 m 3 #[rv a, iv nn, iv j] [(.int j), (.int nn), (.ref a)]) (fun _ z_ => XS.iloadN X0.here hx rfl (hb hby own_d30_2) rfl z_) ?_
  refine own_callS (y := (⟨"com/example/kunci/kunci/CodePointsComparePinLaw", "pairAt", "([CII)Z"⟩ : MethodName)) X0 hx hZ hown (own_w hw 123) (own_w hw 124) (own_w hw 3) (own_w hw 125) (by decide) e0 (hM := own_pa l Z a0 hw [] a n k nn j f r h0 n0 Z0 Aa hn hj hk hn3 hr) (W := 0) (pc := 3) (Ls := #[rv a, iv nn, iv j]) (argsL := [(.ref a), (.int nn), (.int j)]) (rest := []) (st0 := [(.int j), (.int nn), (.ref a)]) (by rw [hml]; rfl) (lenOf own_pd19 rfl) rfl (Nat.le_of_eq rfl) (hb hby own_d30_3) (by decide) (by decide) (by decide) (by decide) ?_
  intro v1 T1 L1 s X1 hZ hown hI1 hvm1 hhp1 hWw1 hQ1
  obtain ⟨rfl, Nq1, hh1⟩ := hQ1
  have N1 := Fr.app N0 Nq1
  show own_Ends p e below s _ _ _ (own_F T1 m 6 #[rv a, iv nn, iv j] [(.int r)])
  by_cases c6 : r = (0 : Int32)
  · -- pc 6: r = (0 : Int32)
   refine own_g (own_F T1 m 13 #[rv a, iv nn, iv j] []) (fun _ z_ => XS.ifYes X1.here hx rfl (pc0 := 6) (pc' := 13) rfl (hb hby own_d30_6) rfl ((if0 _ _).trans (teq c6).1) (by decide) (by decide) z_) ?_
   refine own_g (own_F T1 m 14 #[rv a, iv nn, iv j] [(.int 1)]) (fun _ z_ => XS.iconst X1.here hx rfl (hb hby own_d30_13) z_) ?_
   refine own_ret (t := .int) X1 hx hlk hrt rfl (Or.inl ⟨rfl, by simp, _, rfl⟩) (hb hby own_d30_14) (by decide) (by decide) ?_
   exact ⟨congrArg (fun z => some (Value.int z)) (if_neg (own_r0' hr c6)).symm, N1, hh1⟩
  · -- pc 6: not r = (0 : Int32)
   refine own_g (own_F T1 m 9 #[rv a, iv nn, iv j] []) (fun _ z_ => XS.ifNo X1.here hx rfl (hb hby own_d30_6) rfl ((if0 _ _).trans (feq c6).1) z_) ?_
   refine own_g (own_F T1 m 10 #[rv a, iv nn, iv j] [(.int 2)]) (fun _ z_ => XS.iconst X1.here hx rfl (hb hby own_d30_9) z_) ?_
   refine own_g (own_F T1 m 14 #[rv a, iv nn, iv j] [(.int 2)]) (fun _ z_ => XS.goto X1.here hx rfl (pc0 := 10) (pc' := 14) rfl (hb hby own_d30_10) (by decide) (by decide) z_) ?_
   refine own_ret (t := .int) X1 hx hlk hrt rfl (Or.inl ⟨rfl, by simp, _, rfl⟩) (hb hby own_d30_14) (by decide) (by decide) ?_
   exact ⟨congrArg (fun z => some (Value.int z)) (if_pos (own_r1' hr c6)).symm, N1, hh1⟩
set_option maxRecDepth 65536 in
set_option maxHeartbeats 40000000 in
theorem own_decC (l : Launch) (Z : State) (a0 : Array Value) (hw : ∀ d ∈ tables_1, d.before a0 Z = true) (ws : List Jvm.Cond) (a o : Addr) (n : Nat) (nn : Int32) (f g : Nat → Int32) (h0 : Heap) (n0 : Nat) (Z0 : n0 ≤ h0.size) (Aa : own_A Z h0 a .char 3 (fun i => .int (f i))) (Ao : own_A Z h0 o .int 3 (fun i => .int (g i))) (hn : nn.toInt = (n : Int)) (hn3 : n ≤ 3) (g_o : n0 ≤ o) (ne_ao : a ≠ o) :
    own_Met l Z (⟨"com/example/kunci/kunci/CodePointsComparePinLaw", "decompose", "([CI[I)I"⟩ : MethodName) method_7_code 5 (some .int) ws ({ frames := 2, cells := 0, slots := 0, locals := 30 } : Room) #[(.ref a), (.int nn), (.ref o)] h0 (fun v h L => ∃ (kk : Int32) (g2 : Nat → Int32), v = some (.int kk) ∧ Fr n0 L ∧ Keep h0 h [o] ∧ own_A Z h o .int 3 (fun i => .int (g2 i)) ∧ own_dc f n kk g2) := by
  refine own_body own_pn30 (fun m => mkF m 0 #[rv a, iv nn, rv o, .unset, .unset] []) (fun m => own_ef_own_decC m a nn o) ?_
  intro p e s m below meth c T0 hx hby hml hlk hrt hZ hown hnm X0 e0
  have hown : s.vm.findClass "com/example/kunci/kunci/CodePointsComparePinLaw" = some m.cls := hown
  have N0 := Fr.nil n0
  refine own_g (own_F T0 m 1 #[rv a, iv nn, rv o, .unset, .unset] [(.int 0)]) (fun _ z_ => XS.iconst X0.here hx rfl (hb hby own_d10_0) z_) ?_
  refine own_g (own_F T0 m 2 #[rv a, iv nn, rv o, iv 0, .unset] []) (fun _ z_ => XS.istoreN X0.here hx rfl (hb hby own_d10_1) rfl (l' := #[rv a, iv nn, rv o, iv 0, .unset]) rfl z_) ?_
  refine own_g (own_F T0 m 3 #[rv a, iv nn, rv o, iv 0, .unset] [(.int 0)]) (fun _ z_ => XS.iconst X0.here hx rfl (hb hby own_d10_2) z_) ?_
  refine own_g (own_F T0 m 5 #[rv a, iv nn, rv o, iv 0, iv 0] []) (fun _ z_ => XS.istore X0.here hx rfl (hb hby own_d10_3) rfl (l' := #[rv a, iv nn, rv o, iv 0, iv 0]) rfl z_) ?_
  refine own_g (own_F T0 m 6 #[rv a, iv nn, rv o, iv 0, iv 0] [(.int 0)]) (fun _ z_ => XS.iloadN X0.here hx rfl (hb hby own_d10_5) rfl z_) ?_
  refine own_g (own_F T0 m 7 #[rv a, iv nn, rv o, iv 0, iv 0] [(.int nn), (.int 0)]) (fun _ z_ => XS.iloadN X0.here hx rfl (hb hby own_d10_6) rfl z_) ?_
  by_cases c7 : (0 : Int32) < nn
  · -- pc 7: (0 : Int32) < nn
   refine own_g (own_F T0 m 10 #[rv a, iv nn, rv o, iv 0, iv 0] []) (fun _ z_ => XS.icmpNo X0.here hx rfl (hb hby own_d10_7) rfl (tlt c7).2.1 z_) ?_
   refine own_g (own_F T0 m 11 #[rv a, iv nn, rv o, iv 0, iv 0] [(.ref o)]) (fun _ z_ => XS.aloadN X0.here hx rfl (hb hby own_d10_10) rfl rfl z_) ?_
   refine own_g (own_F T0 m 13 #[rv a, iv nn, rv o, iv 0, iv 0] [(.int 0), (.ref o)]) (fun _ z_ => XS.iload X0.here hx rfl (hb hby own_d10_11) rfl z_) ?_
   refine own_g (own_F T0 m 14 #[rv a, iv nn, rv o, iv 0, iv 0] [(.ref a), (.int 0), (.ref o)]) (fun _ z_ => XS.aloadN X0.here hx rfl (hb hby own_d10_13) rfl rfl z_) ?_
   refine own_g (own_F T0 m 15 #[rv a, iv nn, rv o, iv 0, iv 0] [(.int nn), (.ref a), (.int 0), (.ref o)]) (fun _ z_ => XS.iloadN X0.here hx rfl (hb hby own_d10_14) rfl z_) ?_
   refine own_g (own_F T0 m 16 #[rv a, iv nn, rv o, iv 0, iv 0] [(.int 0), (.int nn), (.ref a), (.int 0), (.ref o)]) (fun _ z_ => XS.iloadN X0.here hx rfl (hb hby own_d10_15) rfl z_) ?_
   refine own_callS (y := (⟨"com/example/kunci/kunci/CodePointsComparePinLaw", "cpAt", "([CII)I"⟩ : MethodName)) X0 hx hZ hown (own_w hw 120) (own_w hw 121) (own_w hw 3) (own_w hw 122) (by decide) e0 (hM := own_cpAt l Z a0 hw [] a n 0 nn (0 : Int32) f h0 n0 Z0 Aa hn rfl ((own_ltI (show (0 : Int32).toInt = ((0 : Nat) : Int) from rfl) hn).mp c7) hn3) (W := 2) (pc := 16) (Ls := #[rv a, iv nn, rv o, iv 0, iv 0]) (argsL := [(.ref a), (.int nn), (.int 0)]) (rest := [(.int 0), (.ref o)]) (st0 := [(.int 0), (.int nn), (.ref a), (.int 0), (.ref o)]) (by rw [hml]; rfl) (lenOf own_pd20 rfl) rfl (Nat.le_of_eq rfl) (hb hby own_d10_16) (by decide) (by decide) (by decide) (by decide) ?_
   intro v1 T1 L1 s X1 hZ hown hI1 hvm1 hhp1 hWw1 hQ1
   obtain ⟨rfl, Nq1, hh1⟩ := hQ1
   have N1 := Fr.app N0 Nq1
   show own_Ends p e below s _ _ _ (own_F T1 m 19 #[rv a, iv nn, rv o, iv 0, iv 0] [(.int (own_cpt f n 0)), (.int 0), (.ref o)])
   refine own_iast X1 hx hZ hh1 Ao 0 rfl (by decide) (hb hby own_d10_19) ?_
   intro T2 h2 X2 e2 W2 A2
   have N2 := Fr.snoc X2 N1 g_o
   obtain ⟨g2, A2, q2_0⟩ : ∃ gq_ : Nat → Int32, own_A Z h2 o .int 3 (fun q_ => .int (gq_ q_)) ∧ gq_ 0 = (own_cpt f n 0) := ⟨_, A2, rfl⟩
   show own_Ends p e below s _ _ _ (own_F T2 m 20 #[rv a, iv nn, rv o, iv 0, iv 0] [])
   refine own_g (own_F T2 m 21 #[rv a, iv nn, rv o, iv 0, iv 0] [(.int 0)]) (fun _ z_ => XS.iloadN X2.here hx rfl (hb hby own_d10_20) rfl z_) ?_
   refine own_g (own_F T2 m 22 #[rv a, iv nn, rv o, iv 0, iv 0] [(.ref a), (.int 0)]) (fun _ z_ => XS.aloadN X2.here hx rfl (hb hby own_d10_21) rfl rfl z_) ?_
   refine own_g (own_F T2 m 23 #[rv a, iv nn, rv o, iv 0, iv 0] [(.int nn), (.ref a), (.int 0)]) (fun _ z_ => XS.iloadN X2.here hx rfl (hb hby own_d10_22) rfl z_) ?_
   refine own_g (own_F T2 m 24 #[rv a, iv nn, rv o, iv 0, iv 0] [(.int 0), (.int nn), (.ref a), (.int 0)]) (fun _ z_ => XS.iloadN X2.here hx rfl (hb hby own_d10_23) rfl z_) ?_
   refine own_callS (y := (⟨"com/example/kunci/kunci/CodePointsComparePinLaw", "width", "([CII)I"⟩ : MethodName)) X2 hx hZ hown (own_w hw 126) (own_w hw 127) (own_w hw 3) (own_w hw 128) (by decide) e2 (hM := own_width l Z a0 hw [] a n 0 nn (0 : Int32) f h2 n0 (Nat.le_trans Z0 (Nat.le_of_eq W2.size.symm)) (Aa.other W2 ne_ao) hn rfl ((own_ltI (show (0 : Int32).toInt = ((0 : Nat) : Int) from rfl) hn).mp c7) hn3) (W := 1) (pc := 24) (Ls := #[rv a, iv nn, rv o, iv 0, iv 0]) (argsL := [(.ref a), (.int nn), (.int 0)]) (rest := [(.int 0)]) (st0 := [(.int 0), (.int nn), (.ref a), (.int 0)]) (by rw [hml]; rfl) (lenOf own_pd20 rfl) rfl (Nat.le_of_eq rfl) (hb hby own_d10_24) (by decide) (by decide) (by decide) (by decide) ?_
   intro v3 T3 L3 s X3 hZ hown hI3 hvm3 hhp3 hWw3 hQ3
   obtain ⟨rfl, Nq3, hh3⟩ := hQ3
   have N3 := Fr.app N2 Nq3
   show own_Ends p e below s _ _ _ (own_F T3 m 27 #[rv a, iv nn, rv o, iv 0, iv 0] [(.int (own_wi f n 0)), (.int 0)])
   refine own_g (own_F T3 m 28 #[rv a, iv nn, rv o, iv 0, iv 0] [(.int ((0 : Int32) + (own_wi f n 0)))]) (fun _ z_ => XS.iadd X3.here hx rfl (hb hby own_d10_27) rfl z_) ?_
   generalize gp1 : ((0 : Int32) + (own_wi f n 0)) = p1
   have hp1 : p1.toInt = ((own_q1 f n : Nat) : Int) := by rw [← gp1]; exact own_addw f n 0 rfl (by decide)
   refine own_g (own_F T3 m 29 #[rv a, iv nn, rv o, iv p1, iv 0] []) (fun _ z_ => XS.istoreN X3.here hx rfl (hb hby own_d10_28) rfl (l' := #[rv a, iv nn, rv o, iv p1, iv 0]) rfl z_) ?_
   refine own_g (own_F T3 m 32 #[rv a, iv nn, rv o, iv p1, iv 1] []) (fun _ z_ => XS.iinc X3.here hx rfl (hb hby own_d10_29) rfl (l' := #[rv a, iv nn, rv o, iv p1, iv 1]) rfl z_) ?_
   refine own_g (own_F T3 m 33 #[rv a, iv nn, rv o, iv p1, iv 1] [(.int p1)]) (fun _ z_ => XS.iloadN X3.here hx rfl (hb hby own_d10_32) rfl z_) ?_
   refine own_g (own_F T3 m 34 #[rv a, iv nn, rv o, iv p1, iv 1] [(.int nn), (.int p1)]) (fun _ z_ => XS.iloadN X3.here hx rfl (hb hby own_d10_33) rfl z_) ?_
   by_cases c34 : p1 < nn
   · -- pc 34: p1 < nn
    refine own_g (own_F T3 m 37 #[rv a, iv nn, rv o, iv p1, iv 1] []) (fun _ z_ => XS.icmpNo X3.here hx rfl (hb hby own_d10_34) rfl (tlt c34).2.1 z_) ?_
    refine own_g (own_F T3 m 38 #[rv a, iv nn, rv o, iv p1, iv 1] [(.ref o)]) (fun _ z_ => XS.aloadN X3.here hx rfl (hb hby own_d10_37) rfl rfl z_) ?_
    refine own_g (own_F T3 m 40 #[rv a, iv nn, rv o, iv p1, iv 1] [(.int 1), (.ref o)]) (fun _ z_ => XS.iload X3.here hx rfl (hb hby own_d10_38) rfl z_) ?_
    refine own_g (own_F T3 m 41 #[rv a, iv nn, rv o, iv p1, iv 1] [(.ref a), (.int 1), (.ref o)]) (fun _ z_ => XS.aloadN X3.here hx rfl (hb hby own_d10_40) rfl rfl z_) ?_
    refine own_g (own_F T3 m 42 #[rv a, iv nn, rv o, iv p1, iv 1] [(.int nn), (.ref a), (.int 1), (.ref o)]) (fun _ z_ => XS.iloadN X3.here hx rfl (hb hby own_d10_41) rfl z_) ?_
    refine own_g (own_F T3 m 43 #[rv a, iv nn, rv o, iv p1, iv 1] [(.int p1), (.int nn), (.ref a), (.int 1), (.ref o)]) (fun _ z_ => XS.iloadN X3.here hx rfl (hb hby own_d10_42) rfl z_) ?_
    refine own_callS (y := (⟨"com/example/kunci/kunci/CodePointsComparePinLaw", "cpAt", "([CII)I"⟩ : MethodName)) X3 hx hZ hown (own_w hw 120) (own_w hw 121) (own_w hw 3) (own_w hw 122) (by decide) hh3 (hM := own_cpAt l Z a0 hw [] a n (own_q1 f n) nn p1 f h2 n0 (Nat.le_trans Z0 (Nat.le_of_eq W2.size.symm)) (Aa.other W2 ne_ao) hn hp1 ((own_ltI hp1 hn).mp c34) hn3) (W := 2) (pc := 43) (Ls := #[rv a, iv nn, rv o, iv p1, iv 1]) (argsL := [(.ref a), (.int nn), (.int p1)]) (rest := [(.int 1), (.ref o)]) (st0 := [(.int p1), (.int nn), (.ref a), (.int 1), (.ref o)]) (by rw [hml]; rfl) (lenOf own_pd20 rfl) rfl (Nat.le_of_eq rfl) (hb hby own_d10_43) (by decide) (by decide) (by decide) (by decide) ?_
    intro v4 T4 L4 s X4 hZ hown hI4 hvm4 hhp4 hWw4 hQ4
    obtain ⟨rfl, Nq4, hh4⟩ := hQ4
    have N4 := Fr.app N3 Nq4
    show own_Ends p e below s _ _ _ (own_F T4 m 46 #[rv a, iv nn, rv o, iv p1, iv 1] [(.int (own_cpt f n (own_q1 f n))), (.int 1), (.ref o)])
    refine own_iast X4 hx hZ hh4 A2 1 rfl (by decide) (hb hby own_d10_46) ?_
    intro T5 h5 X5 e5 W5 A5
    have N5 := Fr.snoc X5 N4 g_o
    obtain ⟨g5, A5, q5_0, q5_1⟩ : ∃ gq_ : Nat → Int32, own_A Z h5 o .int 3 (fun q_ => .int (gq_ q_)) ∧ gq_ 0 = (own_cpt f n 0) ∧ gq_ 1 = (own_cpt f n (own_q1 f n)) := ⟨_, A5, (show ite _ _ _ = _ from (if_neg (by decide)).trans q2_0), rfl⟩
    show own_Ends p e below s _ _ _ (own_F T5 m 47 #[rv a, iv nn, rv o, iv p1, iv 1] [])
    refine own_g (own_F T5 m 48 #[rv a, iv nn, rv o, iv p1, iv 1] [(.int p1)]) (fun _ z_ => XS.iloadN X5.here hx rfl (hb hby own_d10_47) rfl z_) ?_
    refine own_g (own_F T5 m 49 #[rv a, iv nn, rv o, iv p1, iv 1] [(.ref a), (.int p1)]) (fun _ z_ => XS.aloadN X5.here hx rfl (hb hby own_d10_48) rfl rfl z_) ?_
    refine own_g (own_F T5 m 50 #[rv a, iv nn, rv o, iv p1, iv 1] [(.int nn), (.ref a), (.int p1)]) (fun _ z_ => XS.iloadN X5.here hx rfl (hb hby own_d10_49) rfl z_) ?_
    refine own_g (own_F T5 m 51 #[rv a, iv nn, rv o, iv p1, iv 1] [(.int p1), (.int nn), (.ref a), (.int p1)]) (fun _ z_ => XS.iloadN X5.here hx rfl (hb hby own_d10_50) rfl z_) ?_
    refine own_callS (y := (⟨"com/example/kunci/kunci/CodePointsComparePinLaw", "width", "([CII)I"⟩ : MethodName)) X5 hx hZ hown (own_w hw 126) (own_w hw 127) (own_w hw 3) (own_w hw 128) (by decide) e5 (hM := own_width l Z a0 hw [] a n (own_q1 f n) nn p1 f h5 n0 (Nat.le_trans (Nat.le_trans Z0 (Nat.le_of_eq W2.size.symm)) (Nat.le_of_eq W5.size.symm)) ((Aa.other W2 ne_ao).other W5 ne_ao) hn hp1 ((own_ltI hp1 hn).mp c34) hn3) (W := 1) (pc := 51) (Ls := #[rv a, iv nn, rv o, iv p1, iv 1]) (argsL := [(.ref a), (.int nn), (.int p1)]) (rest := [(.int p1)]) (st0 := [(.int p1), (.int nn), (.ref a), (.int p1)]) (by rw [hml]; rfl) (lenOf own_pd20 rfl) rfl (Nat.le_of_eq rfl) (hb hby own_d10_51) (by decide) (by decide) (by decide) (by decide) ?_
    intro v6 T6 L6 s X6 hZ hown hI6 hvm6 hhp6 hWw6 hQ6
    obtain ⟨rfl, Nq6, hh6⟩ := hQ6
    have N6 := Fr.app N5 Nq6
    show own_Ends p e below s _ _ _ (own_F T6 m 54 #[rv a, iv nn, rv o, iv p1, iv 1] [(.int (own_wi f n (own_q1 f n))), (.int p1)])
    refine own_g (own_F T6 m 55 #[rv a, iv nn, rv o, iv p1, iv 1] [(.int (p1 + (own_wi f n (own_q1 f n))))]) (fun _ z_ => XS.iadd X6.here hx rfl (hb hby own_d10_54) rfl z_) ?_
    generalize gp2 : (p1 + (own_wi f n (own_q1 f n))) = p2
    have hp2 : p2.toInt = ((own_q2 f n : Nat) : Int) := by rw [← gp2]; exact own_addw f n (own_q1 f n) hp1 (by have := ((own_ltI hp1 hn).mp c34); omega)
    refine own_g (own_F T6 m 56 #[rv a, iv nn, rv o, iv p2, iv 1] []) (fun _ z_ => XS.istoreN X6.here hx rfl (hb hby own_d10_55) rfl (l' := #[rv a, iv nn, rv o, iv p2, iv 1]) rfl z_) ?_
    refine own_g (own_F T6 m 59 #[rv a, iv nn, rv o, iv p2, iv 2] []) (fun _ z_ => XS.iinc X6.here hx rfl (hb hby own_d10_56) rfl (l' := #[rv a, iv nn, rv o, iv p2, iv 2]) rfl z_) ?_
    refine own_g (own_F T6 m 60 #[rv a, iv nn, rv o, iv p2, iv 2] [(.int p2)]) (fun _ z_ => XS.iloadN X6.here hx rfl (hb hby own_d10_59) rfl z_) ?_
    refine own_g (own_F T6 m 61 #[rv a, iv nn, rv o, iv p2, iv 2] [(.int nn), (.int p2)]) (fun _ z_ => XS.iloadN X6.here hx rfl (hb hby own_d10_60) rfl z_) ?_
    by_cases c61 : p2 < nn
    · -- pc 61: p2 < nn
     refine own_g (own_F T6 m 64 #[rv a, iv nn, rv o, iv p2, iv 2] []) (fun _ z_ => XS.icmpNo X6.here hx rfl (hb hby own_d10_61) rfl (tlt c61).2.1 z_) ?_
     refine own_g (own_F T6 m 65 #[rv a, iv nn, rv o, iv p2, iv 2] [(.ref o)]) (fun _ z_ => XS.aloadN X6.here hx rfl (hb hby own_d10_64) rfl rfl z_) ?_
     refine own_g (own_F T6 m 67 #[rv a, iv nn, rv o, iv p2, iv 2] [(.int 2), (.ref o)]) (fun _ z_ => XS.iload X6.here hx rfl (hb hby own_d10_65) rfl z_) ?_
     refine own_g (own_F T6 m 68 #[rv a, iv nn, rv o, iv p2, iv 2] [(.ref a), (.int 2), (.ref o)]) (fun _ z_ => XS.aloadN X6.here hx rfl (hb hby own_d10_67) rfl rfl z_) ?_
     refine own_g (own_F T6 m 69 #[rv a, iv nn, rv o, iv p2, iv 2] [(.int nn), (.ref a), (.int 2), (.ref o)]) (fun _ z_ => XS.iloadN X6.here hx rfl (hb hby own_d10_68) rfl z_) ?_
     refine own_g (own_F T6 m 70 #[rv a, iv nn, rv o, iv p2, iv 2] [(.int p2), (.int nn), (.ref a), (.int 2), (.ref o)]) (fun _ z_ => XS.iloadN X6.here hx rfl (hb hby own_d10_69) rfl z_) ?_
     refine own_callS (y := (⟨"com/example/kunci/kunci/CodePointsComparePinLaw", "cpAt", "([CII)I"⟩ : MethodName)) X6 hx hZ hown (own_w hw 120) (own_w hw 121) (own_w hw 3) (own_w hw 122) (by decide) hh6 (hM := own_cpAt l Z a0 hw [] a n (own_q2 f n) nn p2 f h5 n0 (Nat.le_trans (Nat.le_trans Z0 (Nat.le_of_eq W2.size.symm)) (Nat.le_of_eq W5.size.symm)) ((Aa.other W2 ne_ao).other W5 ne_ao) hn hp2 ((own_ltI hp2 hn).mp c61) hn3) (W := 2) (pc := 70) (Ls := #[rv a, iv nn, rv o, iv p2, iv 2]) (argsL := [(.ref a), (.int nn), (.int p2)]) (rest := [(.int 2), (.ref o)]) (st0 := [(.int p2), (.int nn), (.ref a), (.int 2), (.ref o)]) (by rw [hml]; rfl) (lenOf own_pd20 rfl) rfl (Nat.le_of_eq rfl) (hb hby own_d10_70) (by decide) (by decide) (by decide) (by decide) ?_
     intro v7 T7 L7 s X7 hZ hown hI7 hvm7 hhp7 hWw7 hQ7
     obtain ⟨rfl, Nq7, hh7⟩ := hQ7
     have N7 := Fr.app N6 Nq7
     show own_Ends p e below s _ _ _ (own_F T7 m 73 #[rv a, iv nn, rv o, iv p2, iv 2] [(.int (own_cpt f n (own_q2 f n))), (.int 2), (.ref o)])
     refine own_iast X7 hx hZ hh7 A5 2 rfl (by decide) (hb hby own_d10_73) ?_
     intro T8 h8 X8 e8 W8 A8
     have N8 := Fr.snoc X8 N7 g_o
     obtain ⟨g8, A8, q8_0, q8_1, q8_2⟩ : ∃ gq_ : Nat → Int32, own_A Z h8 o .int 3 (fun q_ => .int (gq_ q_)) ∧ gq_ 0 = (own_cpt f n 0) ∧ gq_ 1 = (own_cpt f n (own_q1 f n)) ∧ gq_ 2 = (own_cpt f n (own_q2 f n)) := ⟨_, A8, (show ite _ _ _ = _ from (if_neg (by decide)).trans q5_0), (show ite _ _ _ = _ from (if_neg (by decide)).trans q5_1), rfl⟩
     show own_Ends p e below s _ _ _ (own_F T8 m 74 #[rv a, iv nn, rv o, iv p2, iv 2] [])
     refine own_g (own_F T8 m 75 #[rv a, iv nn, rv o, iv p2, iv 2] [(.int p2)]) (fun _ z_ => XS.iloadN X8.here hx rfl (hb hby own_d10_74) rfl z_) ?_
     refine own_g (own_F T8 m 76 #[rv a, iv nn, rv o, iv p2, iv 2] [(.ref a), (.int p2)]) (fun _ z_ => XS.aloadN X8.here hx rfl (hb hby own_d10_75) rfl rfl z_) ?_
     refine own_g (own_F T8 m 77 #[rv a, iv nn, rv o, iv p2, iv 2] [(.int nn), (.ref a), (.int p2)]) (fun _ z_ => XS.iloadN X8.here hx rfl (hb hby own_d10_76) rfl z_) ?_
     refine own_g (own_F T8 m 78 #[rv a, iv nn, rv o, iv p2, iv 2] [(.int p2), (.int nn), (.ref a), (.int p2)]) (fun _ z_ => XS.iloadN X8.here hx rfl (hb hby own_d10_77) rfl z_) ?_
     refine own_callS (y := (⟨"com/example/kunci/kunci/CodePointsComparePinLaw", "width", "([CII)I"⟩ : MethodName)) X8 hx hZ hown (own_w hw 126) (own_w hw 127) (own_w hw 3) (own_w hw 128) (by decide) e8 (hM := own_width l Z a0 hw [] a n (own_q2 f n) nn p2 f h8 n0 (Nat.le_trans (Nat.le_trans (Nat.le_trans Z0 (Nat.le_of_eq W2.size.symm)) (Nat.le_of_eq W5.size.symm)) (Nat.le_of_eq W8.size.symm)) (((Aa.other W2 ne_ao).other W5 ne_ao).other W8 ne_ao) hn hp2 ((own_ltI hp2 hn).mp c61) hn3) (W := 1) (pc := 78) (Ls := #[rv a, iv nn, rv o, iv p2, iv 2]) (argsL := [(.ref a), (.int nn), (.int p2)]) (rest := [(.int p2)]) (st0 := [(.int p2), (.int nn), (.ref a), (.int p2)]) (by rw [hml]; rfl) (lenOf own_pd20 rfl) rfl (Nat.le_of_eq rfl) (hb hby own_d10_78) (by decide) (by decide) (by decide) (by decide) ?_
     intro v9 T9 L9 s X9 hZ hown hI9 hvm9 hhp9 hWw9 hQ9
     obtain ⟨rfl, Nq9, hh9⟩ := hQ9
     have N9 := Fr.app N8 Nq9
     show own_Ends p e below s _ _ _ (own_F T9 m 81 #[rv a, iv nn, rv o, iv p2, iv 2] [(.int (own_wi f n (own_q2 f n))), (.int p2)])
     refine own_g (own_F T9 m 82 #[rv a, iv nn, rv o, iv p2, iv 2] [(.int (p2 + (own_wi f n (own_q2 f n))))]) (fun _ z_ => XS.iadd X9.here hx rfl (hb hby own_d10_81) rfl z_) ?_
     generalize gp3 : (p2 + (own_wi f n (own_q2 f n))) = p3
     have hp3 : p3.toInt = ((own_q3 f n : Nat) : Int) := by rw [← gp3]; exact own_addw f n (own_q2 f n) hp2 (by have := ((own_ltI hp2 hn).mp c61); omega)
     refine own_g (own_F T9 m 83 #[rv a, iv nn, rv o, iv p3, iv 2] []) (fun _ z_ => XS.istoreN X9.here hx rfl (hb hby own_d10_82) rfl (l' := #[rv a, iv nn, rv o, iv p3, iv 2]) rfl z_) ?_
     refine own_g (own_F T9 m 86 #[rv a, iv nn, rv o, iv p3, iv 3] []) (fun _ z_ => XS.iinc X9.here hx rfl (hb hby own_d10_83) rfl (l' := #[rv a, iv nn, rv o, iv p3, iv 3]) rfl z_) ?_
     refine own_g (own_F T9 m 88 #[rv a, iv nn, rv o, iv p3, iv 3] [(.int 3)]) (fun _ z_ => XS.iload X9.here hx rfl (hb hby own_d10_86) rfl z_) ?_
     refine own_ret (t := .int) X9 hx hlk hrt rfl (Or.inl ⟨rfl, by simp, _, rfl⟩) (hb hby own_d10_88) (by decide) (by decide) ?_
     show ∃ (kk : Int32) (g2 : Nat → Int32), _ ∧ Fr n0 _ ∧ Keep h0 T9.heap [o] ∧ own_A Z T9.heap o .int 3 _ ∧ _
     rw [hh9]
     exact ⟨_, g8, rfl, N9, ((((Keep.refl _ _).wr W2 (Or.inl (List.mem_of_getElem? (i := 0) rfl))).wr W5 (Or.inl (List.mem_of_getElem? (i := 0) rfl))).wr W8 (Or.inl (List.mem_of_getElem? (i := 0) rfl))), A8, Or.inr (Or.inr (Or.inr ⟨(own_ltI (show (0 : Int32).toInt = ((0 : Nat) : Int) from rfl) hn).mp c7, (own_ltI hp1 hn).mp c34, (own_ltI hp2 hn).mp c61, rfl, q8_0, q8_1, q8_2⟩))⟩
    · -- pc 61: not p2 < nn
     refine own_g (own_F T6 m 86 #[rv a, iv nn, rv o, iv p2, iv 2] []) (fun _ z_ => XS.icmpYes X6.here hx rfl (pc0 := 61) (pc' := 86) rfl (hb hby own_d10_61) rfl (flt c61).2.1 (by decide) (by decide) z_) ?_
     refine own_g (own_F T6 m 88 #[rv a, iv nn, rv o, iv p2, iv 2] [(.int 2)]) (fun _ z_ => XS.iload X6.here hx rfl (hb hby own_d10_86) rfl z_) ?_
     refine own_ret (t := .int) X6 hx hlk hrt rfl (Or.inl ⟨rfl, by simp, _, rfl⟩) (hb hby own_d10_88) (by decide) (by decide) ?_
     show ∃ (kk : Int32) (g2 : Nat → Int32), _ ∧ Fr n0 _ ∧ Keep h0 T6.heap [o] ∧ own_A Z T6.heap o .int 3 _ ∧ _
     rw [hh6]
     exact ⟨_, g5, rfl, N6, (((Keep.refl _ _).wr W2 (Or.inl (List.mem_of_getElem? (i := 0) rfl))).wr W5 (Or.inl (List.mem_of_getElem? (i := 0) rfl))), A5, Or.inr (Or.inr (Or.inl ⟨(own_ltI (show (0 : Int32).toInt = ((0 : Nat) : Int) from rfl) hn).mp c7, (own_ltI hp1 hn).mp c34, (mt (own_ltI hp2 hn).mpr c61), rfl, q5_0, q5_1⟩))⟩
   · -- pc 34: not p1 < nn
    refine own_g (own_F T3 m 59 #[rv a, iv nn, rv o, iv p1, iv 1] []) (fun _ z_ => XS.icmpYes X3.here hx rfl (pc0 := 34) (pc' := 59) rfl (hb hby own_d10_34) rfl (flt c34).2.1 (by decide) (by decide) z_) ?_
    refine own_g (own_F T3 m 60 #[rv a, iv nn, rv o, iv p1, iv 1] [(.int p1)]) (fun _ z_ => XS.iloadN X3.here hx rfl (hb hby own_d10_59) rfl z_) ?_
    refine own_g (own_F T3 m 61 #[rv a, iv nn, rv o, iv p1, iv 1] [(.int nn), (.int p1)]) (fun _ z_ => XS.iloadN X3.here hx rfl (hb hby own_d10_60) rfl z_) ?_
    refine own_g (own_F T3 m 86 #[rv a, iv nn, rv o, iv p1, iv 1] []) (fun _ z_ => XS.icmpYes X3.here hx rfl (pc0 := 61) (pc' := 86) rfl (hb hby own_d10_61) rfl (flt c34).2.1 (by decide) (by decide) z_) ?_
    refine own_g (own_F T3 m 88 #[rv a, iv nn, rv o, iv p1, iv 1] [(.int 1)]) (fun _ z_ => XS.iload X3.here hx rfl (hb hby own_d10_86) rfl z_) ?_
    refine own_ret (t := .int) X3 hx hlk hrt rfl (Or.inl ⟨rfl, by simp, _, rfl⟩) (hb hby own_d10_88) (by decide) (by decide) ?_
    show ∃ (kk : Int32) (g2 : Nat → Int32), _ ∧ Fr n0 _ ∧ Keep h0 T3.heap [o] ∧ own_A Z T3.heap o .int 3 _ ∧ _
    rw [hh3]
    exact ⟨_, g2, rfl, N3, ((Keep.refl _ _).wr W2 (Or.inl (List.mem_of_getElem? (i := 0) rfl))), A2, Or.inr (Or.inl ⟨(own_ltI (show (0 : Int32).toInt = ((0 : Nat) : Int) from rfl) hn).mp c7, (mt (own_ltI hp1 hn).mpr c34), rfl, q2_0⟩)⟩
  · -- pc 7: not (0 : Int32) < nn
   refine own_g (own_F T0 m 32 #[rv a, iv nn, rv o, iv 0, iv 0] []) (fun _ z_ => XS.icmpYes X0.here hx rfl (pc0 := 7) (pc' := 32) rfl (hb hby own_d10_7) rfl (flt c7).2.1 (by decide) (by decide) z_) ?_
   refine own_g (own_F T0 m 33 #[rv a, iv nn, rv o, iv 0, iv 0] [(.int 0)]) (fun _ z_ => XS.iloadN X0.here hx rfl (hb hby own_d10_32) rfl z_) ?_
   refine own_g (own_F T0 m 34 #[rv a, iv nn, rv o, iv 0, iv 0] [(.int nn), (.int 0)]) (fun _ z_ => XS.iloadN X0.here hx rfl (hb hby own_d10_33) rfl z_) ?_
   refine own_g (own_F T0 m 59 #[rv a, iv nn, rv o, iv 0, iv 0] []) (fun _ z_ => XS.icmpYes X0.here hx rfl (pc0 := 34) (pc' := 59) rfl (hb hby own_d10_34) rfl (flt c7).2.1 (by decide) (by decide) z_) ?_
   refine own_g (own_F T0 m 60 #[rv a, iv nn, rv o, iv 0, iv 0] [(.int 0)]) (fun _ z_ => XS.iloadN X0.here hx rfl (hb hby own_d10_59) rfl z_) ?_
   refine own_g (own_F T0 m 61 #[rv a, iv nn, rv o, iv 0, iv 0] [(.int nn), (.int 0)]) (fun _ z_ => XS.iloadN X0.here hx rfl (hb hby own_d10_60) rfl z_) ?_
   refine own_g (own_F T0 m 86 #[rv a, iv nn, rv o, iv 0, iv 0] []) (fun _ z_ => XS.icmpYes X0.here hx rfl (pc0 := 61) (pc' := 86) rfl (hb hby own_d10_61) rfl (flt c7).2.1 (by decide) (by decide) z_) ?_
   refine own_g (own_F T0 m 88 #[rv a, iv nn, rv o, iv 0, iv 0] [(.int 0)]) (fun _ z_ => XS.iload X0.here hx rfl (hb hby own_d10_86) rfl z_) ?_
   refine own_ret (t := .int) X0 hx hlk hrt rfl (Or.inl ⟨rfl, by simp, _, rfl⟩) (hb hby own_d10_88) (by decide) (by decide) ?_
   show ∃ (kk : Int32) (g2 : Nat → Int32), _ ∧ Fr n0 _ ∧ Keep h0 T0.heap [o] ∧ own_A Z T0.heap o .int 3 _ ∧ _
   rw [e0]
   exact ⟨_, g, rfl, N0, (Keep.refl _ _), Ao, Or.inl ⟨by have := mt (own_ltI (show (0 : Int32).toInt = ((0 : Nat) : Int) from rfl) hn).mpr c7; omega, rfl⟩⟩
set_option maxRecDepth 65536 in
set_option maxHeartbeats 40000000 in
theorem own_lexC (l : Launch) (Z : State) (a0 : Array Value) (hw : ∀ d ∈ tables_1, d.before a0 Z = true) (ws : List Jvm.Cond) (a o : Addr) (p_ q_ : Int32) (f g : Nat → Int32) (h0 : Heap) (n0 : Nat) (Z0 : n0 ≤ h0.size) (Aa : own_A Z h0 a .int 3 (fun i => .int (f i))) (Ao : own_A Z h0 o .int 3 (fun i => .int (g i))) :
    own_Met l Z (⟨"com/example/kunci/kunci/CodePointsComparePinLaw", "lex", "([II[II)I"⟩ : MethodName) method_9_code 4 (some .int) ws ({ frames := 1, cells := 0, slots := 0, locals := 13 } : Room) #[(.ref a), (.int p_), (.ref o), (.int q_)] h0 (fun v h L => v = some (.int (own_lex f p_ g q_)) ∧ Fr n0 L ∧ h = h0) := by
  refine own_body own_pn31 (fun m => mkF m 0 #[rv a, iv p_, rv o, iv q_] []) (fun m => own_ef_own_lexC m a p_ o q_) ?_
  intro p e s m below meth c T0 hx hby hml hlk hrt hZ hown hnm X0 e0
  have hown : s.vm.findClass "com/example/kunci/kunci/CodePointsComparePinLaw" = some m.cls := hown
  have N0 := Fr.nil n0
  refine own_g (own_F T0 m 1 #[rv a, iv p_, rv o, iv q_] [(.int p_)]) (fun _ z_ => XS.iloadN X0.here hx rfl (hb hby own_d11_0) rfl z_) ?_
  by_cases c1 : p_ = (0 : Int32)
  · -- pc 1: p_ = (0 : Int32)
   refine own_g (own_F T0 m 8 #[rv a, iv p_, rv o, iv q_] []) (fun _ z_ => XS.ifYes X0.here hx rfl (pc0 := 1) (pc' := 8) rfl (hb hby own_d11_1) rfl ((if0 _ _).trans (teq c1).1) (by decide) (by decide) z_) ?_
   refine own_g (own_F T0 m 9 #[rv a, iv p_, rv o, iv q_] [(.int p_)]) (fun _ z_ => XS.iloadN X0.here hx rfl (hb hby own_d11_8) rfl z_) ?_
   refine own_g (own_F T0 m 10 #[rv a, iv p_, rv o, iv q_] [(.int q_), (.int p_)]) (fun _ z_ => XS.iloadN X0.here hx rfl (hb hby own_d11_9) rfl z_) ?_
   refine own_callS (y := (⟨"com/example/kunci/kunci/CodePointsComparePinLaw", "cmp", "(II)I"⟩ : MethodName)) X0 hx hZ hown (own_w hw 58) (own_w hw 59) (own_w hw 3) (own_w hw 60) (by decide) e0 (hM := own_cmpC l Z a0 hw [] p_ q_ h0 n0 Z0) (W := 0) (pc := 10) (Ls := #[rv a, iv p_, rv o, iv q_]) (argsL := [(.int p_), (.int q_)]) (rest := []) (st0 := [(.int q_), (.int p_)]) (by rw [hml]; rfl) (lenOf own_pd18 rfl) rfl (Nat.le_of_eq rfl) (hb hby own_d11_10) (by decide) (by decide) (by decide) (by decide) ?_
   intro v1 T1 L1 s X1 hZ hown hI1 hvm1 hhp1 hWw1 hQ1
   obtain ⟨rfl, Nq1, hh1⟩ := hQ1
   have N1 := Fr.app N0 Nq1
   show own_Ends p e below s _ _ _ (own_F T1 m 13 #[rv a, iv p_, rv o, iv q_] [(.int (own_cm p_ q_))])
   refine own_ret (t := .int) X1 hx hlk hrt rfl (Or.inl ⟨rfl, by simp, _, rfl⟩) (hb hby own_d11_13) (by decide) (by decide) ?_
   exact ⟨congrArg (fun z => some (Value.int z)) (by simp only [own_lex, c1, own_e10, own_e20, own_e21, true_or, or_true, false_or, or_false, or_self, if_true, if_false]), N1, hh1⟩
  · -- pc 1: not p_ = (0 : Int32)
   refine own_g (own_F T0 m 4 #[rv a, iv p_, rv o, iv q_] []) (fun _ z_ => XS.ifNo X0.here hx rfl (hb hby own_d11_1) rfl ((if0 _ _).trans (feq c1).1) z_) ?_
   refine own_g (own_F T0 m 5 #[rv a, iv p_, rv o, iv q_] [(.int q_)]) (fun _ z_ => XS.iloadN X0.here hx rfl (hb hby own_d11_4) rfl z_) ?_
   by_cases c5 : q_ = (0 : Int32)
   · -- pc 5: q_ = (0 : Int32)
    refine own_g (own_F T0 m 8 #[rv a, iv p_, rv o, iv q_] []) (fun _ z_ => XS.ifNo X0.here hx rfl (hb hby own_d11_5) rfl ((if0 _ _).trans (teq c5).2) z_) ?_
    refine own_g (own_F T0 m 9 #[rv a, iv p_, rv o, iv q_] [(.int p_)]) (fun _ z_ => XS.iloadN X0.here hx rfl (hb hby own_d11_8) rfl z_) ?_
    refine own_g (own_F T0 m 10 #[rv a, iv p_, rv o, iv q_] [(.int q_), (.int p_)]) (fun _ z_ => XS.iloadN X0.here hx rfl (hb hby own_d11_9) rfl z_) ?_
    refine own_callS (y := (⟨"com/example/kunci/kunci/CodePointsComparePinLaw", "cmp", "(II)I"⟩ : MethodName)) X0 hx hZ hown (own_w hw 58) (own_w hw 59) (own_w hw 3) (own_w hw 60) (by decide) e0 (hM := own_cmpC l Z a0 hw [] p_ q_ h0 n0 Z0) (W := 0) (pc := 10) (Ls := #[rv a, iv p_, rv o, iv q_]) (argsL := [(.int p_), (.int q_)]) (rest := []) (st0 := [(.int q_), (.int p_)]) (by rw [hml]; rfl) (lenOf own_pd18 rfl) rfl (Nat.le_of_eq rfl) (hb hby own_d11_10) (by decide) (by decide) (by decide) (by decide) ?_
    intro v2 T2 L2 s X2 hZ hown hI2 hvm2 hhp2 hWw2 hQ2
    obtain ⟨rfl, Nq2, hh2⟩ := hQ2
    have N2 := Fr.app N0 Nq2
    show own_Ends p e below s _ _ _ (own_F T2 m 13 #[rv a, iv p_, rv o, iv q_] [(.int (own_cm p_ q_))])
    refine own_ret (t := .int) X2 hx hlk hrt rfl (Or.inl ⟨rfl, by simp, _, rfl⟩) (hb hby own_d11_13) (by decide) (by decide) ?_
    exact ⟨congrArg (fun z => some (Value.int z)) (by simp only [own_lex, c1, c5, own_e10, own_e20, own_e21, true_or, or_true, false_or, or_false, or_self, if_true, if_false]), N2, hh2⟩
   · -- pc 5: not q_ = (0 : Int32)
    refine own_g (own_F T0 m 14 #[rv a, iv p_, rv o, iv q_] []) (fun _ z_ => XS.ifYes X0.here hx rfl (pc0 := 5) (pc' := 14) rfl (hb hby own_d11_5) rfl ((if0 _ _).trans (feq c5).2) (by decide) (by decide) z_) ?_
    refine own_g (own_F T0 m 15 #[rv a, iv p_, rv o, iv q_] [(.ref a)]) (fun _ z_ => XS.aloadN X0.here hx rfl (hb hby own_d11_14) rfl rfl z_) ?_
    refine own_g (own_F T0 m 16 #[rv a, iv p_, rv o, iv q_] [(.int 0), (.ref a)]) (fun _ z_ => XS.iconst X0.here hx rfl (hb hby own_d11_15) z_) ?_
    refine own_iald X0 hx hZ e0 Aa 0 rfl (by decide) (hb hby own_d11_16) ?_
    show own_Ends p e below s _ _ _ (own_F T0 m 17 #[rv a, iv p_, rv o, iv q_] [(.int (f 0))])
    refine own_g (own_F T0 m 18 #[rv a, iv p_, rv o, iv q_] [(.ref o), (.int (f 0))]) (fun _ z_ => XS.aloadN X0.here hx rfl (hb hby own_d11_17) rfl rfl z_) ?_
    refine own_g (own_F T0 m 19 #[rv a, iv p_, rv o, iv q_] [(.int 0), (.ref o), (.int (f 0))]) (fun _ z_ => XS.iconst X0.here hx rfl (hb hby own_d11_18) z_) ?_
    refine own_iald X0 hx hZ e0 Ao 0 rfl (by decide) (hb hby own_d11_19) ?_
    show own_Ends p e below s _ _ _ (own_F T0 m 20 #[rv a, iv p_, rv o, iv q_] [(.int (g 0)), (.int (f 0))])
    by_cases c20 : (f 0) = (g 0)
    · -- pc 20: (f 0) = (g 0)
     refine own_g (own_F T0 m 33 #[rv a, iv p_, rv o, iv q_] []) (fun _ z_ => XS.icmpYes X0.here hx rfl (pc0 := 20) (pc' := 33) rfl (hb hby own_d11_20) rfl (teq c20).1 (by decide) (by decide) z_) ?_
     refine own_g (own_F T0 m 34 #[rv a, iv p_, rv o, iv q_] [(.int p_)]) (fun _ z_ => XS.iloadN X0.here hx rfl (hb hby own_d11_33) rfl z_) ?_
     refine own_g (own_F T0 m 35 #[rv a, iv p_, rv o, iv q_] [(.int 1), (.int p_)]) (fun _ z_ => XS.iconst X0.here hx rfl (hb hby own_d11_34) z_) ?_
     by_cases c35 : p_ = (1 : Int32)
     · -- pc 35: p_ = (1 : Int32)
      refine own_g (own_F T0 m 43 #[rv a, iv p_, rv o, iv q_] []) (fun _ z_ => XS.icmpYes X0.here hx rfl (pc0 := 35) (pc' := 43) rfl (hb hby own_d11_35) rfl (teq c35).1 (by decide) (by decide) z_) ?_
      refine own_g (own_F T0 m 44 #[rv a, iv p_, rv o, iv q_] [(.int p_)]) (fun _ z_ => XS.iloadN X0.here hx rfl (hb hby own_d11_43) rfl z_) ?_
      refine own_g (own_F T0 m 45 #[rv a, iv p_, rv o, iv q_] [(.int q_), (.int p_)]) (fun _ z_ => XS.iloadN X0.here hx rfl (hb hby own_d11_44) rfl z_) ?_
      refine own_callS (y := (⟨"com/example/kunci/kunci/CodePointsComparePinLaw", "cmp", "(II)I"⟩ : MethodName)) X0 hx hZ hown (own_w hw 58) (own_w hw 59) (own_w hw 3) (own_w hw 60) (by decide) e0 (hM := own_cmpC l Z a0 hw [] p_ q_ h0 n0 Z0) (W := 0) (pc := 45) (Ls := #[rv a, iv p_, rv o, iv q_]) (argsL := [(.int p_), (.int q_)]) (rest := []) (st0 := [(.int q_), (.int p_)]) (by rw [hml]; rfl) (lenOf own_pd18 rfl) rfl (Nat.le_of_eq rfl) (hb hby own_d11_45) (by decide) (by decide) (by decide) (by decide) ?_
      intro v3 T3 L3 s X3 hZ hown hI3 hvm3 hhp3 hWw3 hQ3
      obtain ⟨rfl, Nq3, hh3⟩ := hQ3
      have N3 := Fr.app N0 Nq3
      show own_Ends p e below s _ _ _ (own_F T3 m 48 #[rv a, iv p_, rv o, iv q_] [(.int (own_cm p_ q_))])
      refine own_ret (t := .int) X3 hx hlk hrt rfl (Or.inl ⟨rfl, by simp, _, rfl⟩) (hb hby own_d11_48) (by decide) (by decide) ?_
      exact ⟨congrArg (fun z => some (Value.int z)) (by simp only [own_lex, c1, c20, c35, c5, own_e10, own_e20, own_e21, true_or, or_true, false_or, or_false, or_self, if_true, if_false]), N3, hh3⟩
     · -- pc 35: not p_ = (1 : Int32)
      refine own_g (own_F T0 m 38 #[rv a, iv p_, rv o, iv q_] []) (fun _ z_ => XS.icmpNo X0.here hx rfl (hb hby own_d11_35) rfl (feq c35).1 z_) ?_
      refine own_g (own_F T0 m 39 #[rv a, iv p_, rv o, iv q_] [(.int q_)]) (fun _ z_ => XS.iloadN X0.here hx rfl (hb hby own_d11_38) rfl z_) ?_
      refine own_g (own_F T0 m 40 #[rv a, iv p_, rv o, iv q_] [(.int 1), (.int q_)]) (fun _ z_ => XS.iconst X0.here hx rfl (hb hby own_d11_39) z_) ?_
      by_cases c40 : q_ = (1 : Int32)
      · -- pc 40: q_ = (1 : Int32)
       refine own_g (own_F T0 m 43 #[rv a, iv p_, rv o, iv q_] []) (fun _ z_ => XS.icmpNo X0.here hx rfl (hb hby own_d11_40) rfl (teq c40).2 z_) ?_
       refine own_g (own_F T0 m 44 #[rv a, iv p_, rv o, iv q_] [(.int p_)]) (fun _ z_ => XS.iloadN X0.here hx rfl (hb hby own_d11_43) rfl z_) ?_
       refine own_g (own_F T0 m 45 #[rv a, iv p_, rv o, iv q_] [(.int q_), (.int p_)]) (fun _ z_ => XS.iloadN X0.here hx rfl (hb hby own_d11_44) rfl z_) ?_
       refine own_callS (y := (⟨"com/example/kunci/kunci/CodePointsComparePinLaw", "cmp", "(II)I"⟩ : MethodName)) X0 hx hZ hown (own_w hw 58) (own_w hw 59) (own_w hw 3) (own_w hw 60) (by decide) e0 (hM := own_cmpC l Z a0 hw [] p_ q_ h0 n0 Z0) (W := 0) (pc := 45) (Ls := #[rv a, iv p_, rv o, iv q_]) (argsL := [(.int p_), (.int q_)]) (rest := []) (st0 := [(.int q_), (.int p_)]) (by rw [hml]; rfl) (lenOf own_pd18 rfl) rfl (Nat.le_of_eq rfl) (hb hby own_d11_45) (by decide) (by decide) (by decide) (by decide) ?_
       intro v4 T4 L4 s X4 hZ hown hI4 hvm4 hhp4 hWw4 hQ4
       obtain ⟨rfl, Nq4, hh4⟩ := hQ4
       have N4 := Fr.app N0 Nq4
       show own_Ends p e below s _ _ _ (own_F T4 m 48 #[rv a, iv p_, rv o, iv q_] [(.int (own_cm p_ q_))])
       refine own_ret (t := .int) X4 hx hlk hrt rfl (Or.inl ⟨rfl, by simp, _, rfl⟩) (hb hby own_d11_48) (by decide) (by decide) ?_
       exact ⟨congrArg (fun z => some (Value.int z)) (by simp only [own_lex, c1, c20, c35, c40, c5, own_e10, own_e20, own_e21, true_or, or_true, false_or, or_false, or_self, if_true, if_false]), N4, hh4⟩
      · -- pc 40: not q_ = (1 : Int32)
       refine own_g (own_F T0 m 49 #[rv a, iv p_, rv o, iv q_] []) (fun _ z_ => XS.icmpYes X0.here hx rfl (pc0 := 40) (pc' := 49) rfl (hb hby own_d11_40) rfl (feq c40).2 (by decide) (by decide) z_) ?_
       refine own_g (own_F T0 m 50 #[rv a, iv p_, rv o, iv q_] [(.ref a)]) (fun _ z_ => XS.aloadN X0.here hx rfl (hb hby own_d11_49) rfl rfl z_) ?_
       refine own_g (own_F T0 m 51 #[rv a, iv p_, rv o, iv q_] [(.int 1), (.ref a)]) (fun _ z_ => XS.iconst X0.here hx rfl (hb hby own_d11_50) z_) ?_
       refine own_iald X0 hx hZ e0 Aa 1 rfl (by decide) (hb hby own_d11_51) ?_
       show own_Ends p e below s _ _ _ (own_F T0 m 52 #[rv a, iv p_, rv o, iv q_] [(.int (f 1))])
       refine own_g (own_F T0 m 53 #[rv a, iv p_, rv o, iv q_] [(.ref o), (.int (f 1))]) (fun _ z_ => XS.aloadN X0.here hx rfl (hb hby own_d11_52) rfl rfl z_) ?_
       refine own_g (own_F T0 m 54 #[rv a, iv p_, rv o, iv q_] [(.int 1), (.ref o), (.int (f 1))]) (fun _ z_ => XS.iconst X0.here hx rfl (hb hby own_d11_53) z_) ?_
       refine own_iald X0 hx hZ e0 Ao 1 rfl (by decide) (hb hby own_d11_54) ?_
       show own_Ends p e below s _ _ _ (own_F T0 m 55 #[rv a, iv p_, rv o, iv q_] [(.int (g 1)), (.int (f 1))])
       by_cases c55 : (f 1) = (g 1)
       · -- pc 55: (f 1) = (g 1)
        refine own_g (own_F T0 m 68 #[rv a, iv p_, rv o, iv q_] []) (fun _ z_ => XS.icmpYes X0.here hx rfl (pc0 := 55) (pc' := 68) rfl (hb hby own_d11_55) rfl (teq c55).1 (by decide) (by decide) z_) ?_
        refine own_g (own_F T0 m 69 #[rv a, iv p_, rv o, iv q_] [(.int p_)]) (fun _ z_ => XS.iloadN X0.here hx rfl (hb hby own_d11_68) rfl z_) ?_
        refine own_g (own_F T0 m 70 #[rv a, iv p_, rv o, iv q_] [(.int 2), (.int p_)]) (fun _ z_ => XS.iconst X0.here hx rfl (hb hby own_d11_69) z_) ?_
        by_cases c70 : p_ = (2 : Int32)
        · -- pc 70: p_ = (2 : Int32)
         refine own_g (own_F T0 m 78 #[rv a, iv p_, rv o, iv q_] []) (fun _ z_ => XS.icmpYes X0.here hx rfl (pc0 := 70) (pc' := 78) rfl (hb hby own_d11_70) rfl (teq c70).1 (by decide) (by decide) z_) ?_
         refine own_g (own_F T0 m 79 #[rv a, iv p_, rv o, iv q_] [(.int p_)]) (fun _ z_ => XS.iloadN X0.here hx rfl (hb hby own_d11_78) rfl z_) ?_
         refine own_g (own_F T0 m 80 #[rv a, iv p_, rv o, iv q_] [(.int q_), (.int p_)]) (fun _ z_ => XS.iloadN X0.here hx rfl (hb hby own_d11_79) rfl z_) ?_
         refine own_callS (y := (⟨"com/example/kunci/kunci/CodePointsComparePinLaw", "cmp", "(II)I"⟩ : MethodName)) X0 hx hZ hown (own_w hw 58) (own_w hw 59) (own_w hw 3) (own_w hw 60) (by decide) e0 (hM := own_cmpC l Z a0 hw [] p_ q_ h0 n0 Z0) (W := 0) (pc := 80) (Ls := #[rv a, iv p_, rv o, iv q_]) (argsL := [(.int p_), (.int q_)]) (rest := []) (st0 := [(.int q_), (.int p_)]) (by rw [hml]; rfl) (lenOf own_pd18 rfl) rfl (Nat.le_of_eq rfl) (hb hby own_d11_80) (by decide) (by decide) (by decide) (by decide) ?_
         intro v5 T5 L5 s X5 hZ hown hI5 hvm5 hhp5 hWw5 hQ5
         obtain ⟨rfl, Nq5, hh5⟩ := hQ5
         have N5 := Fr.app N0 Nq5
         show own_Ends p e below s _ _ _ (own_F T5 m 83 #[rv a, iv p_, rv o, iv q_] [(.int (own_cm p_ q_))])
         refine own_ret (t := .int) X5 hx hlk hrt rfl (Or.inl ⟨rfl, by simp, _, rfl⟩) (hb hby own_d11_83) (by decide) (by decide) ?_
         exact ⟨congrArg (fun z => some (Value.int z)) (by simp only [own_lex, c1, c20, c35, c40, c5, c55, c70, own_e10, own_e20, own_e21, true_or, or_true, false_or, or_false, or_self, if_true, if_false]), N5, hh5⟩
        · -- pc 70: not p_ = (2 : Int32)
         refine own_g (own_F T0 m 73 #[rv a, iv p_, rv o, iv q_] []) (fun _ z_ => XS.icmpNo X0.here hx rfl (hb hby own_d11_70) rfl (feq c70).1 z_) ?_
         refine own_g (own_F T0 m 74 #[rv a, iv p_, rv o, iv q_] [(.int q_)]) (fun _ z_ => XS.iloadN X0.here hx rfl (hb hby own_d11_73) rfl z_) ?_
         refine own_g (own_F T0 m 75 #[rv a, iv p_, rv o, iv q_] [(.int 2), (.int q_)]) (fun _ z_ => XS.iconst X0.here hx rfl (hb hby own_d11_74) z_) ?_
         by_cases c75 : q_ = (2 : Int32)
         · -- pc 75: q_ = (2 : Int32)
          refine own_g (own_F T0 m 78 #[rv a, iv p_, rv o, iv q_] []) (fun _ z_ => XS.icmpNo X0.here hx rfl (hb hby own_d11_75) rfl (teq c75).2 z_) ?_
          refine own_g (own_F T0 m 79 #[rv a, iv p_, rv o, iv q_] [(.int p_)]) (fun _ z_ => XS.iloadN X0.here hx rfl (hb hby own_d11_78) rfl z_) ?_
          refine own_g (own_F T0 m 80 #[rv a, iv p_, rv o, iv q_] [(.int q_), (.int p_)]) (fun _ z_ => XS.iloadN X0.here hx rfl (hb hby own_d11_79) rfl z_) ?_
          refine own_callS (y := (⟨"com/example/kunci/kunci/CodePointsComparePinLaw", "cmp", "(II)I"⟩ : MethodName)) X0 hx hZ hown (own_w hw 58) (own_w hw 59) (own_w hw 3) (own_w hw 60) (by decide) e0 (hM := own_cmpC l Z a0 hw [] p_ q_ h0 n0 Z0) (W := 0) (pc := 80) (Ls := #[rv a, iv p_, rv o, iv q_]) (argsL := [(.int p_), (.int q_)]) (rest := []) (st0 := [(.int q_), (.int p_)]) (by rw [hml]; rfl) (lenOf own_pd18 rfl) rfl (Nat.le_of_eq rfl) (hb hby own_d11_80) (by decide) (by decide) (by decide) (by decide) ?_
          intro v6 T6 L6 s X6 hZ hown hI6 hvm6 hhp6 hWw6 hQ6
          obtain ⟨rfl, Nq6, hh6⟩ := hQ6
          have N6 := Fr.app N0 Nq6
          show own_Ends p e below s _ _ _ (own_F T6 m 83 #[rv a, iv p_, rv o, iv q_] [(.int (own_cm p_ q_))])
          refine own_ret (t := .int) X6 hx hlk hrt rfl (Or.inl ⟨rfl, by simp, _, rfl⟩) (hb hby own_d11_83) (by decide) (by decide) ?_
          exact ⟨congrArg (fun z => some (Value.int z)) (by simp only [own_lex, c1, c20, c35, c40, c5, c55, c70, c75, own_e10, own_e20, own_e21, true_or, or_true, false_or, or_false, or_self, if_true, if_false]), N6, hh6⟩
         · -- pc 75: not q_ = (2 : Int32)
          refine own_g (own_F T0 m 84 #[rv a, iv p_, rv o, iv q_] []) (fun _ z_ => XS.icmpYes X0.here hx rfl (pc0 := 75) (pc' := 84) rfl (hb hby own_d11_75) rfl (feq c75).2 (by decide) (by decide) z_) ?_
          refine own_g (own_F T0 m 85 #[rv a, iv p_, rv o, iv q_] [(.ref a)]) (fun _ z_ => XS.aloadN X0.here hx rfl (hb hby own_d11_84) rfl rfl z_) ?_
          refine own_g (own_F T0 m 86 #[rv a, iv p_, rv o, iv q_] [(.int 2), (.ref a)]) (fun _ z_ => XS.iconst X0.here hx rfl (hb hby own_d11_85) z_) ?_
          refine own_iald X0 hx hZ e0 Aa 2 rfl (by decide) (hb hby own_d11_86) ?_
          show own_Ends p e below s _ _ _ (own_F T0 m 87 #[rv a, iv p_, rv o, iv q_] [(.int (f 2))])
          refine own_g (own_F T0 m 88 #[rv a, iv p_, rv o, iv q_] [(.ref o), (.int (f 2))]) (fun _ z_ => XS.aloadN X0.here hx rfl (hb hby own_d11_87) rfl rfl z_) ?_
          refine own_g (own_F T0 m 89 #[rv a, iv p_, rv o, iv q_] [(.int 2), (.ref o), (.int (f 2))]) (fun _ z_ => XS.iconst X0.here hx rfl (hb hby own_d11_88) z_) ?_
          refine own_iald X0 hx hZ e0 Ao 2 rfl (by decide) (hb hby own_d11_89) ?_
          show own_Ends p e below s _ _ _ (own_F T0 m 90 #[rv a, iv p_, rv o, iv q_] [(.int (g 2)), (.int (f 2))])
          by_cases c90 : (f 2) = (g 2)
          · -- pc 90: (f 2) = (g 2)
           refine own_g (own_F T0 m 103 #[rv a, iv p_, rv o, iv q_] []) (fun _ z_ => XS.icmpYes X0.here hx rfl (pc0 := 90) (pc' := 103) rfl (hb hby own_d11_90) rfl (teq c90).1 (by decide) (by decide) z_) ?_
           refine own_g (own_F T0 m 104 #[rv a, iv p_, rv o, iv q_] [(.int p_)]) (fun _ z_ => XS.iloadN X0.here hx rfl (hb hby own_d11_103) rfl z_) ?_
           refine own_g (own_F T0 m 105 #[rv a, iv p_, rv o, iv q_] [(.int q_), (.int p_)]) (fun _ z_ => XS.iloadN X0.here hx rfl (hb hby own_d11_104) rfl z_) ?_
           refine own_callS (y := (⟨"com/example/kunci/kunci/CodePointsComparePinLaw", "cmp", "(II)I"⟩ : MethodName)) X0 hx hZ hown (own_w hw 58) (own_w hw 59) (own_w hw 3) (own_w hw 60) (by decide) e0 (hM := own_cmpC l Z a0 hw [] p_ q_ h0 n0 Z0) (W := 0) (pc := 105) (Ls := #[rv a, iv p_, rv o, iv q_]) (argsL := [(.int p_), (.int q_)]) (rest := []) (st0 := [(.int q_), (.int p_)]) (by rw [hml]; rfl) (lenOf own_pd18 rfl) rfl (Nat.le_of_eq rfl) (hb hby own_d11_105) (by decide) (by decide) (by decide) (by decide) ?_
           intro v7 T7 L7 s X7 hZ hown hI7 hvm7 hhp7 hWw7 hQ7
           obtain ⟨rfl, Nq7, hh7⟩ := hQ7
           have N7 := Fr.app N0 Nq7
           show own_Ends p e below s _ _ _ (own_F T7 m 108 #[rv a, iv p_, rv o, iv q_] [(.int (own_cm p_ q_))])
           refine own_ret (t := .int) X7 hx hlk hrt rfl (Or.inl ⟨rfl, by simp, _, rfl⟩) (hb hby own_d11_108) (by decide) (by decide) ?_
           exact ⟨congrArg (fun z => some (Value.int z)) (by simp only [own_lex, c1, c20, c35, c40, c5, c55, c70, c75, c90, own_e10, own_e20, own_e21, true_or, or_true, false_or, or_false, or_self, if_true, if_false]), N7, hh7⟩
          · -- pc 90: not (f 2) = (g 2)
           refine own_g (own_F T0 m 93 #[rv a, iv p_, rv o, iv q_] []) (fun _ z_ => XS.icmpNo X0.here hx rfl (hb hby own_d11_90) rfl (feq c90).1 z_) ?_
           refine own_g (own_F T0 m 94 #[rv a, iv p_, rv o, iv q_] [(.ref a)]) (fun _ z_ => XS.aloadN X0.here hx rfl (hb hby own_d11_93) rfl rfl z_) ?_
           refine own_g (own_F T0 m 95 #[rv a, iv p_, rv o, iv q_] [(.int 2), (.ref a)]) (fun _ z_ => XS.iconst X0.here hx rfl (hb hby own_d11_94) z_) ?_
           refine own_iald X0 hx hZ e0 Aa 2 rfl (by decide) (hb hby own_d11_95) ?_
           show own_Ends p e below s _ _ _ (own_F T0 m 96 #[rv a, iv p_, rv o, iv q_] [(.int (f 2))])
           refine own_g (own_F T0 m 97 #[rv a, iv p_, rv o, iv q_] [(.ref o), (.int (f 2))]) (fun _ z_ => XS.aloadN X0.here hx rfl (hb hby own_d11_96) rfl rfl z_) ?_
           refine own_g (own_F T0 m 98 #[rv a, iv p_, rv o, iv q_] [(.int 2), (.ref o), (.int (f 2))]) (fun _ z_ => XS.iconst X0.here hx rfl (hb hby own_d11_97) z_) ?_
           refine own_iald X0 hx hZ e0 Ao 2 rfl (by decide) (hb hby own_d11_98) ?_
           show own_Ends p e below s _ _ _ (own_F T0 m 99 #[rv a, iv p_, rv o, iv q_] [(.int (g 2)), (.int (f 2))])
           refine own_callS (y := (⟨"com/example/kunci/kunci/CodePointsComparePinLaw", "cmp", "(II)I"⟩ : MethodName)) X0 hx hZ hown (own_w hw 58) (own_w hw 59) (own_w hw 3) (own_w hw 60) (by decide) e0 (hM := own_cmpC l Z a0 hw [] (f 2) (g 2) h0 n0 Z0) (W := 0) (pc := 99) (Ls := #[rv a, iv p_, rv o, iv q_]) (argsL := [(.int (f 2)), (.int (g 2))]) (rest := []) (st0 := [(.int (g 2)), (.int (f 2))]) (by rw [hml]; rfl) (lenOf own_pd18 rfl) rfl (Nat.le_of_eq rfl) (hb hby own_d11_99) (by decide) (by decide) (by decide) (by decide) ?_
           intro v8 T8 L8 s X8 hZ hown hI8 hvm8 hhp8 hWw8 hQ8
           obtain ⟨rfl, Nq8, hh8⟩ := hQ8
           have N8 := Fr.app N0 Nq8
           show own_Ends p e below s _ _ _ (own_F T8 m 102 #[rv a, iv p_, rv o, iv q_] [(.int (own_cm (f 2) (g 2)))])
           refine own_ret (t := .int) X8 hx hlk hrt rfl (Or.inl ⟨rfl, by simp, _, rfl⟩) (hb hby own_d11_102) (by decide) (by decide) ?_
           exact ⟨congrArg (fun z => some (Value.int z)) (by simp only [own_lex, c1, c20, c35, c40, c5, c55, c70, c75, c90, own_e10, own_e20, own_e21, true_or, or_true, false_or, or_false, or_self, if_true, if_false]), N8, hh8⟩
       · -- pc 55: not (f 1) = (g 1)
        refine own_g (own_F T0 m 58 #[rv a, iv p_, rv o, iv q_] []) (fun _ z_ => XS.icmpNo X0.here hx rfl (hb hby own_d11_55) rfl (feq c55).1 z_) ?_
        refine own_g (own_F T0 m 59 #[rv a, iv p_, rv o, iv q_] [(.ref a)]) (fun _ z_ => XS.aloadN X0.here hx rfl (hb hby own_d11_58) rfl rfl z_) ?_
        refine own_g (own_F T0 m 60 #[rv a, iv p_, rv o, iv q_] [(.int 1), (.ref a)]) (fun _ z_ => XS.iconst X0.here hx rfl (hb hby own_d11_59) z_) ?_
        refine own_iald X0 hx hZ e0 Aa 1 rfl (by decide) (hb hby own_d11_60) ?_
        show own_Ends p e below s _ _ _ (own_F T0 m 61 #[rv a, iv p_, rv o, iv q_] [(.int (f 1))])
        refine own_g (own_F T0 m 62 #[rv a, iv p_, rv o, iv q_] [(.ref o), (.int (f 1))]) (fun _ z_ => XS.aloadN X0.here hx rfl (hb hby own_d11_61) rfl rfl z_) ?_
        refine own_g (own_F T0 m 63 #[rv a, iv p_, rv o, iv q_] [(.int 1), (.ref o), (.int (f 1))]) (fun _ z_ => XS.iconst X0.here hx rfl (hb hby own_d11_62) z_) ?_
        refine own_iald X0 hx hZ e0 Ao 1 rfl (by decide) (hb hby own_d11_63) ?_
        show own_Ends p e below s _ _ _ (own_F T0 m 64 #[rv a, iv p_, rv o, iv q_] [(.int (g 1)), (.int (f 1))])
        refine own_callS (y := (⟨"com/example/kunci/kunci/CodePointsComparePinLaw", "cmp", "(II)I"⟩ : MethodName)) X0 hx hZ hown (own_w hw 58) (own_w hw 59) (own_w hw 3) (own_w hw 60) (by decide) e0 (hM := own_cmpC l Z a0 hw [] (f 1) (g 1) h0 n0 Z0) (W := 0) (pc := 64) (Ls := #[rv a, iv p_, rv o, iv q_]) (argsL := [(.int (f 1)), (.int (g 1))]) (rest := []) (st0 := [(.int (g 1)), (.int (f 1))]) (by rw [hml]; rfl) (lenOf own_pd18 rfl) rfl (Nat.le_of_eq rfl) (hb hby own_d11_64) (by decide) (by decide) (by decide) (by decide) ?_
        intro v9 T9 L9 s X9 hZ hown hI9 hvm9 hhp9 hWw9 hQ9
        obtain ⟨rfl, Nq9, hh9⟩ := hQ9
        have N9 := Fr.app N0 Nq9
        show own_Ends p e below s _ _ _ (own_F T9 m 67 #[rv a, iv p_, rv o, iv q_] [(.int (own_cm (f 1) (g 1)))])
        refine own_ret (t := .int) X9 hx hlk hrt rfl (Or.inl ⟨rfl, by simp, _, rfl⟩) (hb hby own_d11_67) (by decide) (by decide) ?_
        exact ⟨congrArg (fun z => some (Value.int z)) (by simp only [own_lex, c1, c20, c35, c40, c5, c55, own_e10, own_e20, own_e21, true_or, or_true, false_or, or_false, or_self, if_true, if_false]), N9, hh9⟩
    · -- pc 20: not (f 0) = (g 0)
     refine own_g (own_F T0 m 23 #[rv a, iv p_, rv o, iv q_] []) (fun _ z_ => XS.icmpNo X0.here hx rfl (hb hby own_d11_20) rfl (feq c20).1 z_) ?_
     refine own_g (own_F T0 m 24 #[rv a, iv p_, rv o, iv q_] [(.ref a)]) (fun _ z_ => XS.aloadN X0.here hx rfl (hb hby own_d11_23) rfl rfl z_) ?_
     refine own_g (own_F T0 m 25 #[rv a, iv p_, rv o, iv q_] [(.int 0), (.ref a)]) (fun _ z_ => XS.iconst X0.here hx rfl (hb hby own_d11_24) z_) ?_
     refine own_iald X0 hx hZ e0 Aa 0 rfl (by decide) (hb hby own_d11_25) ?_
     show own_Ends p e below s _ _ _ (own_F T0 m 26 #[rv a, iv p_, rv o, iv q_] [(.int (f 0))])
     refine own_g (own_F T0 m 27 #[rv a, iv p_, rv o, iv q_] [(.ref o), (.int (f 0))]) (fun _ z_ => XS.aloadN X0.here hx rfl (hb hby own_d11_26) rfl rfl z_) ?_
     refine own_g (own_F T0 m 28 #[rv a, iv p_, rv o, iv q_] [(.int 0), (.ref o), (.int (f 0))]) (fun _ z_ => XS.iconst X0.here hx rfl (hb hby own_d11_27) z_) ?_
     refine own_iald X0 hx hZ e0 Ao 0 rfl (by decide) (hb hby own_d11_28) ?_
     show own_Ends p e below s _ _ _ (own_F T0 m 29 #[rv a, iv p_, rv o, iv q_] [(.int (g 0)), (.int (f 0))])
     refine own_callS (y := (⟨"com/example/kunci/kunci/CodePointsComparePinLaw", "cmp", "(II)I"⟩ : MethodName)) X0 hx hZ hown (own_w hw 58) (own_w hw 59) (own_w hw 3) (own_w hw 60) (by decide) e0 (hM := own_cmpC l Z a0 hw [] (f 0) (g 0) h0 n0 Z0) (W := 0) (pc := 29) (Ls := #[rv a, iv p_, rv o, iv q_]) (argsL := [(.int (f 0)), (.int (g 0))]) (rest := []) (st0 := [(.int (g 0)), (.int (f 0))]) (by rw [hml]; rfl) (lenOf own_pd18 rfl) rfl (Nat.le_of_eq rfl) (hb hby own_d11_29) (by decide) (by decide) (by decide) (by decide) ?_
     intro v10 T10 L10 s X10 hZ hown hI10 hvm10 hhp10 hWw10 hQ10
     obtain ⟨rfl, Nq10, hh10⟩ := hQ10
     have N10 := Fr.app N0 Nq10
     show own_Ends p e below s _ _ _ (own_F T10 m 32 #[rv a, iv p_, rv o, iv q_] [(.int (own_cm (f 0) (g 0)))])
     refine own_ret (t := .int) X10 hx hlk hrt rfl (Or.inl ⟨rfl, by simp, _, rfl⟩) (hb hby own_d11_32) (by decide) (by decide) ?_
     exact ⟨congrArg (fun z => some (Value.int z)) (by simp only [own_lex, c1, c20, c5, own_e10, own_e20, own_e21, true_or, or_true, false_or, or_false, or_self, if_true, if_false]), N10, hh10⟩
set_option maxRecDepth 65536 in
set_option maxHeartbeats 40000000 in
theorem own_law (l : Launch) (Z : State) (a0 : Array Value) (hw : ∀ d ∈ tables_1, d.before a0 Z = true) (ws : List Jvm.Cond) (i0 i1 : Int64) (i2 zc : Int32) (sv : Value) (hsv : sv.isRef = true) (h0 : Heap) (n0 : Nat) (Z0 : n0 ≤ h0.size) (hzc : ¬ zc = (0 : Int32)) (S_cs : Sta Z h0 "java/lang/String" "COMPACT_STRINGS" "Z" (.int zc)) (S_sf : Sta Z h0 "jdk/internal/util/Preconditions" "SIOOBE_FORMATTER" "Ljava/util/function/BiFunction;" sv) (S_ad : Sta Z h0 "java/lang/StringUTF16" "$assertionsDisabled" "Z" (.int (1 : Int32))) (S_hi : Sta Z h0 "java/lang/StringUTF16" "HI_BYTE_SHIFT" "I" (.int (0 : Int32))) (S_lo : Sta Z h0 "java/lang/StringUTF16" "LO_BYTE_SHIFT" "I" (.int (8 : Int32))) (hkp : ∀ (b : Addr) (cl : Cell), Z.heap[b]? = some cl → h0[b]? = some cl) (hh7 : Jvm.Lit.constHeld Z "java/lang/String" 7) (hcw : Jvm.Lit.compactW.before a0 Z = true) :
    own_MetW l Z x code maxLocals ret ws room_1 #[(.long i0), (.long i1), (.int i2)] h0 (fun vm => own_LS Z h0 vm own_K0) ((fun v h L vm => v = some (.int 1) ∧ Fr n0 L), ([""] : List String)) := by
  refine own_bodyW own_pn32 (fun m => mkF m 0 #[.val (.long i0), .second, .val (.long i1), .second, iv i2, .unset, .unset, .unset, .unset, .unset, .unset, .unset, .unset, .unset, .unset, .unset, .unset] []) (fun m => own_ef_own_law m i0 i1 i2) ?_
  intro p e s m below meth c T0 hx hby hml hlk hrt hZ hown hnm X0 e0 LS0 SH0
  have hown : s.vm.findClass "com/example/kunci/kunci/CodePointsComparePinLaw" = some m.cls := hown
  have N0 := Fr.nil n0
  have J2 : ∀ (ca : Addr) (cb : Addr) (f : Nat → Int32) (g : Nat → Int32) (cv : Int32) (T1 : State) (lc1 : List Loc) (hp1 : Heap) (s : State) (hZ : Z.Warmed39 s.vm) (hown : s.vm.findClass "com/example/kunci/kunci/CodePointsComparePinLaw" = some m.cls) (X1 : Stand p l e room_1 s m #[(.long i0), (.long i1), (.int i2)] below meth c T1 lc1 2 6) (e1 : T1.heap = hp1) (N1 : Fr n0 lc1) (zs1 : n0 ≤ hp1.size) (zz1 : h0.size ≤ hp1.size) (K1 : Keep h0 hp1 []) (f1_0 : own_A Z hp1 ca .char 3 (fun i => .int (f i))) (f1_1 : own_A Z hp1 cb .char 3 (fun i => .int (g i))) (hf : ∀ i, i < 3 → 0 ≤ (f i).toInt ∧ (f i).toInt ≤ 65535) (hg : ∀ i, i < 2 → 0 ≤ (g i).toInt ∧ (g i).toInt ≤ 65535) (hcv : 0 ≤ cv.toInt ∧ cv.toInt ≤ 65535) (ga : n0 ≤ ca) (gb : n0 ≤ cb) (sa : h0.size ≤ ca) (sb : h0.size ≤ cb) (nab : ca ≠ cb) (LSj : own_LS Z h0 s.vm own_K0), own_Ends p e below s ((fun v h L vm => v = some (.int 1) ∧ Fr n0 L), ([""] : List String)) room_1.cells room_1.slots (own_F T1 m 126 #[.val (.long i0), .second, .val (.long i1), .second, iv i2, iv (i2 &&& (3 : Int32)), iv (((i2.toUInt32 >>> ((2 : Int32) &&& 31).toUInt32).toInt32) &&& (3 : Int32)), rv ca, rv cb, .unset, .unset, .unset, .unset, .unset, .unset, .unset, .unset] [(.int cv), (.int 2), (.ref cb)]) := by
   intro ca cb f g cv T1 lc1 hp1 s hZ hown X1 e1 N1 zs1 zz1 K1 f1_0 f1_1 hf hg hcv ga gb sa sb nab LSj
   have sz_ca := sa
   have sz_cb := sb
   refine own_cast X1 hx hZ e1 f1_1 2 rfl (by decide) cv (own_narC hcv) (hb hby at_126) ?_
   intro T2 h2 X2 e2 W2 A2
   have N2 := Fr.snoc X2 N1 gb
   obtain ⟨g2, hg2⟩ : ∃ gq_ : Nat → Int32, gq_ = fun q_ => if q_ = 2 then cv else g q_ := ⟨_, rfl⟩
   have A2 : own_A Z h2 cb .char 3 (fun q_ => .int (g2 q_)) := by rw [hg2]; exact A2
   show own_Ends p e below s _ _ _ (own_F T2 m 127 #[.val (.long i0), .second, .val (.long i1), .second, iv i2, iv (i2 &&& (3 : Int32)), iv (((i2.toUInt32 >>> ((2 : Int32) &&& 31).toUInt32).toInt32) &&& (3 : Int32)), rv ca, rv cb, .unset, .unset, .unset, .unset, .unset, .unset, .unset, .unset] [])
   have hg3 := own_rk hg hcv hg2
   refine own_g (own_F T2 m 129 #[.val (.long i0), .second, .val (.long i1), .second, iv i2, iv (i2 &&& (3 : Int32)), iv (((i2.toUInt32 >>> ((2 : Int32) &&& 31).toUInt32).toInt32) &&& (3 : Int32)), rv ca, rv cb, .unset, .unset, .unset, .unset, .unset, .unset, .unset, .unset] [(.ref ca)]) (fun _ z_ => XS.aload X2.here hx rfl (hb hby at_127) rfl rfl z_) ?_
   refine own_g (own_F T2 m 131 #[.val (.long i0), .second, .val (.long i1), .second, iv i2, iv (i2 &&& (3 : Int32)), iv (((i2.toUInt32 >>> ((2 : Int32) &&& 31).toUInt32).toInt32) &&& (3 : Int32)), rv ca, rv cb, .unset, .unset, .unset, .unset, .unset, .unset, .unset, .unset] [(.int (i2 &&& (3 : Int32))), (.ref ca)]) (fun _ z_ => XS.iload X2.here hx rfl (hb hby at_129) rfl z_) ?_
   refine own_callS (y := (⟨"com/example/kunci/kunci/CodePointsComparePinLaw", "str", "([CI)Ljava/lang/String;"⟩ : MethodName)) X2 hx hZ hown (own_w hw 8) (own_w hw 9) (own_w hw 3) (own_w hw 10) (by decide) e2 (hM := own_str l Z a0 hw [] ca (i2 &&& (3 : Int32)) zc f h2 h2.size (Nat.le_refl _) (f1_0.other W2 nab) hf (own_and3 _) hzc ((own_sta_keep S_cs K1 all0).wr W2) ((own_sta_keep S_ad K1 all0).wr W2) ((own_sta_keep S_hi K1 all0).wr W2) ((own_sta_keep S_lo K1 all0).wr W2) (fun b_ c_ q_ => ((K1.wr W2 (Or.inr sz_cb))).2.1 b_ c_ (hkp b_ c_ q_) nin0) hh7 hcw) (hv := fun _ hq_ => own_LS.warm (LSj.keep (K1.wr W2 (Or.inr sz_cb))) hq_) (hsub := fun _ z_ => z_) (W := 0) (pc := 131) (Ls := #[.val (.long i0), .second, .val (.long i1), .second, iv i2, iv (i2 &&& (3 : Int32)), iv (((i2.toUInt32 >>> ((2 : Int32) &&& 31).toUInt32).toInt32) &&& (3 : Int32)), rv ca, rv cb, .unset, .unset, .unset, .unset, .unset, .unset, .unset, .unset]) (argsL := [(.ref ca), (.int (i2 &&& (3 : Int32)))]) (rest := []) (st0 := [(.int (i2 &&& (3 : Int32))), (.ref ca)]) (by rw [hml]; rfl) (lenOf own_pd21 rfl) rfl (Nat.le_of_eq rfl) (hb hby at_131) (by decide) (by decide) (by decide) (by decide) ?_
   intro v3 T3 L3 s X3 hZ hown hI3 hvm3 hhp3 hWw3 hQ3
   obtain ⟨x3, rfl, Nr3, K3, Sx3, LS3⟩ := hQ3
   have Nq3 := own_frm (Nat.le_trans zs1 (Nat.le_of_eq W2.size.symm)) Nr3
   have N3 := Fr.app N2 Nq3
   show own_Ends p e below s _ _ _ (own_F T3 m 134 #[.val (.long i0), .second, .val (.long i1), .second, iv i2, iv (i2 &&& (3 : Int32)), iv (((i2.toUInt32 >>> ((2 : Int32) &&& 31).toUInt32).toInt32) &&& (3 : Int32)), rv ca, rv cb, .unset, .unset, .unset, .unset, .unset, .unset, .unset, .unset] [(.ref x3)])
   refine own_g (own_F T3 m 136 #[.val (.long i0), .second, .val (.long i1), .second, iv i2, iv (i2 &&& (3 : Int32)), iv (((i2.toUInt32 >>> ((2 : Int32) &&& 31).toUInt32).toInt32) &&& (3 : Int32)), rv ca, rv cb, rv x3, .unset, .unset, .unset, .unset, .unset, .unset, .unset] []) (fun _ z_ => XS.astore X3.here hx rfl (hb hby at_134) rfl rfl (l' := #[.val (.long i0), .second, .val (.long i1), .second, iv i2, iv (i2 &&& (3 : Int32)), iv (((i2.toUInt32 >>> ((2 : Int32) &&& 31).toUInt32).toInt32) &&& (3 : Int32)), rv ca, rv cb, rv x3, .unset, .unset, .unset, .unset, .unset, .unset, .unset]) rfl z_) ?_
   refine own_g (own_F T3 m 138 #[.val (.long i0), .second, .val (.long i1), .second, iv i2, iv (i2 &&& (3 : Int32)), iv (((i2.toUInt32 >>> ((2 : Int32) &&& 31).toUInt32).toInt32) &&& (3 : Int32)), rv ca, rv cb, rv x3, .unset, .unset, .unset, .unset, .unset, .unset, .unset] [(.ref cb)]) (fun _ z_ => XS.aload X3.here hx rfl (hb hby at_136) rfl rfl z_) ?_
   refine own_g (own_F T3 m 140 #[.val (.long i0), .second, .val (.long i1), .second, iv i2, iv (i2 &&& (3 : Int32)), iv (((i2.toUInt32 >>> ((2 : Int32) &&& 31).toUInt32).toInt32) &&& (3 : Int32)), rv ca, rv cb, rv x3, .unset, .unset, .unset, .unset, .unset, .unset, .unset] [(.int (((i2.toUInt32 >>> ((2 : Int32) &&& 31).toUInt32).toInt32) &&& (3 : Int32))), (.ref cb)]) (fun _ z_ => XS.iload X3.here hx rfl (hb hby at_138) rfl z_) ?_
   refine own_callS (y := (⟨"com/example/kunci/kunci/CodePointsComparePinLaw", "str", "([CI)Ljava/lang/String;"⟩ : MethodName)) X3 hx hZ hown (own_w hw 8) (own_w hw 9) (own_w hw 3) (own_w hw 10) (by decide) (rfl : T3.heap = T3.heap) (hM := own_str l Z a0 hw [] cb (((i2.toUInt32 >>> ((2 : Int32) &&& 31).toUInt32).toInt32) &&& (3 : Int32)) zc g2 T3.heap T3.heap.size (Nat.le_refl _) (A2.keep K3 nin0) hg3 (own_and3 _) hzc (own_sta_keep ((own_sta_keep S_cs K1 all0).wr W2) K3 all0) (own_sta_keep ((own_sta_keep S_ad K1 all0).wr W2) K3 all0) (own_sta_keep ((own_sta_keep S_hi K1 all0).wr W2) K3 all0) (own_sta_keep ((own_sta_keep S_lo K1 all0).wr W2) K3 all0) (fun b_ c_ q_ => (((K1.wr W2 (Or.inr sz_cb)).trans K3 all0)).2.1 b_ c_ (hkp b_ c_ q_) nin0) hh7 hcw) (hv := fun _ hq_ => own_LS.warm (own_LS.ofvm LS3 hvm3) hq_) (hsub := fun _ z_ => z_) (W := 0) (pc := 140) (Ls := #[.val (.long i0), .second, .val (.long i1), .second, iv i2, iv (i2 &&& (3 : Int32)), iv (((i2.toUInt32 >>> ((2 : Int32) &&& 31).toUInt32).toInt32) &&& (3 : Int32)), rv ca, rv cb, rv x3, .unset, .unset, .unset, .unset, .unset, .unset, .unset]) (argsL := [(.ref cb), (.int (((i2.toUInt32 >>> ((2 : Int32) &&& 31).toUInt32).toInt32) &&& (3 : Int32)))]) (rest := []) (st0 := [(.int (((i2.toUInt32 >>> ((2 : Int32) &&& 31).toUInt32).toInt32) &&& (3 : Int32))), (.ref cb)]) (by rw [hml]; rfl) (lenOf own_pd21 rfl) rfl (Nat.le_of_eq rfl) (hb hby at_140) (by decide) (by decide) (by decide) (by decide) ?_
   intro v4 T4 L4 s X4 hZ hown hI4 hvm4 hhp4 hWw4 hQ4
   obtain ⟨x4, rfl, Nr4, K4, Sx4, LS4⟩ := hQ4
   have Nq4 := own_frm (Nat.le_trans (Nat.le_trans zs1 (Nat.le_of_eq W2.size.symm)) K3.1) Nr4
   have N4 := Fr.app N3 Nq4
   show own_Ends p e below s _ _ _ (own_F T4 m 143 #[.val (.long i0), .second, .val (.long i1), .second, iv i2, iv (i2 &&& (3 : Int32)), iv (((i2.toUInt32 >>> ((2 : Int32) &&& 31).toUInt32).toInt32) &&& (3 : Int32)), rv ca, rv cb, rv x3, .unset, .unset, .unset, .unset, .unset, .unset, .unset] [(.ref x4)])
   have Sa4 := Sx3.keep K4 (fun _ q => by cases q)
   refine own_g (own_F T4 m 145 #[.val (.long i0), .second, .val (.long i1), .second, iv i2, iv (i2 &&& (3 : Int32)), iv (((i2.toUInt32 >>> ((2 : Int32) &&& 31).toUInt32).toInt32) &&& (3 : Int32)), rv ca, rv cb, rv x3, rv x4, .unset, .unset, .unset, .unset, .unset, .unset] []) (fun _ z_ => XS.astore X4.here hx rfl (hb hby at_143) rfl rfl (l' := #[.val (.long i0), .second, .val (.long i1), .second, iv i2, iv (i2 &&& (3 : Int32)), iv (((i2.toUInt32 >>> ((2 : Int32) &&& 31).toUInt32).toInt32) &&& (3 : Int32)), rv ca, rv cb, rv x3, rv x4, .unset, .unset, .unset, .unset, .unset, .unset]) rfl z_) ?_
   refine own_g (own_F T4 m 147 #[.val (.long i0), .second, .val (.long i1), .second, iv i2, iv (i2 &&& (3 : Int32)), iv (((i2.toUInt32 >>> ((2 : Int32) &&& 31).toUInt32).toInt32) &&& (3 : Int32)), rv ca, rv cb, rv x3, rv x4, .unset, .unset, .unset, .unset, .unset, .unset] [(.ref x3)]) (fun _ z_ => XS.aload X4.here hx rfl (hb hby at_145) rfl rfl z_) ?_
   refine own_g (own_F T4 m 149 #[.val (.long i0), .second, .val (.long i1), .second, iv i2, iv (i2 &&& (3 : Int32)), iv (((i2.toUInt32 >>> ((2 : Int32) &&& 31).toUInt32).toInt32) &&& (3 : Int32)), rv ca, rv cb, rv x3, rv x4, .unset, .unset, .unset, .unset, .unset, .unset] [(.ref x4), (.ref x3)]) (fun _ z_ => XS.aload X4.here hx rfl (hb hby at_147) rfl rfl z_) ?_
   refine own_callS (y := (⟨"com/example/kunci/kunci/CodePoints", "compare", "(Ljava/lang/String;Ljava/lang/String;)I"⟩ : MethodName)) X4 hx hZ hown (own_w hw 32) (own_w hw 33) (own_w hw 34) (own_w hw 35) (by decide) (rfl : T4.heap = T4.heap) (hM := own_cmp l Z a0 hw [] x3 x4 (Int32.toInt (i2 &&& (3 : Int32))).toNat (Int32.toInt (((i2.toUInt32 >>> ((2 : Int32) &&& 31).toUInt32).toInt32) &&& (3 : Int32))).toNat (i2 &&& (3 : Int32)) (((i2.toUInt32 >>> ((2 : Int32) &&& 31).toUInt32).toInt32) &&& (3 : Int32)) zc f g2 sv hsv T4.heap n0 (Nat.le_trans (Nat.le_trans (Nat.le_trans zs1 (Nat.le_of_eq W2.size.symm)) K3.1) K4.1) (show Int32.toInt (i2 &&& (3 : Int32)) = _ by have := own_and3 i2; omega) (show Int32.toInt (((i2.toUInt32 >>> ((2 : Int32) &&& 31).toUInt32).toInt32) &&& (3 : Int32)) = _ by have := own_and3 ((i2.toUInt32 >>> ((2 : Int32) &&& 31).toUInt32).toInt32); omega) (show (Int32.toInt (i2 &&& (3 : Int32))).toNat ≤ 3 by have := own_and3 i2; omega) hzc Sa4 Sx4 (fun i hi => hf i (Nat.lt_of_lt_of_le hi (show (Int32.toInt (i2 &&& (3 : Int32))).toNat ≤ 3 by have := own_and3 i2; omega))) (own_sta_keep (own_sta_keep ((own_sta_keep S_cs K1 all0).wr W2) K3 all0) K4 all0) (own_sta_keep (own_sta_keep ((own_sta_keep S_sf K1 all0).wr W2) K3 all0) K4 all0) (own_sta_keep (own_sta_keep ((own_sta_keep S_ad K1 all0).wr W2) K3 all0) K4 all0) (own_sta_keep (own_sta_keep ((own_sta_keep S_hi K1 all0).wr W2) K3 all0) K4 all0) (own_sta_keep (own_sta_keep ((own_sta_keep S_lo K1 all0).wr W2) K3 all0) K4 all0)) (W := 0) (pc := 149) (Ls := #[.val (.long i0), .second, .val (.long i1), .second, iv i2, iv (i2 &&& (3 : Int32)), iv (((i2.toUInt32 >>> ((2 : Int32) &&& 31).toUInt32).toInt32) &&& (3 : Int32)), rv ca, rv cb, rv x3, rv x4, .unset, .unset, .unset, .unset, .unset, .unset]) (argsL := [(.ref x3), (.ref x4)]) (rest := []) (st0 := [(.ref x4), (.ref x3)]) (by rw [hml]; rfl) (lenOf own_pd22 rfl) rfl (Nat.le_of_eq rfl) (hb hby at_149) (by decide) (by decide) (by decide) (by decide) ?_
   intro v5 T5 L5 s X5 hZ hown hI5 hvm5 hhp5 hWw5 hQ5
   obtain ⟨rfl, Nq5, hh5⟩ := hQ5
   have N5 := Fr.app N4 Nq5
   show own_Ends p e below s _ _ _ (own_F T5 m 152 #[.val (.long i0), .second, .val (.long i1), .second, iv i2, iv (i2 &&& (3 : Int32)), iv (((i2.toUInt32 >>> ((2 : Int32) &&& 31).toUInt32).toInt32) &&& (3 : Int32)), rv ca, rv cb, rv x3, rv x4, .unset, .unset, .unset, .unset, .unset, .unset] [(.int (own_cr f g2 (Int32.toInt (i2 &&& (3 : Int32))).toNat (Int32.toInt (((i2.toUInt32 >>> ((2 : Int32) &&& 31).toUInt32).toInt32) &&& (3 : Int32))).toNat (i2 &&& (3 : Int32)) (((i2.toUInt32 >>> ((2 : Int32) &&& 31).toUInt32).toInt32) &&& (3 : Int32)) 3 0))])
   obtain ⟨rr, hrr⟩ : ∃ r_ : Int32, r_ = own_cr f g2 (Int32.toInt (i2 &&& (3 : Int32))).toNat (Int32.toInt (((i2.toUInt32 >>> ((2 : Int32) &&& 31).toUInt32).toInt32) &&& (3 : Int32))).toNat (i2 &&& (3 : Int32)) (((i2.toUInt32 >>> ((2 : Int32) &&& 31).toUInt32).toInt32) &&& (3 : Int32)) 3 0 := ⟨_, rfl⟩
   obtain ⟨cx_, cy_, hcm⟩ := own_cr3 f g2 (Int32.toInt (i2 &&& (3 : Int32))).toNat (Int32.toInt (((i2.toUInt32 >>> ((2 : Int32) &&& 31).toUInt32).toInt32) &&& (3 : Int32))).toNat (i2 &&& (3 : Int32)) (((i2.toUInt32 >>> ((2 : Int32) &&& 31).toUInt32).toInt32) &&& (3 : Int32)) 3 0
   obtain ⟨hs1, hs2, hs3⟩ := own_cst3 cx_ cy_ rr (hrr.trans hcm)
   rw [← hrr]
   show own_Ends p e below s _ _ _ (own_F T5 m 152 #[.val (.long i0), .second, .val (.long i1), .second, iv i2, iv (i2 &&& (3 : Int32)), iv (((i2.toUInt32 >>> ((2 : Int32) &&& 31).toUInt32).toInt32) &&& (3 : Int32)), rv ca, rv cb, rv x3, rv x4, .unset, .unset, .unset, .unset, .unset, .unset] [(.int rr)])
   refine own_g (own_F T5 m 154 #[.val (.long i0), .second, .val (.long i1), .second, iv i2, iv (i2 &&& (3 : Int32)), iv (((i2.toUInt32 >>> ((2 : Int32) &&& 31).toUInt32).toInt32) &&& (3 : Int32)), rv ca, rv cb, rv x3, rv x4, iv rr, .unset, .unset, .unset, .unset, .unset] []) (fun _ z_ => XS.istore X5.here hx rfl (hb hby at_152) rfl (l' := #[.val (.long i0), .second, .val (.long i1), .second, iv i2, iv (i2 &&& (3 : Int32)), iv (((i2.toUInt32 >>> ((2 : Int32) &&& 31).toUInt32).toInt32) &&& (3 : Int32)), rv ca, rv cb, rv x3, rv x4, iv rr, .unset, .unset, .unset, .unset, .unset]) rfl z_) ?_
   refine own_g (own_F T5 m 156 #[.val (.long i0), .second, .val (.long i1), .second, iv i2, iv (i2 &&& (3 : Int32)), iv (((i2.toUInt32 >>> ((2 : Int32) &&& 31).toUInt32).toInt32) &&& (3 : Int32)), rv ca, rv cb, rv x3, rv x4, iv rr, .unset, .unset, .unset, .unset, .unset] [(.int rr)]) (fun _ z_ => XS.iload X5.here hx rfl (hb hby at_154) rfl z_) ?_
   by_cases c156 : rr < (0 : Int32)
   · -- pc 156: rr < (0 : Int32)
    refine own_g (own_F T5 m 159 #[.val (.long i0), .second, .val (.long i1), .second, iv i2, iv (i2 &&& (3 : Int32)), iv (((i2.toUInt32 >>> ((2 : Int32) &&& 31).toUInt32).toInt32) &&& (3 : Int32)), rv ca, rv cb, rv x3, rv x4, iv rr, .unset, .unset, .unset, .unset, .unset] []) (fun _ z_ => XS.ifNo X5.here hx rfl (hb hby at_156) rfl ((if0 _ _).trans (tlt c156).2.1) z_) ?_
    refine own_g (own_F T5 m 160 #[.val (.long i0), .second, .val (.long i1), .second, iv i2, iv (i2 &&& (3 : Int32)), iv (((i2.toUInt32 >>> ((2 : Int32) &&& 31).toUInt32).toInt32) &&& (3 : Int32)), rv ca, rv cb, rv x3, rv x4, iv rr, .unset, .unset, .unset, .unset, .unset] [(.int (-1))]) (fun _ z_ => XS.iconst X5.here hx rfl (hb hby at_159) z_) ?_
    refine own_g (own_F T5 m 173 #[.val (.long i0), .second, .val (.long i1), .second, iv i2, iv (i2 &&& (3 : Int32)), iv (((i2.toUInt32 >>> ((2 : Int32) &&& 31).toUInt32).toInt32) &&& (3 : Int32)), rv ca, rv cb, rv x3, rv x4, iv rr, .unset, .unset, .unset, .unset, .unset] [(.int (-1))]) (fun _ z_ => XS.goto X5.here hx rfl (pc0 := 160) (pc' := 173) rfl (hb hby at_160) (by decide) (by decide) z_) ?_
    have hsg : (-1 : Int32) = rr := (hs1 c156).symm
    refine own_g (own_F T5 m 175 #[.val (.long i0), .second, .val (.long i1), .second, iv i2, iv (i2 &&& (3 : Int32)), iv (((i2.toUInt32 >>> ((2 : Int32) &&& 31).toUInt32).toInt32) &&& (3 : Int32)), rv ca, rv cb, rv x3, rv x4, iv rr, iv (-1), .unset, .unset, .unset, .unset] []) (fun _ z_ => XS.istore X5.here hx rfl (hb hby at_173) rfl (l' := #[.val (.long i0), .second, .val (.long i1), .second, iv i2, iv (i2 &&& (3 : Int32)), iv (((i2.toUInt32 >>> ((2 : Int32) &&& 31).toUInt32).toInt32) &&& (3 : Int32)), rv ca, rv cb, rv x3, rv x4, iv rr, iv (-1), .unset, .unset, .unset, .unset]) rfl z_) ?_
    refine own_g (own_F T5 m 176 #[.val (.long i0), .second, .val (.long i1), .second, iv i2, iv (i2 &&& (3 : Int32)), iv (((i2.toUInt32 >>> ((2 : Int32) &&& 31).toUInt32).toInt32) &&& (3 : Int32)), rv ca, rv cb, rv x3, rv x4, iv rr, iv (-1), .unset, .unset, .unset, .unset] [(.int 3)]) (fun _ z_ => XS.iconst X5.here hx rfl (hb hby at_175) z_) ?_
    refine own_newA X5 hx hZ .int rfl (own_w hw 51) hh5 (hb hby at_176) 3 rfl 3 (by decide) (by decide) (by decide) (by decide) ?_
    intro T6 h6 b6 X6 e6 E6 g6 A6
    have sz_b6 : h0.size ≤ b6 := Nat.le_trans (Nat.le_trans (Nat.le_trans (Nat.le_trans zz1 (Nat.le_of_eq W2.size.symm)) K3.1) K4.1) (Nat.le_of_eq g6.symm)
    have ge_b6 : n0 ≤ b6 := Nat.le_trans (Nat.le_trans (Nat.le_trans (Nat.le_trans zs1 (Nat.le_of_eq W2.size.symm)) K3.1) K4.1) (Nat.le_of_eq g6.symm)
    have ne_ca_b6 : ca ≠ b6 := Nat.ne_of_lt (Nat.lt_of_lt_of_le (((f1_0.other W2 nab).keep K3 nin0).keep K4 nin0).lt (Nat.le_of_eq g6.symm))
    have ne_cb_b6 : cb ≠ b6 := Nat.ne_of_lt (Nat.lt_of_lt_of_le ((A2.keep K3 nin0).keep K4 nin0).lt (Nat.le_of_eq g6.symm))
    have A6 : own_A Z h6 b6 .int 3 (fun q_ => .int ((fun _ => (0 : Int32)) q_)) := A6
    show own_Ends p e below s _ _ _ (own_F T6 m 178 #[.val (.long i0), .second, .val (.long i1), .second, iv i2, iv (i2 &&& (3 : Int32)), iv (((i2.toUInt32 >>> ((2 : Int32) &&& 31).toUInt32).toInt32) &&& (3 : Int32)), rv ca, rv cb, rv x3, rv x4, iv rr, iv (-1), .unset, .unset, .unset, .unset] [(.ref b6)])
    refine own_g (own_F T6 m 180 #[.val (.long i0), .second, .val (.long i1), .second, iv i2, iv (i2 &&& (3 : Int32)), iv (((i2.toUInt32 >>> ((2 : Int32) &&& 31).toUInt32).toInt32) &&& (3 : Int32)), rv ca, rv cb, rv x3, rv x4, iv rr, iv (-1), rv b6, .unset, .unset, .unset] []) (fun _ z_ => XS.astore X6.here hx rfl (hb hby at_178) rfl rfl (l' := #[.val (.long i0), .second, .val (.long i1), .second, iv i2, iv (i2 &&& (3 : Int32)), iv (((i2.toUInt32 >>> ((2 : Int32) &&& 31).toUInt32).toInt32) &&& (3 : Int32)), rv ca, rv cb, rv x3, rv x4, iv rr, iv (-1), rv b6, .unset, .unset, .unset]) rfl z_) ?_
    refine own_g (own_F T6 m 181 #[.val (.long i0), .second, .val (.long i1), .second, iv i2, iv (i2 &&& (3 : Int32)), iv (((i2.toUInt32 >>> ((2 : Int32) &&& 31).toUInt32).toInt32) &&& (3 : Int32)), rv ca, rv cb, rv x3, rv x4, iv rr, iv (-1), rv b6, .unset, .unset, .unset] [(.int 3)]) (fun _ z_ => XS.iconst X6.here hx rfl (hb hby at_180) z_) ?_
    refine own_newA X6 hx hZ .int rfl (own_w hw 51) e6 (hb hby at_181) 3 rfl 3 (by decide) (by decide) (by decide) (by decide) ?_
    intro T7 h7 b7 X7 e7 E7 g7 A7
    have sz_b7 : h0.size ≤ b7 := Nat.le_trans (Nat.le_trans (Nat.le_trans (Nat.le_trans (Nat.le_trans zz1 (Nat.le_of_eq W2.size.symm)) K3.1) K4.1) E6.1) (Nat.le_of_eq g7.symm)
    have ge_b7 : n0 ≤ b7 := Nat.le_trans (Nat.le_trans (Nat.le_trans (Nat.le_trans (Nat.le_trans zs1 (Nat.le_of_eq W2.size.symm)) K3.1) K4.1) E6.1) (Nat.le_of_eq g7.symm)
    have ne_ca_b7 : ca ≠ b7 := Nat.ne_of_lt (Nat.lt_of_lt_of_le ((((f1_0.other W2 nab).keep K3 nin0).keep K4 nin0).ext E6).lt (Nat.le_of_eq g7.symm))
    have ne_cb_b7 : cb ≠ b7 := Nat.ne_of_lt (Nat.lt_of_lt_of_le (((A2.keep K3 nin0).keep K4 nin0).ext E6).lt (Nat.le_of_eq g7.symm))
    have ne_b6_b7 : b6 ≠ b7 := Nat.ne_of_lt (Nat.lt_of_lt_of_le A6.lt (Nat.le_of_eq g7.symm))
    have A7 : own_A Z h7 b7 .int 3 (fun q_ => .int ((fun _ => (0 : Int32)) q_)) := A7
    show own_Ends p e below s _ _ _ (own_F T7 m 183 #[.val (.long i0), .second, .val (.long i1), .second, iv i2, iv (i2 &&& (3 : Int32)), iv (((i2.toUInt32 >>> ((2 : Int32) &&& 31).toUInt32).toInt32) &&& (3 : Int32)), rv ca, rv cb, rv x3, rv x4, iv rr, iv (-1), rv b6, .unset, .unset, .unset] [(.ref b7)])
    refine own_g (own_F T7 m 185 #[.val (.long i0), .second, .val (.long i1), .second, iv i2, iv (i2 &&& (3 : Int32)), iv (((i2.toUInt32 >>> ((2 : Int32) &&& 31).toUInt32).toInt32) &&& (3 : Int32)), rv ca, rv cb, rv x3, rv x4, iv rr, iv (-1), rv b6, rv b7, .unset, .unset] []) (fun _ z_ => XS.astore X7.here hx rfl (hb hby at_183) rfl rfl (l' := #[.val (.long i0), .second, .val (.long i1), .second, iv i2, iv (i2 &&& (3 : Int32)), iv (((i2.toUInt32 >>> ((2 : Int32) &&& 31).toUInt32).toInt32) &&& (3 : Int32)), rv ca, rv cb, rv x3, rv x4, iv rr, iv (-1), rv b6, rv b7, .unset, .unset]) rfl z_) ?_
    refine own_g (own_F T7 m 187 #[.val (.long i0), .second, .val (.long i1), .second, iv i2, iv (i2 &&& (3 : Int32)), iv (((i2.toUInt32 >>> ((2 : Int32) &&& 31).toUInt32).toInt32) &&& (3 : Int32)), rv ca, rv cb, rv x3, rv x4, iv rr, iv (-1), rv b6, rv b7, .unset, .unset] [(.ref ca)]) (fun _ z_ => XS.aload X7.here hx rfl (hb hby at_185) rfl rfl z_) ?_
    refine own_g (own_F T7 m 189 #[.val (.long i0), .second, .val (.long i1), .second, iv i2, iv (i2 &&& (3 : Int32)), iv (((i2.toUInt32 >>> ((2 : Int32) &&& 31).toUInt32).toInt32) &&& (3 : Int32)), rv ca, rv cb, rv x3, rv x4, iv rr, iv (-1), rv b6, rv b7, .unset, .unset] [(.int (i2 &&& (3 : Int32))), (.ref ca)]) (fun _ z_ => XS.iload X7.here hx rfl (hb hby at_187) rfl z_) ?_
    refine own_g (own_F T7 m 191 #[.val (.long i0), .second, .val (.long i1), .second, iv i2, iv (i2 &&& (3 : Int32)), iv (((i2.toUInt32 >>> ((2 : Int32) &&& 31).toUInt32).toInt32) &&& (3 : Int32)), rv ca, rv cb, rv x3, rv x4, iv rr, iv (-1), rv b6, rv b7, .unset, .unset] [(.ref b6), (.int (i2 &&& (3 : Int32))), (.ref ca)]) (fun _ z_ => XS.aload X7.here hx rfl (hb hby at_189) rfl rfl z_) ?_
    refine own_callS (y := (⟨"com/example/kunci/kunci/CodePointsComparePinLaw", "decompose", "([CI[I)I"⟩ : MethodName)) X7 hx hZ hown (own_w hw 52) (own_w hw 53) (own_w hw 3) (own_w hw 54) (by decide) e7 (hM := own_decC l Z a0 hw [] ca b6 (Int32.toInt (i2 &&& (3 : Int32))).toNat (i2 &&& (3 : Int32)) f (fun _ => 0) h7 n0 (Nat.le_trans (Nat.le_trans (Nat.le_trans (Nat.le_trans (Nat.le_trans zs1 (Nat.le_of_eq W2.size.symm)) K3.1) K4.1) E6.1) E7.1) (((((f1_0.other W2 nab).keep K3 nin0).keep K4 nin0).ext E6).ext E7) (A6.ext E7) (show Int32.toInt (i2 &&& (3 : Int32)) = _ by have := own_and3 i2; omega) (show (Int32.toInt (i2 &&& (3 : Int32))).toNat ≤ 3 by have := own_and3 i2; omega) ge_b6 ne_ca_b6) (W := 0) (pc := 191) (Ls := #[.val (.long i0), .second, .val (.long i1), .second, iv i2, iv (i2 &&& (3 : Int32)), iv (((i2.toUInt32 >>> ((2 : Int32) &&& 31).toUInt32).toInt32) &&& (3 : Int32)), rv ca, rv cb, rv x3, rv x4, iv rr, iv (-1), rv b6, rv b7, .unset, .unset]) (argsL := [(.ref ca), (.int (i2 &&& (3 : Int32))), (.ref b6)]) (rest := []) (st0 := [(.ref b6), (.int (i2 &&& (3 : Int32))), (.ref ca)]) (by rw [hml]; rfl) (lenOf own_pd23 rfl) rfl (Nat.le_of_eq rfl) (hb hby at_191) (by decide) (by decide) (by decide) (by decide) ?_
    intro v8 T8 L8 s X8 hZ hown hI8 hvm8 hhp8 hWw8 hQ8
    obtain ⟨k8, g8, rfl, Nq8, K8, Ao8, dc8⟩ := hQ8
    have N8 := Fr.app N5 Nq8
    show own_Ends p e below s _ _ _ (own_F T8 m 194 #[.val (.long i0), .second, .val (.long i1), .second, iv i2, iv (i2 &&& (3 : Int32)), iv (((i2.toUInt32 >>> ((2 : Int32) &&& 31).toUInt32).toInt32) &&& (3 : Int32)), rv ca, rv cb, rv x3, rv x4, iv rr, iv (-1), rv b6, rv b7, .unset, .unset] [(.int k8)])
    refine own_g (own_F T8 m 196 #[.val (.long i0), .second, .val (.long i1), .second, iv i2, iv (i2 &&& (3 : Int32)), iv (((i2.toUInt32 >>> ((2 : Int32) &&& 31).toUInt32).toInt32) &&& (3 : Int32)), rv ca, rv cb, rv x3, rv x4, iv rr, iv (-1), rv b6, rv b7, iv k8, .unset] []) (fun _ z_ => XS.istore X8.here hx rfl (hb hby at_194) rfl (l' := #[.val (.long i0), .second, .val (.long i1), .second, iv i2, iv (i2 &&& (3 : Int32)), iv (((i2.toUInt32 >>> ((2 : Int32) &&& 31).toUInt32).toInt32) &&& (3 : Int32)), rv ca, rv cb, rv x3, rv x4, iv rr, iv (-1), rv b6, rv b7, iv k8, .unset]) rfl z_) ?_
    refine own_g (own_F T8 m 198 #[.val (.long i0), .second, .val (.long i1), .second, iv i2, iv (i2 &&& (3 : Int32)), iv (((i2.toUInt32 >>> ((2 : Int32) &&& 31).toUInt32).toInt32) &&& (3 : Int32)), rv ca, rv cb, rv x3, rv x4, iv rr, iv (-1), rv b6, rv b7, iv k8, .unset] [(.ref cb)]) (fun _ z_ => XS.aload X8.here hx rfl (hb hby at_196) rfl rfl z_) ?_
    refine own_g (own_F T8 m 200 #[.val (.long i0), .second, .val (.long i1), .second, iv i2, iv (i2 &&& (3 : Int32)), iv (((i2.toUInt32 >>> ((2 : Int32) &&& 31).toUInt32).toInt32) &&& (3 : Int32)), rv ca, rv cb, rv x3, rv x4, iv rr, iv (-1), rv b6, rv b7, iv k8, .unset] [(.int (((i2.toUInt32 >>> ((2 : Int32) &&& 31).toUInt32).toInt32) &&& (3 : Int32))), (.ref cb)]) (fun _ z_ => XS.iload X8.here hx rfl (hb hby at_198) rfl z_) ?_
    refine own_g (own_F T8 m 202 #[.val (.long i0), .second, .val (.long i1), .second, iv i2, iv (i2 &&& (3 : Int32)), iv (((i2.toUInt32 >>> ((2 : Int32) &&& 31).toUInt32).toInt32) &&& (3 : Int32)), rv ca, rv cb, rv x3, rv x4, iv rr, iv (-1), rv b6, rv b7, iv k8, .unset] [(.ref b7), (.int (((i2.toUInt32 >>> ((2 : Int32) &&& 31).toUInt32).toInt32) &&& (3 : Int32))), (.ref cb)]) (fun _ z_ => XS.aload X8.here hx rfl (hb hby at_200) rfl rfl z_) ?_
    refine own_callS (y := (⟨"com/example/kunci/kunci/CodePointsComparePinLaw", "decompose", "([CI[I)I"⟩ : MethodName)) X8 hx hZ hown (own_w hw 52) (own_w hw 53) (own_w hw 3) (own_w hw 54) (by decide) (rfl : T8.heap = T8.heap) (hM := own_decC l Z a0 hw [] cb b7 (Int32.toInt (((i2.toUInt32 >>> ((2 : Int32) &&& 31).toUInt32).toInt32) &&& (3 : Int32))).toNat (((i2.toUInt32 >>> ((2 : Int32) &&& 31).toUInt32).toInt32) &&& (3 : Int32)) g2 (fun _ => 0) T8.heap n0 (Nat.le_trans (Nat.le_trans (Nat.le_trans (Nat.le_trans (Nat.le_trans (Nat.le_trans zs1 (Nat.le_of_eq W2.size.symm)) K3.1) K4.1) E6.1) E7.1) K8.1) (((((A2.keep K3 nin0).keep K4 nin0).ext E6).ext E7).keep K8 (ninS ne_cb_b6 nin0)) (A7.keep K8 (ninS (Ne.symm ne_b6_b7) nin0)) (show Int32.toInt (((i2.toUInt32 >>> ((2 : Int32) &&& 31).toUInt32).toInt32) &&& (3 : Int32)) = _ by have := own_and3 ((i2.toUInt32 >>> ((2 : Int32) &&& 31).toUInt32).toInt32); omega) (show (Int32.toInt (((i2.toUInt32 >>> ((2 : Int32) &&& 31).toUInt32).toInt32) &&& (3 : Int32))).toNat ≤ 3 by have := own_and3 ((i2.toUInt32 >>> ((2 : Int32) &&& 31).toUInt32).toInt32); omega) ge_b7 ne_cb_b7) (W := 0) (pc := 202) (Ls := #[.val (.long i0), .second, .val (.long i1), .second, iv i2, iv (i2 &&& (3 : Int32)), iv (((i2.toUInt32 >>> ((2 : Int32) &&& 31).toUInt32).toInt32) &&& (3 : Int32)), rv ca, rv cb, rv x3, rv x4, iv rr, iv (-1), rv b6, rv b7, iv k8, .unset]) (argsL := [(.ref cb), (.int (((i2.toUInt32 >>> ((2 : Int32) &&& 31).toUInt32).toInt32) &&& (3 : Int32))), (.ref b7)]) (rest := []) (st0 := [(.ref b7), (.int (((i2.toUInt32 >>> ((2 : Int32) &&& 31).toUInt32).toInt32) &&& (3 : Int32))), (.ref cb)]) (by rw [hml]; rfl) (lenOf own_pd23 rfl) rfl (Nat.le_of_eq rfl) (hb hby at_202) (by decide) (by decide) (by decide) (by decide) ?_
    intro v9 T9 L9 s X9 hZ hown hI9 hvm9 hhp9 hWw9 hQ9
    obtain ⟨k9, g9, rfl, Nq9, K9, Ao9, dc9⟩ := hQ9
    have N9 := Fr.app N8 Nq9
    show own_Ends p e below s _ _ _ (own_F T9 m 205 #[.val (.long i0), .second, .val (.long i1), .second, iv i2, iv (i2 &&& (3 : Int32)), iv (((i2.toUInt32 >>> ((2 : Int32) &&& 31).toUInt32).toInt32) &&& (3 : Int32)), rv ca, rv cb, rv x3, rv x4, iv rr, iv (-1), rv b6, rv b7, iv k8, .unset] [(.int k9)])
    refine own_g (own_F T9 m 207 #[.val (.long i0), .second, .val (.long i1), .second, iv i2, iv (i2 &&& (3 : Int32)), iv (((i2.toUInt32 >>> ((2 : Int32) &&& 31).toUInt32).toInt32) &&& (3 : Int32)), rv ca, rv cb, rv x3, rv x4, iv rr, iv (-1), rv b6, rv b7, iv k8, iv k9] []) (fun _ z_ => XS.istore X9.here hx rfl (hb hby at_205) rfl (l' := #[.val (.long i0), .second, .val (.long i1), .second, iv i2, iv (i2 &&& (3 : Int32)), iv (((i2.toUInt32 >>> ((2 : Int32) &&& 31).toUInt32).toInt32) &&& (3 : Int32)), rv ca, rv cb, rv x3, rv x4, iv rr, iv (-1), rv b6, rv b7, iv k8, iv k9]) rfl z_) ?_
    refine own_g (own_F T9 m 209 #[.val (.long i0), .second, .val (.long i1), .second, iv i2, iv (i2 &&& (3 : Int32)), iv (((i2.toUInt32 >>> ((2 : Int32) &&& 31).toUInt32).toInt32) &&& (3 : Int32)), rv ca, rv cb, rv x3, rv x4, iv rr, iv (-1), rv b6, rv b7, iv k8, iv k9] [(.int (-1))]) (fun _ z_ => XS.iload X9.here hx rfl (hb hby at_207) rfl z_) ?_
    refine own_g (own_F T9 m 211 #[.val (.long i0), .second, .val (.long i1), .second, iv i2, iv (i2 &&& (3 : Int32)), iv (((i2.toUInt32 >>> ((2 : Int32) &&& 31).toUInt32).toInt32) &&& (3 : Int32)), rv ca, rv cb, rv x3, rv x4, iv rr, iv (-1), rv b6, rv b7, iv k8, iv k9] [(.ref b6), (.int (-1))]) (fun _ z_ => XS.aload X9.here hx rfl (hb hby at_209) rfl rfl z_) ?_
    refine own_g (own_F T9 m 213 #[.val (.long i0), .second, .val (.long i1), .second, iv i2, iv (i2 &&& (3 : Int32)), iv (((i2.toUInt32 >>> ((2 : Int32) &&& 31).toUInt32).toInt32) &&& (3 : Int32)), rv ca, rv cb, rv x3, rv x4, iv rr, iv (-1), rv b6, rv b7, iv k8, iv k9] [(.int k8), (.ref b6), (.int (-1))]) (fun _ z_ => XS.iload X9.here hx rfl (hb hby at_211) rfl z_) ?_
    refine own_g (own_F T9 m 215 #[.val (.long i0), .second, .val (.long i1), .second, iv i2, iv (i2 &&& (3 : Int32)), iv (((i2.toUInt32 >>> ((2 : Int32) &&& 31).toUInt32).toInt32) &&& (3 : Int32)), rv ca, rv cb, rv x3, rv x4, iv rr, iv (-1), rv b6, rv b7, iv k8, iv k9] [(.ref b7), (.int k8), (.ref b6), (.int (-1))]) (fun _ z_ => XS.aload X9.here hx rfl (hb hby at_213) rfl rfl z_) ?_
    refine own_g (own_F T9 m 217 #[.val (.long i0), .second, .val (.long i1), .second, iv i2, iv (i2 &&& (3 : Int32)), iv (((i2.toUInt32 >>> ((2 : Int32) &&& 31).toUInt32).toInt32) &&& (3 : Int32)), rv ca, rv cb, rv x3, rv x4, iv rr, iv (-1), rv b6, rv b7, iv k8, iv k9] [(.int k9), (.ref b7), (.int k8), (.ref b6), (.int (-1))]) (fun _ z_ => XS.iload X9.here hx rfl (hb hby at_215) rfl z_) ?_
    refine own_callS (y := (⟨"com/example/kunci/kunci/CodePointsComparePinLaw", "lex", "([II[II)I"⟩ : MethodName)) X9 hx hZ hown (own_w hw 55) (own_w hw 56) (own_w hw 3) (own_w hw 57) (by decide) (rfl : T9.heap = T9.heap) (hM := own_lexC l Z a0 hw [] b6 b7 k8 k9 g8 g9 T9.heap n0 (Nat.le_trans (Nat.le_trans (Nat.le_trans (Nat.le_trans (Nat.le_trans (Nat.le_trans (Nat.le_trans zs1 (Nat.le_of_eq W2.size.symm)) K3.1) K4.1) E6.1) E7.1) K8.1) K9.1) (Ao8.keep K9 (ninS ne_b6_b7 nin0)) Ao9) (W := 1) (pc := 217) (Ls := #[.val (.long i0), .second, .val (.long i1), .second, iv i2, iv (i2 &&& (3 : Int32)), iv (((i2.toUInt32 >>> ((2 : Int32) &&& 31).toUInt32).toInt32) &&& (3 : Int32)), rv ca, rv cb, rv x3, rv x4, iv rr, iv (-1), rv b6, rv b7, iv k8, iv k9]) (argsL := [(.ref b6), (.int k8), (.ref b7), (.int k9)]) (rest := [(.int (-1))]) (st0 := [(.int k9), (.ref b7), (.int k8), (.ref b6), (.int (-1))]) (by rw [hml]; rfl) (lenOf own_pd24 rfl) rfl (Nat.le_of_eq rfl) (hb hby at_217) (by decide) (by decide) (by decide) (by decide) ?_
    intro v10 T10 L10 s X10 hZ hown hI10 hvm10 hhp10 hWw10 hQ10
    obtain ⟨rfl, Nq10, hh10⟩ := hQ10
    have N10 := Fr.app N9 Nq10
    show own_Ends p e below s _ _ _ (own_F T10 m 220 #[.val (.long i0), .second, .val (.long i1), .second, iv i2, iv (i2 &&& (3 : Int32)), iv (((i2.toUInt32 >>> ((2 : Int32) &&& 31).toUInt32).toInt32) &&& (3 : Int32)), rv ca, rv cb, rv x3, rv x4, iv rr, iv (-1), rv b6, rv b7, iv k8, iv k9] [(.int (own_lex g8 k8 g9 k9)), (.int (-1))])
    refine own_g (own_F T10 m 223 #[.val (.long i0), .second, .val (.long i1), .second, iv i2, iv (i2 &&& (3 : Int32)), iv (((i2.toUInt32 >>> ((2 : Int32) &&& 31).toUInt32).toInt32) &&& (3 : Int32)), rv ca, rv cb, rv x3, rv x4, iv rr, iv (-1), rv b6, rv b7, iv k8, iv k9] []) (fun _ z_ => XS.icmpNo X10.here hx rfl (hb hby at_220) rfl (teq (hsg.trans (hrr.trans (own_main (show Int32.toInt (i2 &&& (3 : Int32)) = _ by have := own_and3 i2; omega) (show Int32.toInt (((i2.toUInt32 >>> ((2 : Int32) &&& 31).toUInt32).toInt32) &&& (3 : Int32)) = _ by have := own_and3 ((i2.toUInt32 >>> ((2 : Int32) &&& 31).toUInt32).toInt32); omega) (show (Int32.toInt (i2 &&& (3 : Int32))).toNat ≤ 3 by have := own_and3 i2; omega) (show (Int32.toInt (((i2.toUInt32 >>> ((2 : Int32) &&& 31).toUInt32).toInt32) &&& (3 : Int32))).toNat ≤ 3 by have := own_and3 ((i2.toUInt32 >>> ((2 : Int32) &&& 31).toUInt32).toInt32); omega) hf hg3 dc8 dc9)))).2 z_) ?_
    refine own_g (own_F T10 m 224 #[.val (.long i0), .second, .val (.long i1), .second, iv i2, iv (i2 &&& (3 : Int32)), iv (((i2.toUInt32 >>> ((2 : Int32) &&& 31).toUInt32).toInt32) &&& (3 : Int32)), rv ca, rv cb, rv x3, rv x4, iv rr, iv (-1), rv b6, rv b7, iv k8, iv k9] [(.int 1)]) (fun _ z_ => XS.iconst X10.here hx rfl (hb hby at_223) z_) ?_
    refine own_g (own_F T10 m 228 #[.val (.long i0), .second, .val (.long i1), .second, iv i2, iv (i2 &&& (3 : Int32)), iv (((i2.toUInt32 >>> ((2 : Int32) &&& 31).toUInt32).toInt32) &&& (3 : Int32)), rv ca, rv cb, rv x3, rv x4, iv rr, iv (-1), rv b6, rv b7, iv k8, iv k9] [(.int 1)]) (fun _ z_ => XS.goto X10.here hx rfl (pc0 := 224) (pc' := 228) rfl (hb hby at_224) (by decide) (by decide) z_) ?_
    refine own_ret (t := .boolean) X10 hx hlk hrt rfl (Or.inl ⟨rfl, by simp, _, rfl⟩) (hb hby at_228) (by decide) (by decide) ?_
    exact ⟨rfl, N10⟩
   · -- pc 156: not rr < (0 : Int32)
    refine own_g (own_F T5 m 163 #[.val (.long i0), .second, .val (.long i1), .second, iv i2, iv (i2 &&& (3 : Int32)), iv (((i2.toUInt32 >>> ((2 : Int32) &&& 31).toUInt32).toInt32) &&& (3 : Int32)), rv ca, rv cb, rv x3, rv x4, iv rr, .unset, .unset, .unset, .unset, .unset] []) (fun _ z_ => XS.ifYes X5.here hx rfl (pc0 := 156) (pc' := 163) rfl (hb hby at_156) rfl ((if0 _ _).trans (flt c156).2.1) (by decide) (by decide) z_) ?_
    refine own_g (own_F T5 m 165 #[.val (.long i0), .second, .val (.long i1), .second, iv i2, iv (i2 &&& (3 : Int32)), iv (((i2.toUInt32 >>> ((2 : Int32) &&& 31).toUInt32).toInt32) &&& (3 : Int32)), rv ca, rv cb, rv x3, rv x4, iv rr, .unset, .unset, .unset, .unset, .unset] [(.int rr)]) (fun _ z_ => XS.iload X5.here hx rfl (hb hby at_163) rfl z_) ?_
    by_cases c165 : (0 : Int32) < rr
    · -- pc 165: (0 : Int32) < rr
     refine own_g (own_F T5 m 168 #[.val (.long i0), .second, .val (.long i1), .second, iv i2, iv (i2 &&& (3 : Int32)), iv (((i2.toUInt32 >>> ((2 : Int32) &&& 31).toUInt32).toInt32) &&& (3 : Int32)), rv ca, rv cb, rv x3, rv x4, iv rr, .unset, .unset, .unset, .unset, .unset] []) (fun _ z_ => XS.ifNo X5.here hx rfl (hb hby at_165) rfl ((if0 _ _).trans (tlt c165).2.2.2) z_) ?_
     refine own_g (own_F T5 m 169 #[.val (.long i0), .second, .val (.long i1), .second, iv i2, iv (i2 &&& (3 : Int32)), iv (((i2.toUInt32 >>> ((2 : Int32) &&& 31).toUInt32).toInt32) &&& (3 : Int32)), rv ca, rv cb, rv x3, rv x4, iv rr, .unset, .unset, .unset, .unset, .unset] [(.int 1)]) (fun _ z_ => XS.iconst X5.here hx rfl (hb hby at_168) z_) ?_
     refine own_g (own_F T5 m 173 #[.val (.long i0), .second, .val (.long i1), .second, iv i2, iv (i2 &&& (3 : Int32)), iv (((i2.toUInt32 >>> ((2 : Int32) &&& 31).toUInt32).toInt32) &&& (3 : Int32)), rv ca, rv cb, rv x3, rv x4, iv rr, .unset, .unset, .unset, .unset, .unset] [(.int 1)]) (fun _ z_ => XS.goto X5.here hx rfl (pc0 := 169) (pc' := 173) rfl (hb hby at_169) (by decide) (by decide) z_) ?_
     have hsg : (1 : Int32) = rr := (hs2 c156 c165).symm
     refine own_g (own_F T5 m 175 #[.val (.long i0), .second, .val (.long i1), .second, iv i2, iv (i2 &&& (3 : Int32)), iv (((i2.toUInt32 >>> ((2 : Int32) &&& 31).toUInt32).toInt32) &&& (3 : Int32)), rv ca, rv cb, rv x3, rv x4, iv rr, iv 1, .unset, .unset, .unset, .unset] []) (fun _ z_ => XS.istore X5.here hx rfl (hb hby at_173) rfl (l' := #[.val (.long i0), .second, .val (.long i1), .second, iv i2, iv (i2 &&& (3 : Int32)), iv (((i2.toUInt32 >>> ((2 : Int32) &&& 31).toUInt32).toInt32) &&& (3 : Int32)), rv ca, rv cb, rv x3, rv x4, iv rr, iv 1, .unset, .unset, .unset, .unset]) rfl z_) ?_
     refine own_g (own_F T5 m 176 #[.val (.long i0), .second, .val (.long i1), .second, iv i2, iv (i2 &&& (3 : Int32)), iv (((i2.toUInt32 >>> ((2 : Int32) &&& 31).toUInt32).toInt32) &&& (3 : Int32)), rv ca, rv cb, rv x3, rv x4, iv rr, iv 1, .unset, .unset, .unset, .unset] [(.int 3)]) (fun _ z_ => XS.iconst X5.here hx rfl (hb hby at_175) z_) ?_
     refine own_newA X5 hx hZ .int rfl (own_w hw 51) hh5 (hb hby at_176) 3 rfl 3 (by decide) (by decide) (by decide) (by decide) ?_
     intro T11 h11 b11 X11 e11 E11 g11 A11
     have sz_b11 : h0.size ≤ b11 := Nat.le_trans (Nat.le_trans (Nat.le_trans (Nat.le_trans zz1 (Nat.le_of_eq W2.size.symm)) K3.1) K4.1) (Nat.le_of_eq g11.symm)
     have ge_b11 : n0 ≤ b11 := Nat.le_trans (Nat.le_trans (Nat.le_trans (Nat.le_trans zs1 (Nat.le_of_eq W2.size.symm)) K3.1) K4.1) (Nat.le_of_eq g11.symm)
     have ne_ca_b11 : ca ≠ b11 := Nat.ne_of_lt (Nat.lt_of_lt_of_le (((f1_0.other W2 nab).keep K3 nin0).keep K4 nin0).lt (Nat.le_of_eq g11.symm))
     have ne_cb_b11 : cb ≠ b11 := Nat.ne_of_lt (Nat.lt_of_lt_of_le ((A2.keep K3 nin0).keep K4 nin0).lt (Nat.le_of_eq g11.symm))
     have A11 : own_A Z h11 b11 .int 3 (fun q_ => .int ((fun _ => (0 : Int32)) q_)) := A11
     show own_Ends p e below s _ _ _ (own_F T11 m 178 #[.val (.long i0), .second, .val (.long i1), .second, iv i2, iv (i2 &&& (3 : Int32)), iv (((i2.toUInt32 >>> ((2 : Int32) &&& 31).toUInt32).toInt32) &&& (3 : Int32)), rv ca, rv cb, rv x3, rv x4, iv rr, iv 1, .unset, .unset, .unset, .unset] [(.ref b11)])
     refine own_g (own_F T11 m 180 #[.val (.long i0), .second, .val (.long i1), .second, iv i2, iv (i2 &&& (3 : Int32)), iv (((i2.toUInt32 >>> ((2 : Int32) &&& 31).toUInt32).toInt32) &&& (3 : Int32)), rv ca, rv cb, rv x3, rv x4, iv rr, iv 1, rv b11, .unset, .unset, .unset] []) (fun _ z_ => XS.astore X11.here hx rfl (hb hby at_178) rfl rfl (l' := #[.val (.long i0), .second, .val (.long i1), .second, iv i2, iv (i2 &&& (3 : Int32)), iv (((i2.toUInt32 >>> ((2 : Int32) &&& 31).toUInt32).toInt32) &&& (3 : Int32)), rv ca, rv cb, rv x3, rv x4, iv rr, iv 1, rv b11, .unset, .unset, .unset]) rfl z_) ?_
     refine own_g (own_F T11 m 181 #[.val (.long i0), .second, .val (.long i1), .second, iv i2, iv (i2 &&& (3 : Int32)), iv (((i2.toUInt32 >>> ((2 : Int32) &&& 31).toUInt32).toInt32) &&& (3 : Int32)), rv ca, rv cb, rv x3, rv x4, iv rr, iv 1, rv b11, .unset, .unset, .unset] [(.int 3)]) (fun _ z_ => XS.iconst X11.here hx rfl (hb hby at_180) z_) ?_
     refine own_newA X11 hx hZ .int rfl (own_w hw 51) e11 (hb hby at_181) 3 rfl 3 (by decide) (by decide) (by decide) (by decide) ?_
     intro T12 h12 b12 X12 e12 E12 g12 A12
     have sz_b12 : h0.size ≤ b12 := Nat.le_trans (Nat.le_trans (Nat.le_trans (Nat.le_trans (Nat.le_trans zz1 (Nat.le_of_eq W2.size.symm)) K3.1) K4.1) E11.1) (Nat.le_of_eq g12.symm)
     have ge_b12 : n0 ≤ b12 := Nat.le_trans (Nat.le_trans (Nat.le_trans (Nat.le_trans (Nat.le_trans zs1 (Nat.le_of_eq W2.size.symm)) K3.1) K4.1) E11.1) (Nat.le_of_eq g12.symm)
     have ne_ca_b12 : ca ≠ b12 := Nat.ne_of_lt (Nat.lt_of_lt_of_le ((((f1_0.other W2 nab).keep K3 nin0).keep K4 nin0).ext E11).lt (Nat.le_of_eq g12.symm))
     have ne_cb_b12 : cb ≠ b12 := Nat.ne_of_lt (Nat.lt_of_lt_of_le (((A2.keep K3 nin0).keep K4 nin0).ext E11).lt (Nat.le_of_eq g12.symm))
     have ne_b11_b12 : b11 ≠ b12 := Nat.ne_of_lt (Nat.lt_of_lt_of_le A11.lt (Nat.le_of_eq g12.symm))
     have A12 : own_A Z h12 b12 .int 3 (fun q_ => .int ((fun _ => (0 : Int32)) q_)) := A12
     show own_Ends p e below s _ _ _ (own_F T12 m 183 #[.val (.long i0), .second, .val (.long i1), .second, iv i2, iv (i2 &&& (3 : Int32)), iv (((i2.toUInt32 >>> ((2 : Int32) &&& 31).toUInt32).toInt32) &&& (3 : Int32)), rv ca, rv cb, rv x3, rv x4, iv rr, iv 1, rv b11, .unset, .unset, .unset] [(.ref b12)])
     refine own_g (own_F T12 m 185 #[.val (.long i0), .second, .val (.long i1), .second, iv i2, iv (i2 &&& (3 : Int32)), iv (((i2.toUInt32 >>> ((2 : Int32) &&& 31).toUInt32).toInt32) &&& (3 : Int32)), rv ca, rv cb, rv x3, rv x4, iv rr, iv 1, rv b11, rv b12, .unset, .unset] []) (fun _ z_ => XS.astore X12.here hx rfl (hb hby at_183) rfl rfl (l' := #[.val (.long i0), .second, .val (.long i1), .second, iv i2, iv (i2 &&& (3 : Int32)), iv (((i2.toUInt32 >>> ((2 : Int32) &&& 31).toUInt32).toInt32) &&& (3 : Int32)), rv ca, rv cb, rv x3, rv x4, iv rr, iv 1, rv b11, rv b12, .unset, .unset]) rfl z_) ?_
     refine own_g (own_F T12 m 187 #[.val (.long i0), .second, .val (.long i1), .second, iv i2, iv (i2 &&& (3 : Int32)), iv (((i2.toUInt32 >>> ((2 : Int32) &&& 31).toUInt32).toInt32) &&& (3 : Int32)), rv ca, rv cb, rv x3, rv x4, iv rr, iv 1, rv b11, rv b12, .unset, .unset] [(.ref ca)]) (fun _ z_ => XS.aload X12.here hx rfl (hb hby at_185) rfl rfl z_) ?_
     refine own_g (own_F T12 m 189 #[.val (.long i0), .second, .val (.long i1), .second, iv i2, iv (i2 &&& (3 : Int32)), iv (((i2.toUInt32 >>> ((2 : Int32) &&& 31).toUInt32).toInt32) &&& (3 : Int32)), rv ca, rv cb, rv x3, rv x4, iv rr, iv 1, rv b11, rv b12, .unset, .unset] [(.int (i2 &&& (3 : Int32))), (.ref ca)]) (fun _ z_ => XS.iload X12.here hx rfl (hb hby at_187) rfl z_) ?_
     refine own_g (own_F T12 m 191 #[.val (.long i0), .second, .val (.long i1), .second, iv i2, iv (i2 &&& (3 : Int32)), iv (((i2.toUInt32 >>> ((2 : Int32) &&& 31).toUInt32).toInt32) &&& (3 : Int32)), rv ca, rv cb, rv x3, rv x4, iv rr, iv 1, rv b11, rv b12, .unset, .unset] [(.ref b11), (.int (i2 &&& (3 : Int32))), (.ref ca)]) (fun _ z_ => XS.aload X12.here hx rfl (hb hby at_189) rfl rfl z_) ?_
     refine own_callS (y := (⟨"com/example/kunci/kunci/CodePointsComparePinLaw", "decompose", "([CI[I)I"⟩ : MethodName)) X12 hx hZ hown (own_w hw 52) (own_w hw 53) (own_w hw 3) (own_w hw 54) (by decide) e12 (hM := own_decC l Z a0 hw [] ca b11 (Int32.toInt (i2 &&& (3 : Int32))).toNat (i2 &&& (3 : Int32)) f (fun _ => 0) h12 n0 (Nat.le_trans (Nat.le_trans (Nat.le_trans (Nat.le_trans (Nat.le_trans zs1 (Nat.le_of_eq W2.size.symm)) K3.1) K4.1) E11.1) E12.1) (((((f1_0.other W2 nab).keep K3 nin0).keep K4 nin0).ext E11).ext E12) (A11.ext E12) (show Int32.toInt (i2 &&& (3 : Int32)) = _ by have := own_and3 i2; omega) (show (Int32.toInt (i2 &&& (3 : Int32))).toNat ≤ 3 by have := own_and3 i2; omega) ge_b11 ne_ca_b11) (W := 0) (pc := 191) (Ls := #[.val (.long i0), .second, .val (.long i1), .second, iv i2, iv (i2 &&& (3 : Int32)), iv (((i2.toUInt32 >>> ((2 : Int32) &&& 31).toUInt32).toInt32) &&& (3 : Int32)), rv ca, rv cb, rv x3, rv x4, iv rr, iv 1, rv b11, rv b12, .unset, .unset]) (argsL := [(.ref ca), (.int (i2 &&& (3 : Int32))), (.ref b11)]) (rest := []) (st0 := [(.ref b11), (.int (i2 &&& (3 : Int32))), (.ref ca)]) (by rw [hml]; rfl) (lenOf own_pd23 rfl) rfl (Nat.le_of_eq rfl) (hb hby at_191) (by decide) (by decide) (by decide) (by decide) ?_
     intro v13 T13 L13 s X13 hZ hown hI13 hvm13 hhp13 hWw13 hQ13
     obtain ⟨k13, g13, rfl, Nq13, K13, Ao13, dc13⟩ := hQ13
     have N13 := Fr.app N5 Nq13
     show own_Ends p e below s _ _ _ (own_F T13 m 194 #[.val (.long i0), .second, .val (.long i1), .second, iv i2, iv (i2 &&& (3 : Int32)), iv (((i2.toUInt32 >>> ((2 : Int32) &&& 31).toUInt32).toInt32) &&& (3 : Int32)), rv ca, rv cb, rv x3, rv x4, iv rr, iv 1, rv b11, rv b12, .unset, .unset] [(.int k13)])
     refine own_g (own_F T13 m 196 #[.val (.long i0), .second, .val (.long i1), .second, iv i2, iv (i2 &&& (3 : Int32)), iv (((i2.toUInt32 >>> ((2 : Int32) &&& 31).toUInt32).toInt32) &&& (3 : Int32)), rv ca, rv cb, rv x3, rv x4, iv rr, iv 1, rv b11, rv b12, iv k13, .unset] []) (fun _ z_ => XS.istore X13.here hx rfl (hb hby at_194) rfl (l' := #[.val (.long i0), .second, .val (.long i1), .second, iv i2, iv (i2 &&& (3 : Int32)), iv (((i2.toUInt32 >>> ((2 : Int32) &&& 31).toUInt32).toInt32) &&& (3 : Int32)), rv ca, rv cb, rv x3, rv x4, iv rr, iv 1, rv b11, rv b12, iv k13, .unset]) rfl z_) ?_
     refine own_g (own_F T13 m 198 #[.val (.long i0), .second, .val (.long i1), .second, iv i2, iv (i2 &&& (3 : Int32)), iv (((i2.toUInt32 >>> ((2 : Int32) &&& 31).toUInt32).toInt32) &&& (3 : Int32)), rv ca, rv cb, rv x3, rv x4, iv rr, iv 1, rv b11, rv b12, iv k13, .unset] [(.ref cb)]) (fun _ z_ => XS.aload X13.here hx rfl (hb hby at_196) rfl rfl z_) ?_
     refine own_g (own_F T13 m 200 #[.val (.long i0), .second, .val (.long i1), .second, iv i2, iv (i2 &&& (3 : Int32)), iv (((i2.toUInt32 >>> ((2 : Int32) &&& 31).toUInt32).toInt32) &&& (3 : Int32)), rv ca, rv cb, rv x3, rv x4, iv rr, iv 1, rv b11, rv b12, iv k13, .unset] [(.int (((i2.toUInt32 >>> ((2 : Int32) &&& 31).toUInt32).toInt32) &&& (3 : Int32))), (.ref cb)]) (fun _ z_ => XS.iload X13.here hx rfl (hb hby at_198) rfl z_) ?_
     refine own_g (own_F T13 m 202 #[.val (.long i0), .second, .val (.long i1), .second, iv i2, iv (i2 &&& (3 : Int32)), iv (((i2.toUInt32 >>> ((2 : Int32) &&& 31).toUInt32).toInt32) &&& (3 : Int32)), rv ca, rv cb, rv x3, rv x4, iv rr, iv 1, rv b11, rv b12, iv k13, .unset] [(.ref b12), (.int (((i2.toUInt32 >>> ((2 : Int32) &&& 31).toUInt32).toInt32) &&& (3 : Int32))), (.ref cb)]) (fun _ z_ => XS.aload X13.here hx rfl (hb hby at_200) rfl rfl z_) ?_
     refine own_callS (y := (⟨"com/example/kunci/kunci/CodePointsComparePinLaw", "decompose", "([CI[I)I"⟩ : MethodName)) X13 hx hZ hown (own_w hw 52) (own_w hw 53) (own_w hw 3) (own_w hw 54) (by decide) (rfl : T13.heap = T13.heap) (hM := own_decC l Z a0 hw [] cb b12 (Int32.toInt (((i2.toUInt32 >>> ((2 : Int32) &&& 31).toUInt32).toInt32) &&& (3 : Int32))).toNat (((i2.toUInt32 >>> ((2 : Int32) &&& 31).toUInt32).toInt32) &&& (3 : Int32)) g2 (fun _ => 0) T13.heap n0 (Nat.le_trans (Nat.le_trans (Nat.le_trans (Nat.le_trans (Nat.le_trans (Nat.le_trans zs1 (Nat.le_of_eq W2.size.symm)) K3.1) K4.1) E11.1) E12.1) K13.1) (((((A2.keep K3 nin0).keep K4 nin0).ext E11).ext E12).keep K13 (ninS ne_cb_b11 nin0)) (A12.keep K13 (ninS (Ne.symm ne_b11_b12) nin0)) (show Int32.toInt (((i2.toUInt32 >>> ((2 : Int32) &&& 31).toUInt32).toInt32) &&& (3 : Int32)) = _ by have := own_and3 ((i2.toUInt32 >>> ((2 : Int32) &&& 31).toUInt32).toInt32); omega) (show (Int32.toInt (((i2.toUInt32 >>> ((2 : Int32) &&& 31).toUInt32).toInt32) &&& (3 : Int32))).toNat ≤ 3 by have := own_and3 ((i2.toUInt32 >>> ((2 : Int32) &&& 31).toUInt32).toInt32); omega) ge_b12 ne_cb_b12) (W := 0) (pc := 202) (Ls := #[.val (.long i0), .second, .val (.long i1), .second, iv i2, iv (i2 &&& (3 : Int32)), iv (((i2.toUInt32 >>> ((2 : Int32) &&& 31).toUInt32).toInt32) &&& (3 : Int32)), rv ca, rv cb, rv x3, rv x4, iv rr, iv 1, rv b11, rv b12, iv k13, .unset]) (argsL := [(.ref cb), (.int (((i2.toUInt32 >>> ((2 : Int32) &&& 31).toUInt32).toInt32) &&& (3 : Int32))), (.ref b12)]) (rest := []) (st0 := [(.ref b12), (.int (((i2.toUInt32 >>> ((2 : Int32) &&& 31).toUInt32).toInt32) &&& (3 : Int32))), (.ref cb)]) (by rw [hml]; rfl) (lenOf own_pd23 rfl) rfl (Nat.le_of_eq rfl) (hb hby at_202) (by decide) (by decide) (by decide) (by decide) ?_
     intro v14 T14 L14 s X14 hZ hown hI14 hvm14 hhp14 hWw14 hQ14
     obtain ⟨k14, g14, rfl, Nq14, K14, Ao14, dc14⟩ := hQ14
     have N14 := Fr.app N13 Nq14
     show own_Ends p e below s _ _ _ (own_F T14 m 205 #[.val (.long i0), .second, .val (.long i1), .second, iv i2, iv (i2 &&& (3 : Int32)), iv (((i2.toUInt32 >>> ((2 : Int32) &&& 31).toUInt32).toInt32) &&& (3 : Int32)), rv ca, rv cb, rv x3, rv x4, iv rr, iv 1, rv b11, rv b12, iv k13, .unset] [(.int k14)])
     refine own_g (own_F T14 m 207 #[.val (.long i0), .second, .val (.long i1), .second, iv i2, iv (i2 &&& (3 : Int32)), iv (((i2.toUInt32 >>> ((2 : Int32) &&& 31).toUInt32).toInt32) &&& (3 : Int32)), rv ca, rv cb, rv x3, rv x4, iv rr, iv 1, rv b11, rv b12, iv k13, iv k14] []) (fun _ z_ => XS.istore X14.here hx rfl (hb hby at_205) rfl (l' := #[.val (.long i0), .second, .val (.long i1), .second, iv i2, iv (i2 &&& (3 : Int32)), iv (((i2.toUInt32 >>> ((2 : Int32) &&& 31).toUInt32).toInt32) &&& (3 : Int32)), rv ca, rv cb, rv x3, rv x4, iv rr, iv 1, rv b11, rv b12, iv k13, iv k14]) rfl z_) ?_
     refine own_g (own_F T14 m 209 #[.val (.long i0), .second, .val (.long i1), .second, iv i2, iv (i2 &&& (3 : Int32)), iv (((i2.toUInt32 >>> ((2 : Int32) &&& 31).toUInt32).toInt32) &&& (3 : Int32)), rv ca, rv cb, rv x3, rv x4, iv rr, iv 1, rv b11, rv b12, iv k13, iv k14] [(.int 1)]) (fun _ z_ => XS.iload X14.here hx rfl (hb hby at_207) rfl z_) ?_
     refine own_g (own_F T14 m 211 #[.val (.long i0), .second, .val (.long i1), .second, iv i2, iv (i2 &&& (3 : Int32)), iv (((i2.toUInt32 >>> ((2 : Int32) &&& 31).toUInt32).toInt32) &&& (3 : Int32)), rv ca, rv cb, rv x3, rv x4, iv rr, iv 1, rv b11, rv b12, iv k13, iv k14] [(.ref b11), (.int 1)]) (fun _ z_ => XS.aload X14.here hx rfl (hb hby at_209) rfl rfl z_) ?_
     refine own_g (own_F T14 m 213 #[.val (.long i0), .second, .val (.long i1), .second, iv i2, iv (i2 &&& (3 : Int32)), iv (((i2.toUInt32 >>> ((2 : Int32) &&& 31).toUInt32).toInt32) &&& (3 : Int32)), rv ca, rv cb, rv x3, rv x4, iv rr, iv 1, rv b11, rv b12, iv k13, iv k14] [(.int k13), (.ref b11), (.int 1)]) (fun _ z_ => XS.iload X14.here hx rfl (hb hby at_211) rfl z_) ?_
     refine own_g (own_F T14 m 215 #[.val (.long i0), .second, .val (.long i1), .second, iv i2, iv (i2 &&& (3 : Int32)), iv (((i2.toUInt32 >>> ((2 : Int32) &&& 31).toUInt32).toInt32) &&& (3 : Int32)), rv ca, rv cb, rv x3, rv x4, iv rr, iv 1, rv b11, rv b12, iv k13, iv k14] [(.ref b12), (.int k13), (.ref b11), (.int 1)]) (fun _ z_ => XS.aload X14.here hx rfl (hb hby at_213) rfl rfl z_) ?_
     refine own_g (own_F T14 m 217 #[.val (.long i0), .second, .val (.long i1), .second, iv i2, iv (i2 &&& (3 : Int32)), iv (((i2.toUInt32 >>> ((2 : Int32) &&& 31).toUInt32).toInt32) &&& (3 : Int32)), rv ca, rv cb, rv x3, rv x4, iv rr, iv 1, rv b11, rv b12, iv k13, iv k14] [(.int k14), (.ref b12), (.int k13), (.ref b11), (.int 1)]) (fun _ z_ => XS.iload X14.here hx rfl (hb hby at_215) rfl z_) ?_
     refine own_callS (y := (⟨"com/example/kunci/kunci/CodePointsComparePinLaw", "lex", "([II[II)I"⟩ : MethodName)) X14 hx hZ hown (own_w hw 55) (own_w hw 56) (own_w hw 3) (own_w hw 57) (by decide) (rfl : T14.heap = T14.heap) (hM := own_lexC l Z a0 hw [] b11 b12 k13 k14 g13 g14 T14.heap n0 (Nat.le_trans (Nat.le_trans (Nat.le_trans (Nat.le_trans (Nat.le_trans (Nat.le_trans (Nat.le_trans zs1 (Nat.le_of_eq W2.size.symm)) K3.1) K4.1) E11.1) E12.1) K13.1) K14.1) (Ao13.keep K14 (ninS ne_b11_b12 nin0)) Ao14) (W := 1) (pc := 217) (Ls := #[.val (.long i0), .second, .val (.long i1), .second, iv i2, iv (i2 &&& (3 : Int32)), iv (((i2.toUInt32 >>> ((2 : Int32) &&& 31).toUInt32).toInt32) &&& (3 : Int32)), rv ca, rv cb, rv x3, rv x4, iv rr, iv 1, rv b11, rv b12, iv k13, iv k14]) (argsL := [(.ref b11), (.int k13), (.ref b12), (.int k14)]) (rest := [(.int 1)]) (st0 := [(.int k14), (.ref b12), (.int k13), (.ref b11), (.int 1)]) (by rw [hml]; rfl) (lenOf own_pd24 rfl) rfl (Nat.le_of_eq rfl) (hb hby at_217) (by decide) (by decide) (by decide) (by decide) ?_
     intro v15 T15 L15 s X15 hZ hown hI15 hvm15 hhp15 hWw15 hQ15
     obtain ⟨rfl, Nq15, hh15⟩ := hQ15
     have N15 := Fr.app N14 Nq15
     show own_Ends p e below s _ _ _ (own_F T15 m 220 #[.val (.long i0), .second, .val (.long i1), .second, iv i2, iv (i2 &&& (3 : Int32)), iv (((i2.toUInt32 >>> ((2 : Int32) &&& 31).toUInt32).toInt32) &&& (3 : Int32)), rv ca, rv cb, rv x3, rv x4, iv rr, iv 1, rv b11, rv b12, iv k13, iv k14] [(.int (own_lex g13 k13 g14 k14)), (.int 1)])
     refine own_g (own_F T15 m 223 #[.val (.long i0), .second, .val (.long i1), .second, iv i2, iv (i2 &&& (3 : Int32)), iv (((i2.toUInt32 >>> ((2 : Int32) &&& 31).toUInt32).toInt32) &&& (3 : Int32)), rv ca, rv cb, rv x3, rv x4, iv rr, iv 1, rv b11, rv b12, iv k13, iv k14] []) (fun _ z_ => XS.icmpNo X15.here hx rfl (hb hby at_220) rfl (teq (hsg.trans (hrr.trans (own_main (show Int32.toInt (i2 &&& (3 : Int32)) = _ by have := own_and3 i2; omega) (show Int32.toInt (((i2.toUInt32 >>> ((2 : Int32) &&& 31).toUInt32).toInt32) &&& (3 : Int32)) = _ by have := own_and3 ((i2.toUInt32 >>> ((2 : Int32) &&& 31).toUInt32).toInt32); omega) (show (Int32.toInt (i2 &&& (3 : Int32))).toNat ≤ 3 by have := own_and3 i2; omega) (show (Int32.toInt (((i2.toUInt32 >>> ((2 : Int32) &&& 31).toUInt32).toInt32) &&& (3 : Int32))).toNat ≤ 3 by have := own_and3 ((i2.toUInt32 >>> ((2 : Int32) &&& 31).toUInt32).toInt32); omega) hf hg3 dc13 dc14)))).2 z_) ?_
     refine own_g (own_F T15 m 224 #[.val (.long i0), .second, .val (.long i1), .second, iv i2, iv (i2 &&& (3 : Int32)), iv (((i2.toUInt32 >>> ((2 : Int32) &&& 31).toUInt32).toInt32) &&& (3 : Int32)), rv ca, rv cb, rv x3, rv x4, iv rr, iv 1, rv b11, rv b12, iv k13, iv k14] [(.int 1)]) (fun _ z_ => XS.iconst X15.here hx rfl (hb hby at_223) z_) ?_
     refine own_g (own_F T15 m 228 #[.val (.long i0), .second, .val (.long i1), .second, iv i2, iv (i2 &&& (3 : Int32)), iv (((i2.toUInt32 >>> ((2 : Int32) &&& 31).toUInt32).toInt32) &&& (3 : Int32)), rv ca, rv cb, rv x3, rv x4, iv rr, iv 1, rv b11, rv b12, iv k13, iv k14] [(.int 1)]) (fun _ z_ => XS.goto X15.here hx rfl (pc0 := 224) (pc' := 228) rfl (hb hby at_224) (by decide) (by decide) z_) ?_
     refine own_ret (t := .boolean) X15 hx hlk hrt rfl (Or.inl ⟨rfl, by simp, _, rfl⟩) (hb hby at_228) (by decide) (by decide) ?_
     exact ⟨rfl, N15⟩
    · -- pc 165: not (0 : Int32) < rr
     refine own_g (own_F T5 m 172 #[.val (.long i0), .second, .val (.long i1), .second, iv i2, iv (i2 &&& (3 : Int32)), iv (((i2.toUInt32 >>> ((2 : Int32) &&& 31).toUInt32).toInt32) &&& (3 : Int32)), rv ca, rv cb, rv x3, rv x4, iv rr, .unset, .unset, .unset, .unset, .unset] []) (fun _ z_ => XS.ifYes X5.here hx rfl (pc0 := 165) (pc' := 172) rfl (hb hby at_165) rfl ((if0 _ _).trans (flt c165).2.2.2) (by decide) (by decide) z_) ?_
     refine own_g (own_F T5 m 173 #[.val (.long i0), .second, .val (.long i1), .second, iv i2, iv (i2 &&& (3 : Int32)), iv (((i2.toUInt32 >>> ((2 : Int32) &&& 31).toUInt32).toInt32) &&& (3 : Int32)), rv ca, rv cb, rv x3, rv x4, iv rr, .unset, .unset, .unset, .unset, .unset] [(.int 0)]) (fun _ z_ => XS.iconst X5.here hx rfl (hb hby at_172) z_) ?_
     have hsg : (0 : Int32) = rr := (hs3 c156 c165).symm
     refine own_g (own_F T5 m 175 #[.val (.long i0), .second, .val (.long i1), .second, iv i2, iv (i2 &&& (3 : Int32)), iv (((i2.toUInt32 >>> ((2 : Int32) &&& 31).toUInt32).toInt32) &&& (3 : Int32)), rv ca, rv cb, rv x3, rv x4, iv rr, iv 0, .unset, .unset, .unset, .unset] []) (fun _ z_ => XS.istore X5.here hx rfl (hb hby at_173) rfl (l' := #[.val (.long i0), .second, .val (.long i1), .second, iv i2, iv (i2 &&& (3 : Int32)), iv (((i2.toUInt32 >>> ((2 : Int32) &&& 31).toUInt32).toInt32) &&& (3 : Int32)), rv ca, rv cb, rv x3, rv x4, iv rr, iv 0, .unset, .unset, .unset, .unset]) rfl z_) ?_
     refine own_g (own_F T5 m 176 #[.val (.long i0), .second, .val (.long i1), .second, iv i2, iv (i2 &&& (3 : Int32)), iv (((i2.toUInt32 >>> ((2 : Int32) &&& 31).toUInt32).toInt32) &&& (3 : Int32)), rv ca, rv cb, rv x3, rv x4, iv rr, iv 0, .unset, .unset, .unset, .unset] [(.int 3)]) (fun _ z_ => XS.iconst X5.here hx rfl (hb hby at_175) z_) ?_
     refine own_newA X5 hx hZ .int rfl (own_w hw 51) hh5 (hb hby at_176) 3 rfl 3 (by decide) (by decide) (by decide) (by decide) ?_
     intro T16 h16 b16 X16 e16 E16 g16 A16
     have sz_b16 : h0.size ≤ b16 := Nat.le_trans (Nat.le_trans (Nat.le_trans (Nat.le_trans zz1 (Nat.le_of_eq W2.size.symm)) K3.1) K4.1) (Nat.le_of_eq g16.symm)
     have ge_b16 : n0 ≤ b16 := Nat.le_trans (Nat.le_trans (Nat.le_trans (Nat.le_trans zs1 (Nat.le_of_eq W2.size.symm)) K3.1) K4.1) (Nat.le_of_eq g16.symm)
     have ne_ca_b16 : ca ≠ b16 := Nat.ne_of_lt (Nat.lt_of_lt_of_le (((f1_0.other W2 nab).keep K3 nin0).keep K4 nin0).lt (Nat.le_of_eq g16.symm))
     have ne_cb_b16 : cb ≠ b16 := Nat.ne_of_lt (Nat.lt_of_lt_of_le ((A2.keep K3 nin0).keep K4 nin0).lt (Nat.le_of_eq g16.symm))
     have A16 : own_A Z h16 b16 .int 3 (fun q_ => .int ((fun _ => (0 : Int32)) q_)) := A16
     show own_Ends p e below s _ _ _ (own_F T16 m 178 #[.val (.long i0), .second, .val (.long i1), .second, iv i2, iv (i2 &&& (3 : Int32)), iv (((i2.toUInt32 >>> ((2 : Int32) &&& 31).toUInt32).toInt32) &&& (3 : Int32)), rv ca, rv cb, rv x3, rv x4, iv rr, iv 0, .unset, .unset, .unset, .unset] [(.ref b16)])
     refine own_g (own_F T16 m 180 #[.val (.long i0), .second, .val (.long i1), .second, iv i2, iv (i2 &&& (3 : Int32)), iv (((i2.toUInt32 >>> ((2 : Int32) &&& 31).toUInt32).toInt32) &&& (3 : Int32)), rv ca, rv cb, rv x3, rv x4, iv rr, iv 0, rv b16, .unset, .unset, .unset] []) (fun _ z_ => XS.astore X16.here hx rfl (hb hby at_178) rfl rfl (l' := #[.val (.long i0), .second, .val (.long i1), .second, iv i2, iv (i2 &&& (3 : Int32)), iv (((i2.toUInt32 >>> ((2 : Int32) &&& 31).toUInt32).toInt32) &&& (3 : Int32)), rv ca, rv cb, rv x3, rv x4, iv rr, iv 0, rv b16, .unset, .unset, .unset]) rfl z_) ?_
     refine own_g (own_F T16 m 181 #[.val (.long i0), .second, .val (.long i1), .second, iv i2, iv (i2 &&& (3 : Int32)), iv (((i2.toUInt32 >>> ((2 : Int32) &&& 31).toUInt32).toInt32) &&& (3 : Int32)), rv ca, rv cb, rv x3, rv x4, iv rr, iv 0, rv b16, .unset, .unset, .unset] [(.int 3)]) (fun _ z_ => XS.iconst X16.here hx rfl (hb hby at_180) z_) ?_
     refine own_newA X16 hx hZ .int rfl (own_w hw 51) e16 (hb hby at_181) 3 rfl 3 (by decide) (by decide) (by decide) (by decide) ?_
     intro T17 h17 b17 X17 e17 E17 g17 A17
     have sz_b17 : h0.size ≤ b17 := Nat.le_trans (Nat.le_trans (Nat.le_trans (Nat.le_trans (Nat.le_trans zz1 (Nat.le_of_eq W2.size.symm)) K3.1) K4.1) E16.1) (Nat.le_of_eq g17.symm)
     have ge_b17 : n0 ≤ b17 := Nat.le_trans (Nat.le_trans (Nat.le_trans (Nat.le_trans (Nat.le_trans zs1 (Nat.le_of_eq W2.size.symm)) K3.1) K4.1) E16.1) (Nat.le_of_eq g17.symm)
     have ne_ca_b17 : ca ≠ b17 := Nat.ne_of_lt (Nat.lt_of_lt_of_le ((((f1_0.other W2 nab).keep K3 nin0).keep K4 nin0).ext E16).lt (Nat.le_of_eq g17.symm))
     have ne_cb_b17 : cb ≠ b17 := Nat.ne_of_lt (Nat.lt_of_lt_of_le (((A2.keep K3 nin0).keep K4 nin0).ext E16).lt (Nat.le_of_eq g17.symm))
     have ne_b16_b17 : b16 ≠ b17 := Nat.ne_of_lt (Nat.lt_of_lt_of_le A16.lt (Nat.le_of_eq g17.symm))
     have A17 : own_A Z h17 b17 .int 3 (fun q_ => .int ((fun _ => (0 : Int32)) q_)) := A17
     show own_Ends p e below s _ _ _ (own_F T17 m 183 #[.val (.long i0), .second, .val (.long i1), .second, iv i2, iv (i2 &&& (3 : Int32)), iv (((i2.toUInt32 >>> ((2 : Int32) &&& 31).toUInt32).toInt32) &&& (3 : Int32)), rv ca, rv cb, rv x3, rv x4, iv rr, iv 0, rv b16, .unset, .unset, .unset] [(.ref b17)])
     refine own_g (own_F T17 m 185 #[.val (.long i0), .second, .val (.long i1), .second, iv i2, iv (i2 &&& (3 : Int32)), iv (((i2.toUInt32 >>> ((2 : Int32) &&& 31).toUInt32).toInt32) &&& (3 : Int32)), rv ca, rv cb, rv x3, rv x4, iv rr, iv 0, rv b16, rv b17, .unset, .unset] []) (fun _ z_ => XS.astore X17.here hx rfl (hb hby at_183) rfl rfl (l' := #[.val (.long i0), .second, .val (.long i1), .second, iv i2, iv (i2 &&& (3 : Int32)), iv (((i2.toUInt32 >>> ((2 : Int32) &&& 31).toUInt32).toInt32) &&& (3 : Int32)), rv ca, rv cb, rv x3, rv x4, iv rr, iv 0, rv b16, rv b17, .unset, .unset]) rfl z_) ?_
     refine own_g (own_F T17 m 187 #[.val (.long i0), .second, .val (.long i1), .second, iv i2, iv (i2 &&& (3 : Int32)), iv (((i2.toUInt32 >>> ((2 : Int32) &&& 31).toUInt32).toInt32) &&& (3 : Int32)), rv ca, rv cb, rv x3, rv x4, iv rr, iv 0, rv b16, rv b17, .unset, .unset] [(.ref ca)]) (fun _ z_ => XS.aload X17.here hx rfl (hb hby at_185) rfl rfl z_) ?_
     refine own_g (own_F T17 m 189 #[.val (.long i0), .second, .val (.long i1), .second, iv i2, iv (i2 &&& (3 : Int32)), iv (((i2.toUInt32 >>> ((2 : Int32) &&& 31).toUInt32).toInt32) &&& (3 : Int32)), rv ca, rv cb, rv x3, rv x4, iv rr, iv 0, rv b16, rv b17, .unset, .unset] [(.int (i2 &&& (3 : Int32))), (.ref ca)]) (fun _ z_ => XS.iload X17.here hx rfl (hb hby at_187) rfl z_) ?_
     refine own_g (own_F T17 m 191 #[.val (.long i0), .second, .val (.long i1), .second, iv i2, iv (i2 &&& (3 : Int32)), iv (((i2.toUInt32 >>> ((2 : Int32) &&& 31).toUInt32).toInt32) &&& (3 : Int32)), rv ca, rv cb, rv x3, rv x4, iv rr, iv 0, rv b16, rv b17, .unset, .unset] [(.ref b16), (.int (i2 &&& (3 : Int32))), (.ref ca)]) (fun _ z_ => XS.aload X17.here hx rfl (hb hby at_189) rfl rfl z_) ?_
     refine own_callS (y := (⟨"com/example/kunci/kunci/CodePointsComparePinLaw", "decompose", "([CI[I)I"⟩ : MethodName)) X17 hx hZ hown (own_w hw 52) (own_w hw 53) (own_w hw 3) (own_w hw 54) (by decide) e17 (hM := own_decC l Z a0 hw [] ca b16 (Int32.toInt (i2 &&& (3 : Int32))).toNat (i2 &&& (3 : Int32)) f (fun _ => 0) h17 n0 (Nat.le_trans (Nat.le_trans (Nat.le_trans (Nat.le_trans (Nat.le_trans zs1 (Nat.le_of_eq W2.size.symm)) K3.1) K4.1) E16.1) E17.1) (((((f1_0.other W2 nab).keep K3 nin0).keep K4 nin0).ext E16).ext E17) (A16.ext E17) (show Int32.toInt (i2 &&& (3 : Int32)) = _ by have := own_and3 i2; omega) (show (Int32.toInt (i2 &&& (3 : Int32))).toNat ≤ 3 by have := own_and3 i2; omega) ge_b16 ne_ca_b16) (W := 0) (pc := 191) (Ls := #[.val (.long i0), .second, .val (.long i1), .second, iv i2, iv (i2 &&& (3 : Int32)), iv (((i2.toUInt32 >>> ((2 : Int32) &&& 31).toUInt32).toInt32) &&& (3 : Int32)), rv ca, rv cb, rv x3, rv x4, iv rr, iv 0, rv b16, rv b17, .unset, .unset]) (argsL := [(.ref ca), (.int (i2 &&& (3 : Int32))), (.ref b16)]) (rest := []) (st0 := [(.ref b16), (.int (i2 &&& (3 : Int32))), (.ref ca)]) (by rw [hml]; rfl) (lenOf own_pd23 rfl) rfl (Nat.le_of_eq rfl) (hb hby at_191) (by decide) (by decide) (by decide) (by decide) ?_
     intro v18 T18 L18 s X18 hZ hown hI18 hvm18 hhp18 hWw18 hQ18
     obtain ⟨k18, g18, rfl, Nq18, K18, Ao18, dc18⟩ := hQ18
     have N18 := Fr.app N5 Nq18
     show own_Ends p e below s _ _ _ (own_F T18 m 194 #[.val (.long i0), .second, .val (.long i1), .second, iv i2, iv (i2 &&& (3 : Int32)), iv (((i2.toUInt32 >>> ((2 : Int32) &&& 31).toUInt32).toInt32) &&& (3 : Int32)), rv ca, rv cb, rv x3, rv x4, iv rr, iv 0, rv b16, rv b17, .unset, .unset] [(.int k18)])
     refine own_g (own_F T18 m 196 #[.val (.long i0), .second, .val (.long i1), .second, iv i2, iv (i2 &&& (3 : Int32)), iv (((i2.toUInt32 >>> ((2 : Int32) &&& 31).toUInt32).toInt32) &&& (3 : Int32)), rv ca, rv cb, rv x3, rv x4, iv rr, iv 0, rv b16, rv b17, iv k18, .unset] []) (fun _ z_ => XS.istore X18.here hx rfl (hb hby at_194) rfl (l' := #[.val (.long i0), .second, .val (.long i1), .second, iv i2, iv (i2 &&& (3 : Int32)), iv (((i2.toUInt32 >>> ((2 : Int32) &&& 31).toUInt32).toInt32) &&& (3 : Int32)), rv ca, rv cb, rv x3, rv x4, iv rr, iv 0, rv b16, rv b17, iv k18, .unset]) rfl z_) ?_
     refine own_g (own_F T18 m 198 #[.val (.long i0), .second, .val (.long i1), .second, iv i2, iv (i2 &&& (3 : Int32)), iv (((i2.toUInt32 >>> ((2 : Int32) &&& 31).toUInt32).toInt32) &&& (3 : Int32)), rv ca, rv cb, rv x3, rv x4, iv rr, iv 0, rv b16, rv b17, iv k18, .unset] [(.ref cb)]) (fun _ z_ => XS.aload X18.here hx rfl (hb hby at_196) rfl rfl z_) ?_
     refine own_g (own_F T18 m 200 #[.val (.long i0), .second, .val (.long i1), .second, iv i2, iv (i2 &&& (3 : Int32)), iv (((i2.toUInt32 >>> ((2 : Int32) &&& 31).toUInt32).toInt32) &&& (3 : Int32)), rv ca, rv cb, rv x3, rv x4, iv rr, iv 0, rv b16, rv b17, iv k18, .unset] [(.int (((i2.toUInt32 >>> ((2 : Int32) &&& 31).toUInt32).toInt32) &&& (3 : Int32))), (.ref cb)]) (fun _ z_ => XS.iload X18.here hx rfl (hb hby at_198) rfl z_) ?_
     refine own_g (own_F T18 m 202 #[.val (.long i0), .second, .val (.long i1), .second, iv i2, iv (i2 &&& (3 : Int32)), iv (((i2.toUInt32 >>> ((2 : Int32) &&& 31).toUInt32).toInt32) &&& (3 : Int32)), rv ca, rv cb, rv x3, rv x4, iv rr, iv 0, rv b16, rv b17, iv k18, .unset] [(.ref b17), (.int (((i2.toUInt32 >>> ((2 : Int32) &&& 31).toUInt32).toInt32) &&& (3 : Int32))), (.ref cb)]) (fun _ z_ => XS.aload X18.here hx rfl (hb hby at_200) rfl rfl z_) ?_
     refine own_callS (y := (⟨"com/example/kunci/kunci/CodePointsComparePinLaw", "decompose", "([CI[I)I"⟩ : MethodName)) X18 hx hZ hown (own_w hw 52) (own_w hw 53) (own_w hw 3) (own_w hw 54) (by decide) (rfl : T18.heap = T18.heap) (hM := own_decC l Z a0 hw [] cb b17 (Int32.toInt (((i2.toUInt32 >>> ((2 : Int32) &&& 31).toUInt32).toInt32) &&& (3 : Int32))).toNat (((i2.toUInt32 >>> ((2 : Int32) &&& 31).toUInt32).toInt32) &&& (3 : Int32)) g2 (fun _ => 0) T18.heap n0 (Nat.le_trans (Nat.le_trans (Nat.le_trans (Nat.le_trans (Nat.le_trans (Nat.le_trans zs1 (Nat.le_of_eq W2.size.symm)) K3.1) K4.1) E16.1) E17.1) K18.1) (((((A2.keep K3 nin0).keep K4 nin0).ext E16).ext E17).keep K18 (ninS ne_cb_b16 nin0)) (A17.keep K18 (ninS (Ne.symm ne_b16_b17) nin0)) (show Int32.toInt (((i2.toUInt32 >>> ((2 : Int32) &&& 31).toUInt32).toInt32) &&& (3 : Int32)) = _ by have := own_and3 ((i2.toUInt32 >>> ((2 : Int32) &&& 31).toUInt32).toInt32); omega) (show (Int32.toInt (((i2.toUInt32 >>> ((2 : Int32) &&& 31).toUInt32).toInt32) &&& (3 : Int32))).toNat ≤ 3 by have := own_and3 ((i2.toUInt32 >>> ((2 : Int32) &&& 31).toUInt32).toInt32); omega) ge_b17 ne_cb_b17) (W := 0) (pc := 202) (Ls := #[.val (.long i0), .second, .val (.long i1), .second, iv i2, iv (i2 &&& (3 : Int32)), iv (((i2.toUInt32 >>> ((2 : Int32) &&& 31).toUInt32).toInt32) &&& (3 : Int32)), rv ca, rv cb, rv x3, rv x4, iv rr, iv 0, rv b16, rv b17, iv k18, .unset]) (argsL := [(.ref cb), (.int (((i2.toUInt32 >>> ((2 : Int32) &&& 31).toUInt32).toInt32) &&& (3 : Int32))), (.ref b17)]) (rest := []) (st0 := [(.ref b17), (.int (((i2.toUInt32 >>> ((2 : Int32) &&& 31).toUInt32).toInt32) &&& (3 : Int32))), (.ref cb)]) (by rw [hml]; rfl) (lenOf own_pd23 rfl) rfl (Nat.le_of_eq rfl) (hb hby at_202) (by decide) (by decide) (by decide) (by decide) ?_
     intro v19 T19 L19 s X19 hZ hown hI19 hvm19 hhp19 hWw19 hQ19
     obtain ⟨k19, g19, rfl, Nq19, K19, Ao19, dc19⟩ := hQ19
     have N19 := Fr.app N18 Nq19
     show own_Ends p e below s _ _ _ (own_F T19 m 205 #[.val (.long i0), .second, .val (.long i1), .second, iv i2, iv (i2 &&& (3 : Int32)), iv (((i2.toUInt32 >>> ((2 : Int32) &&& 31).toUInt32).toInt32) &&& (3 : Int32)), rv ca, rv cb, rv x3, rv x4, iv rr, iv 0, rv b16, rv b17, iv k18, .unset] [(.int k19)])
     refine own_g (own_F T19 m 207 #[.val (.long i0), .second, .val (.long i1), .second, iv i2, iv (i2 &&& (3 : Int32)), iv (((i2.toUInt32 >>> ((2 : Int32) &&& 31).toUInt32).toInt32) &&& (3 : Int32)), rv ca, rv cb, rv x3, rv x4, iv rr, iv 0, rv b16, rv b17, iv k18, iv k19] []) (fun _ z_ => XS.istore X19.here hx rfl (hb hby at_205) rfl (l' := #[.val (.long i0), .second, .val (.long i1), .second, iv i2, iv (i2 &&& (3 : Int32)), iv (((i2.toUInt32 >>> ((2 : Int32) &&& 31).toUInt32).toInt32) &&& (3 : Int32)), rv ca, rv cb, rv x3, rv x4, iv rr, iv 0, rv b16, rv b17, iv k18, iv k19]) rfl z_) ?_
     refine own_g (own_F T19 m 209 #[.val (.long i0), .second, .val (.long i1), .second, iv i2, iv (i2 &&& (3 : Int32)), iv (((i2.toUInt32 >>> ((2 : Int32) &&& 31).toUInt32).toInt32) &&& (3 : Int32)), rv ca, rv cb, rv x3, rv x4, iv rr, iv 0, rv b16, rv b17, iv k18, iv k19] [(.int 0)]) (fun _ z_ => XS.iload X19.here hx rfl (hb hby at_207) rfl z_) ?_
     refine own_g (own_F T19 m 211 #[.val (.long i0), .second, .val (.long i1), .second, iv i2, iv (i2 &&& (3 : Int32)), iv (((i2.toUInt32 >>> ((2 : Int32) &&& 31).toUInt32).toInt32) &&& (3 : Int32)), rv ca, rv cb, rv x3, rv x4, iv rr, iv 0, rv b16, rv b17, iv k18, iv k19] [(.ref b16), (.int 0)]) (fun _ z_ => XS.aload X19.here hx rfl (hb hby at_209) rfl rfl z_) ?_
     refine own_g (own_F T19 m 213 #[.val (.long i0), .second, .val (.long i1), .second, iv i2, iv (i2 &&& (3 : Int32)), iv (((i2.toUInt32 >>> ((2 : Int32) &&& 31).toUInt32).toInt32) &&& (3 : Int32)), rv ca, rv cb, rv x3, rv x4, iv rr, iv 0, rv b16, rv b17, iv k18, iv k19] [(.int k18), (.ref b16), (.int 0)]) (fun _ z_ => XS.iload X19.here hx rfl (hb hby at_211) rfl z_) ?_
     refine own_g (own_F T19 m 215 #[.val (.long i0), .second, .val (.long i1), .second, iv i2, iv (i2 &&& (3 : Int32)), iv (((i2.toUInt32 >>> ((2 : Int32) &&& 31).toUInt32).toInt32) &&& (3 : Int32)), rv ca, rv cb, rv x3, rv x4, iv rr, iv 0, rv b16, rv b17, iv k18, iv k19] [(.ref b17), (.int k18), (.ref b16), (.int 0)]) (fun _ z_ => XS.aload X19.here hx rfl (hb hby at_213) rfl rfl z_) ?_
     refine own_g (own_F T19 m 217 #[.val (.long i0), .second, .val (.long i1), .second, iv i2, iv (i2 &&& (3 : Int32)), iv (((i2.toUInt32 >>> ((2 : Int32) &&& 31).toUInt32).toInt32) &&& (3 : Int32)), rv ca, rv cb, rv x3, rv x4, iv rr, iv 0, rv b16, rv b17, iv k18, iv k19] [(.int k19), (.ref b17), (.int k18), (.ref b16), (.int 0)]) (fun _ z_ => XS.iload X19.here hx rfl (hb hby at_215) rfl z_) ?_
     refine own_callS (y := (⟨"com/example/kunci/kunci/CodePointsComparePinLaw", "lex", "([II[II)I"⟩ : MethodName)) X19 hx hZ hown (own_w hw 55) (own_w hw 56) (own_w hw 3) (own_w hw 57) (by decide) (rfl : T19.heap = T19.heap) (hM := own_lexC l Z a0 hw [] b16 b17 k18 k19 g18 g19 T19.heap n0 (Nat.le_trans (Nat.le_trans (Nat.le_trans (Nat.le_trans (Nat.le_trans (Nat.le_trans (Nat.le_trans zs1 (Nat.le_of_eq W2.size.symm)) K3.1) K4.1) E16.1) E17.1) K18.1) K19.1) (Ao18.keep K19 (ninS ne_b16_b17 nin0)) Ao19) (W := 1) (pc := 217) (Ls := #[.val (.long i0), .second, .val (.long i1), .second, iv i2, iv (i2 &&& (3 : Int32)), iv (((i2.toUInt32 >>> ((2 : Int32) &&& 31).toUInt32).toInt32) &&& (3 : Int32)), rv ca, rv cb, rv x3, rv x4, iv rr, iv 0, rv b16, rv b17, iv k18, iv k19]) (argsL := [(.ref b16), (.int k18), (.ref b17), (.int k19)]) (rest := [(.int 0)]) (st0 := [(.int k19), (.ref b17), (.int k18), (.ref b16), (.int 0)]) (by rw [hml]; rfl) (lenOf own_pd24 rfl) rfl (Nat.le_of_eq rfl) (hb hby at_217) (by decide) (by decide) (by decide) (by decide) ?_
     intro v20 T20 L20 s X20 hZ hown hI20 hvm20 hhp20 hWw20 hQ20
     obtain ⟨rfl, Nq20, hh20⟩ := hQ20
     have N20 := Fr.app N19 Nq20
     show own_Ends p e below s _ _ _ (own_F T20 m 220 #[.val (.long i0), .second, .val (.long i1), .second, iv i2, iv (i2 &&& (3 : Int32)), iv (((i2.toUInt32 >>> ((2 : Int32) &&& 31).toUInt32).toInt32) &&& (3 : Int32)), rv ca, rv cb, rv x3, rv x4, iv rr, iv 0, rv b16, rv b17, iv k18, iv k19] [(.int (own_lex g18 k18 g19 k19)), (.int 0)])
     refine own_g (own_F T20 m 223 #[.val (.long i0), .second, .val (.long i1), .second, iv i2, iv (i2 &&& (3 : Int32)), iv (((i2.toUInt32 >>> ((2 : Int32) &&& 31).toUInt32).toInt32) &&& (3 : Int32)), rv ca, rv cb, rv x3, rv x4, iv rr, iv 0, rv b16, rv b17, iv k18, iv k19] []) (fun _ z_ => XS.icmpNo X20.here hx rfl (hb hby at_220) rfl (teq (hsg.trans (hrr.trans (own_main (show Int32.toInt (i2 &&& (3 : Int32)) = _ by have := own_and3 i2; omega) (show Int32.toInt (((i2.toUInt32 >>> ((2 : Int32) &&& 31).toUInt32).toInt32) &&& (3 : Int32)) = _ by have := own_and3 ((i2.toUInt32 >>> ((2 : Int32) &&& 31).toUInt32).toInt32); omega) (show (Int32.toInt (i2 &&& (3 : Int32))).toNat ≤ 3 by have := own_and3 i2; omega) (show (Int32.toInt (((i2.toUInt32 >>> ((2 : Int32) &&& 31).toUInt32).toInt32) &&& (3 : Int32))).toNat ≤ 3 by have := own_and3 ((i2.toUInt32 >>> ((2 : Int32) &&& 31).toUInt32).toInt32); omega) hf hg3 dc18 dc19)))).2 z_) ?_
     refine own_g (own_F T20 m 224 #[.val (.long i0), .second, .val (.long i1), .second, iv i2, iv (i2 &&& (3 : Int32)), iv (((i2.toUInt32 >>> ((2 : Int32) &&& 31).toUInt32).toInt32) &&& (3 : Int32)), rv ca, rv cb, rv x3, rv x4, iv rr, iv 0, rv b16, rv b17, iv k18, iv k19] [(.int 1)]) (fun _ z_ => XS.iconst X20.here hx rfl (hb hby at_223) z_) ?_
     refine own_g (own_F T20 m 228 #[.val (.long i0), .second, .val (.long i1), .second, iv i2, iv (i2 &&& (3 : Int32)), iv (((i2.toUInt32 >>> ((2 : Int32) &&& 31).toUInt32).toInt32) &&& (3 : Int32)), rv ca, rv cb, rv x3, rv x4, iv rr, iv 0, rv b16, rv b17, iv k18, iv k19] [(.int 1)]) (fun _ z_ => XS.goto X20.here hx rfl (pc0 := 224) (pc' := 228) rfl (hb hby at_224) (by decide) (by decide) z_) ?_
     refine own_ret (t := .boolean) X20 hx hlk hrt rfl (Or.inl ⟨rfl, by simp, _, rfl⟩) (hb hby at_228) (by decide) (by decide) ?_
     exact ⟨rfl, N20⟩
  have J1 : ∀ (ca : Addr) (cb : Addr) (f : Nat → Int32) (g : Nat → Int32) (cv : Int32) (T21 : State) (lc21 : List Loc) (hp21 : Heap) (s : State) (hZ : Z.Warmed39 s.vm) (hown : s.vm.findClass "com/example/kunci/kunci/CodePointsComparePinLaw" = some m.cls) (X21 : Stand p l e room_1 s m #[(.long i0), (.long i1), (.int i2)] below meth c T21 lc21 2 6) (e21 : T21.heap = hp21) (N21 : Fr n0 lc21) (zs21 : n0 ≤ hp21.size) (zz21 : h0.size ≤ hp21.size) (K21 : Keep h0 hp21 []) (f21_0 : own_A Z hp21 ca .char 3 (fun i => .int (f i))) (f21_1 : own_A Z hp21 cb .char 3 (fun i => .int (g i))) (hf : ∀ i, i < 3 → 0 ≤ (f i).toInt ∧ (f i).toInt ≤ 65535) (hg : ∀ i, i < 1 → 0 ≤ (g i).toInt ∧ (g i).toInt ≤ 65535) (hcv : 0 ≤ cv.toInt ∧ cv.toInt ≤ 65535) (ga : n0 ≤ ca) (gb : n0 ≤ cb) (sa : h0.size ≤ ca) (sb : h0.size ≤ cb) (nab : ca ≠ cb) (LSj : own_LS Z h0 s.vm own_K0), own_Ends p e below s ((fun v h L vm => v = some (.int 1) ∧ Fr n0 L), ([""] : List String)) room_1.cells room_1.slots (own_F T21 m 100 #[.val (.long i0), .second, .val (.long i1), .second, iv i2, iv (i2 &&& (3 : Int32)), iv (((i2.toUInt32 >>> ((2 : Int32) &&& 31).toUInt32).toInt32) &&& (3 : Int32)), rv ca, rv cb, .unset, .unset, .unset, .unset, .unset, .unset, .unset, .unset] [(.int cv), (.int 1), (.ref cb)]) := by
   intro ca cb f g cv T21 lc21 hp21 s hZ hown X21 e21 N21 zs21 zz21 K21 f21_0 f21_1 hf hg hcv ga gb sa sb nab LSj
   have sz_ca := sa
   have sz_cb := sb
   refine own_cast X21 hx hZ e21 f21_1 1 rfl (by decide) cv (own_narC hcv) (hb hby at_100) ?_
   intro T22 h22 X22 e22 W22 A22
   have N22 := Fr.snoc X22 N21 gb
   obtain ⟨g22, hg22⟩ : ∃ gq_ : Nat → Int32, gq_ = fun q_ => if q_ = 1 then cv else g q_ := ⟨_, rfl⟩
   have A22 : own_A Z h22 cb .char 3 (fun q_ => .int (g22 q_)) := by rw [hg22]; exact A22
   show own_Ends p e below s _ _ _ (own_F T22 m 101 #[.val (.long i0), .second, .val (.long i1), .second, iv i2, iv (i2 &&& (3 : Int32)), iv (((i2.toUInt32 >>> ((2 : Int32) &&& 31).toUInt32).toInt32) &&& (3 : Int32)), rv ca, rv cb, .unset, .unset, .unset, .unset, .unset, .unset, .unset, .unset] [])
   refine own_g (own_F T22 m 103 #[.val (.long i0), .second, .val (.long i1), .second, iv i2, iv (i2 &&& (3 : Int32)), iv (((i2.toUInt32 >>> ((2 : Int32) &&& 31).toUInt32).toInt32) &&& (3 : Int32)), rv ca, rv cb, .unset, .unset, .unset, .unset, .unset, .unset, .unset, .unset] [(.ref cb)]) (fun _ z_ => XS.aload X22.here hx rfl (hb hby at_101) rfl rfl z_) ?_
   refine own_g (own_F T22 m 104 #[.val (.long i0), .second, .val (.long i1), .second, iv i2, iv (i2 &&& (3 : Int32)), iv (((i2.toUInt32 >>> ((2 : Int32) &&& 31).toUInt32).toInt32) &&& (3 : Int32)), rv ca, rv cb, .unset, .unset, .unset, .unset, .unset, .unset, .unset, .unset] [(.int 2), (.ref cb)]) (fun _ z_ => XS.iconst X22.here hx rfl (hb hby at_103) z_) ?_
   refine own_g (own_F T22 m 106 #[.val (.long i0), .second, .val (.long i1), .second, iv i2, iv (i2 &&& (3 : Int32)), iv (((i2.toUInt32 >>> ((2 : Int32) &&& 31).toUInt32).toInt32) &&& (3 : Int32)), rv ca, rv cb, .unset, .unset, .unset, .unset, .unset, .unset, .unset, .unset] [(.int i2), (.int 2), (.ref cb)]) (fun _ z_ => XS.iload X22.here hx rfl (hb hby at_104) rfl z_) ?_
   refine own_g (own_F T22 m 108 #[.val (.long i0), .second, .val (.long i1), .second, iv i2, iv (i2 &&& (3 : Int32)), iv (((i2.toUInt32 >>> ((2 : Int32) &&& 31).toUInt32).toInt32) &&& (3 : Int32)), rv ca, rv cb, .unset, .unset, .unset, .unset, .unset, .unset, .unset, .unset] [(.int 6), (.int i2), (.int 2), (.ref cb)]) (fun _ z_ => XS.bipush X22.here hx rfl (hb hby at_106) z_) ?_
   refine own_g (own_F T22 m 109 #[.val (.long i0), .second, .val (.long i1), .second, iv i2, iv (i2 &&& (3 : Int32)), iv (((i2.toUInt32 >>> ((2 : Int32) &&& 31).toUInt32).toInt32) &&& (3 : Int32)), rv ca, rv cb, .unset, .unset, .unset, .unset, .unset, .unset, .unset, .unset] [(.int ((i2.toUInt32 >>> ((6 : Int32) &&& 31).toUInt32).toInt32)), (.int 2), (.ref cb)]) (fun _ z_ => XS.iushr X22.here hx rfl (hb hby at_108) rfl z_) ?_
   refine own_g (own_F T22 m 110 #[.val (.long i0), .second, .val (.long i1), .second, iv i2, iv (i2 &&& (3 : Int32)), iv (((i2.toUInt32 >>> ((2 : Int32) &&& 31).toUInt32).toInt32) &&& (3 : Int32)), rv ca, rv cb, .unset, .unset, .unset, .unset, .unset, .unset, .unset, .unset] [(.int 1), (.int ((i2.toUInt32 >>> ((6 : Int32) &&& 31).toUInt32).toInt32)), (.int 2), (.ref cb)]) (fun _ z_ => XS.iconst X22.here hx rfl (hb hby at_109) z_) ?_
   refine own_g (own_F T22 m 111 #[.val (.long i0), .second, .val (.long i1), .second, iv i2, iv (i2 &&& (3 : Int32)), iv (((i2.toUInt32 >>> ((2 : Int32) &&& 31).toUInt32).toInt32) &&& (3 : Int32)), rv ca, rv cb, .unset, .unset, .unset, .unset, .unset, .unset, .unset, .unset] [(.int (((i2.toUInt32 >>> ((6 : Int32) &&& 31).toUInt32).toInt32) &&& (1 : Int32))), (.int 2), (.ref cb)]) (fun _ z_ => XS.iand X22.here hx rfl (hb hby at_110) rfl z_) ?_
   by_cases c111 : (((i2.toUInt32 >>> ((6 : Int32) &&& 31).toUInt32).toInt32) &&& (1 : Int32)) = (0 : Int32)
   · -- pc 111: (((i2.toUInt32 >>> ((6 : Int32) &&& 31).toUInt32).toInt32) &&& (1 : Int32)) = (0 : Int32)
    refine own_g (own_F T22 m 121 #[.val (.long i0), .second, .val (.long i1), .second, iv i2, iv (i2 &&& (3 : Int32)), iv (((i2.toUInt32 >>> ((2 : Int32) &&& 31).toUInt32).toInt32) &&& (3 : Int32)), rv ca, rv cb, .unset, .unset, .unset, .unset, .unset, .unset, .unset, .unset] [(.int 2), (.ref cb)]) (fun _ z_ => XS.ifYes X22.here hx rfl (pc0 := 111) (pc' := 121) rfl (hb hby at_111) rfl ((if0 _ _).trans (teq c111).1) (by decide) (by decide) z_) ?_
    refine own_g (own_F T22 m 122 #[.val (.long i0), .second, .val (.long i1), .second, iv i2, iv (i2 &&& (3 : Int32)), iv (((i2.toUInt32 >>> ((2 : Int32) &&& 31).toUInt32).toInt32) &&& (3 : Int32)), rv ca, rv cb, .unset, .unset, .unset, .unset, .unset, .unset, .unset, .unset] [(.long i1), (.int 2), (.ref cb)]) (fun _ z_ => XS.lloadN X22.here hx rfl (hb hby at_121) rfl z_) ?_
    refine own_g (own_F T22 m 123 #[.val (.long i0), .second, .val (.long i1), .second, iv i2, iv (i2 &&& (3 : Int32)), iv (((i2.toUInt32 >>> ((2 : Int32) &&& 31).toUInt32).toInt32) &&& (3 : Int32)), rv ca, rv cb, .unset, .unset, .unset, .unset, .unset, .unset, .unset, .unset] [(.int 2), (.long i1), (.int 2), (.ref cb)]) (fun _ z_ => XS.iconst X22.here hx rfl (hb hby at_122) z_) ?_
    refine own_callS (y := (⟨"com/example/kunci/kunci/CodePointsComparePinLaw", "mk", "(JI)C"⟩ : MethodName)) X22 hx hZ hown (own_w hw 1) (own_w hw 2) (own_w hw 3) (own_w hw 4) (by decide) e22 (hM := own_mk l Z a0 hw [] i1 (2 : Int32) h22 n0 (Nat.le_trans zs21 (Nat.le_of_eq W22.size.symm))) (W := 2) (pc := 123) (Ls := #[.val (.long i0), .second, .val (.long i1), .second, iv i2, iv (i2 &&& (3 : Int32)), iv (((i2.toUInt32 >>> ((2 : Int32) &&& 31).toUInt32).toInt32) &&& (3 : Int32)), rv ca, rv cb, .unset, .unset, .unset, .unset, .unset, .unset, .unset, .unset]) (argsL := [(.long i1), (.int 2)]) (rest := [(.int 2), (.ref cb)]) (st0 := [(.int 2), (.long i1), (.int 2), (.ref cb)]) (by rw [hml]; rfl) (lenOf own_pd25 rfl) rfl (Nat.le_of_eq rfl) (hb hby at_123) (by decide) (by decide) (by decide) (by decide) ?_
    intro v23 T23 L23 s X23 hZ hown hI23 hvm23 hhp23 hWw23 hQ23
    obtain ⟨c23, rfl, rc23, Nq23, hh23⟩ := hQ23
    have N23 := Fr.app N22 Nq23
    show own_Ends p e below s _ _ _ (own_F T23 m 126 #[.val (.long i0), .second, .val (.long i1), .second, iv i2, iv (i2 &&& (3 : Int32)), iv (((i2.toUInt32 >>> ((2 : Int32) &&& 31).toUInt32).toInt32) &&& (3 : Int32)), rv ca, rv cb, .unset, .unset, .unset, .unset, .unset, .unset, .unset, .unset] [(.int c23), (.int 2), (.ref cb)])
    have LS23 := own_LS.step LSj hI23 hWw23
    exact J2 ca cb f g22 c23 T23 _ _ s hZ hown X23 hh23 N23 (Nat.le_trans zs21 (Nat.le_of_eq W22.size.symm)) (Nat.le_trans zz21 (Nat.le_of_eq W22.size.symm)) (K21.wr W22 (Or.inr sz_cb)) (f21_0.other W22 nab) A22 hf (own_rk hg hcv hg22) rc23 ga gb sa sb nab LS23
   · -- pc 111: not (((i2.toUInt32 >>> ((6 : Int32) &&& 31).toUInt32).toInt32) &&& (1 : Int32)) = (0 : Int32)
    refine own_g (own_F T22 m 114 #[.val (.long i0), .second, .val (.long i1), .second, iv i2, iv (i2 &&& (3 : Int32)), iv (((i2.toUInt32 >>> ((2 : Int32) &&& 31).toUInt32).toInt32) &&& (3 : Int32)), rv ca, rv cb, .unset, .unset, .unset, .unset, .unset, .unset, .unset, .unset] [(.int 2), (.ref cb)]) (fun _ z_ => XS.ifNo X22.here hx rfl (hb hby at_111) rfl ((if0 _ _).trans (feq c111).1) z_) ?_
    refine own_g (own_F T22 m 116 #[.val (.long i0), .second, .val (.long i1), .second, iv i2, iv (i2 &&& (3 : Int32)), iv (((i2.toUInt32 >>> ((2 : Int32) &&& 31).toUInt32).toInt32) &&& (3 : Int32)), rv ca, rv cb, .unset, .unset, .unset, .unset, .unset, .unset, .unset, .unset] [(.ref ca), (.int 2), (.ref cb)]) (fun _ z_ => XS.aload X22.here hx rfl (hb hby at_114) rfl rfl z_) ?_
    refine own_g (own_F T22 m 117 #[.val (.long i0), .second, .val (.long i1), .second, iv i2, iv (i2 &&& (3 : Int32)), iv (((i2.toUInt32 >>> ((2 : Int32) &&& 31).toUInt32).toInt32) &&& (3 : Int32)), rv ca, rv cb, .unset, .unset, .unset, .unset, .unset, .unset, .unset, .unset] [(.int 2), (.ref ca), (.int 2), (.ref cb)]) (fun _ z_ => XS.iconst X22.here hx rfl (hb hby at_116) z_) ?_
    refine own_cald X22 hx hZ e22 (f21_0.other W22 nab) 2 rfl (by decide) (hb hby at_117) ?_
    show own_Ends p e below s _ _ _ (own_F T22 m 118 #[.val (.long i0), .second, .val (.long i1), .second, iv i2, iv (i2 &&& (3 : Int32)), iv (((i2.toUInt32 >>> ((2 : Int32) &&& 31).toUInt32).toInt32) &&& (3 : Int32)), rv ca, rv cb, .unset, .unset, .unset, .unset, .unset, .unset, .unset, .unset] [(.int (f 2)), (.int 2), (.ref cb)])
    refine own_g (own_F T22 m 126 #[.val (.long i0), .second, .val (.long i1), .second, iv i2, iv (i2 &&& (3 : Int32)), iv (((i2.toUInt32 >>> ((2 : Int32) &&& 31).toUInt32).toInt32) &&& (3 : Int32)), rv ca, rv cb, .unset, .unset, .unset, .unset, .unset, .unset, .unset, .unset] [(.int (f 2)), (.int 2), (.ref cb)]) (fun _ z_ => XS.goto X22.here hx rfl (pc0 := 118) (pc' := 126) rfl (hb hby at_118) (by decide) (by decide) z_) ?_
    exact J2 ca cb f g22 (f 2) T22 _ _ s hZ hown X22 e22 N22 (Nat.le_trans zs21 (Nat.le_of_eq W22.size.symm)) (Nat.le_trans zz21 (Nat.le_of_eq W22.size.symm)) (K21.wr W22 (Or.inr sz_cb)) (f21_0.other W22 nab) A22 hf (own_rk hg hcv hg22) (hf 2 (by decide)) ga gb sa sb nab LSj
  have J0 : ∀ (ca : Addr) (cb : Addr) (f : Nat → Int32) (g : Nat → Int32) (cv : Int32) (T24 : State) (lc24 : List Loc) (hp24 : Heap) (s : State) (hZ : Z.Warmed39 s.vm) (hown : s.vm.findClass "com/example/kunci/kunci/CodePointsComparePinLaw" = some m.cls) (X24 : Stand p l e room_1 s m #[(.long i0), (.long i1), (.int i2)] below meth c T24 lc24 2 6) (e24 : T24.heap = hp24) (N24 : Fr n0 lc24) (zs24 : n0 ≤ hp24.size) (zz24 : h0.size ≤ hp24.size) (K24 : Keep h0 hp24 []) (f24_0 : own_A Z hp24 ca .char 3 (fun i => .int (f i))) (f24_1 : own_A Z hp24 cb .char 3 (fun i => .int (g i))) (hf : ∀ i, i < 3 → 0 ≤ (f i).toInt ∧ (f i).toInt ≤ 65535) (hg : ∀ i, i < 0 → 0 ≤ (g i).toInt ∧ (g i).toInt ≤ 65535) (hcv : 0 ≤ cv.toInt ∧ cv.toInt ≤ 65535) (ga : n0 ≤ ca) (gb : n0 ≤ cb) (sa : h0.size ≤ ca) (sb : h0.size ≤ cb) (nab : ca ≠ cb) (LSj : own_LS Z h0 s.vm own_K0), own_Ends p e below s ((fun v h L vm => v = some (.int 1) ∧ Fr n0 L), ([""] : List String)) room_1.cells room_1.slots (own_F T24 m 75 #[.val (.long i0), .second, .val (.long i1), .second, iv i2, iv (i2 &&& (3 : Int32)), iv (((i2.toUInt32 >>> ((2 : Int32) &&& 31).toUInt32).toInt32) &&& (3 : Int32)), rv ca, rv cb, .unset, .unset, .unset, .unset, .unset, .unset, .unset, .unset] [(.int cv), (.int 0), (.ref cb)]) := by
   intro ca cb f g cv T24 lc24 hp24 s hZ hown X24 e24 N24 zs24 zz24 K24 f24_0 f24_1 hf hg hcv ga gb sa sb nab LSj
   have sz_ca := sa
   have sz_cb := sb
   refine own_cast X24 hx hZ e24 f24_1 0 rfl (by decide) cv (own_narC hcv) (hb hby at_75) ?_
   intro T25 h25 X25 e25 W25 A25
   have N25 := Fr.snoc X25 N24 gb
   obtain ⟨g25, hg25⟩ : ∃ gq_ : Nat → Int32, gq_ = fun q_ => if q_ = 0 then cv else g q_ := ⟨_, rfl⟩
   have A25 : own_A Z h25 cb .char 3 (fun q_ => .int (g25 q_)) := by rw [hg25]; exact A25
   show own_Ends p e below s _ _ _ (own_F T25 m 76 #[.val (.long i0), .second, .val (.long i1), .second, iv i2, iv (i2 &&& (3 : Int32)), iv (((i2.toUInt32 >>> ((2 : Int32) &&& 31).toUInt32).toInt32) &&& (3 : Int32)), rv ca, rv cb, .unset, .unset, .unset, .unset, .unset, .unset, .unset, .unset] [])
   refine own_g (own_F T25 m 78 #[.val (.long i0), .second, .val (.long i1), .second, iv i2, iv (i2 &&& (3 : Int32)), iv (((i2.toUInt32 >>> ((2 : Int32) &&& 31).toUInt32).toInt32) &&& (3 : Int32)), rv ca, rv cb, .unset, .unset, .unset, .unset, .unset, .unset, .unset, .unset] [(.ref cb)]) (fun _ z_ => XS.aload X25.here hx rfl (hb hby at_76) rfl rfl z_) ?_
   refine own_g (own_F T25 m 79 #[.val (.long i0), .second, .val (.long i1), .second, iv i2, iv (i2 &&& (3 : Int32)), iv (((i2.toUInt32 >>> ((2 : Int32) &&& 31).toUInt32).toInt32) &&& (3 : Int32)), rv ca, rv cb, .unset, .unset, .unset, .unset, .unset, .unset, .unset, .unset] [(.int 1), (.ref cb)]) (fun _ z_ => XS.iconst X25.here hx rfl (hb hby at_78) z_) ?_
   refine own_g (own_F T25 m 81 #[.val (.long i0), .second, .val (.long i1), .second, iv i2, iv (i2 &&& (3 : Int32)), iv (((i2.toUInt32 >>> ((2 : Int32) &&& 31).toUInt32).toInt32) &&& (3 : Int32)), rv ca, rv cb, .unset, .unset, .unset, .unset, .unset, .unset, .unset, .unset] [(.int i2), (.int 1), (.ref cb)]) (fun _ z_ => XS.iload X25.here hx rfl (hb hby at_79) rfl z_) ?_
   refine own_g (own_F T25 m 82 #[.val (.long i0), .second, .val (.long i1), .second, iv i2, iv (i2 &&& (3 : Int32)), iv (((i2.toUInt32 >>> ((2 : Int32) &&& 31).toUInt32).toInt32) &&& (3 : Int32)), rv ca, rv cb, .unset, .unset, .unset, .unset, .unset, .unset, .unset, .unset] [(.int 5), (.int i2), (.int 1), (.ref cb)]) (fun _ z_ => XS.iconst X25.here hx rfl (hb hby at_81) z_) ?_
   refine own_g (own_F T25 m 83 #[.val (.long i0), .second, .val (.long i1), .second, iv i2, iv (i2 &&& (3 : Int32)), iv (((i2.toUInt32 >>> ((2 : Int32) &&& 31).toUInt32).toInt32) &&& (3 : Int32)), rv ca, rv cb, .unset, .unset, .unset, .unset, .unset, .unset, .unset, .unset] [(.int ((i2.toUInt32 >>> ((5 : Int32) &&& 31).toUInt32).toInt32)), (.int 1), (.ref cb)]) (fun _ z_ => XS.iushr X25.here hx rfl (hb hby at_82) rfl z_) ?_
   refine own_g (own_F T25 m 84 #[.val (.long i0), .second, .val (.long i1), .second, iv i2, iv (i2 &&& (3 : Int32)), iv (((i2.toUInt32 >>> ((2 : Int32) &&& 31).toUInt32).toInt32) &&& (3 : Int32)), rv ca, rv cb, .unset, .unset, .unset, .unset, .unset, .unset, .unset, .unset] [(.int 1), (.int ((i2.toUInt32 >>> ((5 : Int32) &&& 31).toUInt32).toInt32)), (.int 1), (.ref cb)]) (fun _ z_ => XS.iconst X25.here hx rfl (hb hby at_83) z_) ?_
   refine own_g (own_F T25 m 85 #[.val (.long i0), .second, .val (.long i1), .second, iv i2, iv (i2 &&& (3 : Int32)), iv (((i2.toUInt32 >>> ((2 : Int32) &&& 31).toUInt32).toInt32) &&& (3 : Int32)), rv ca, rv cb, .unset, .unset, .unset, .unset, .unset, .unset, .unset, .unset] [(.int (((i2.toUInt32 >>> ((5 : Int32) &&& 31).toUInt32).toInt32) &&& (1 : Int32))), (.int 1), (.ref cb)]) (fun _ z_ => XS.iand X25.here hx rfl (hb hby at_84) rfl z_) ?_
   by_cases c85 : (((i2.toUInt32 >>> ((5 : Int32) &&& 31).toUInt32).toInt32) &&& (1 : Int32)) = (0 : Int32)
   · -- pc 85: (((i2.toUInt32 >>> ((5 : Int32) &&& 31).toUInt32).toInt32) &&& (1 : Int32)) = (0 : Int32)
    refine own_g (own_F T25 m 95 #[.val (.long i0), .second, .val (.long i1), .second, iv i2, iv (i2 &&& (3 : Int32)), iv (((i2.toUInt32 >>> ((2 : Int32) &&& 31).toUInt32).toInt32) &&& (3 : Int32)), rv ca, rv cb, .unset, .unset, .unset, .unset, .unset, .unset, .unset, .unset] [(.int 1), (.ref cb)]) (fun _ z_ => XS.ifYes X25.here hx rfl (pc0 := 85) (pc' := 95) rfl (hb hby at_85) rfl ((if0 _ _).trans (teq c85).1) (by decide) (by decide) z_) ?_
    refine own_g (own_F T25 m 96 #[.val (.long i0), .second, .val (.long i1), .second, iv i2, iv (i2 &&& (3 : Int32)), iv (((i2.toUInt32 >>> ((2 : Int32) &&& 31).toUInt32).toInt32) &&& (3 : Int32)), rv ca, rv cb, .unset, .unset, .unset, .unset, .unset, .unset, .unset, .unset] [(.long i1), (.int 1), (.ref cb)]) (fun _ z_ => XS.lloadN X25.here hx rfl (hb hby at_95) rfl z_) ?_
    refine own_g (own_F T25 m 97 #[.val (.long i0), .second, .val (.long i1), .second, iv i2, iv (i2 &&& (3 : Int32)), iv (((i2.toUInt32 >>> ((2 : Int32) &&& 31).toUInt32).toInt32) &&& (3 : Int32)), rv ca, rv cb, .unset, .unset, .unset, .unset, .unset, .unset, .unset, .unset] [(.int 1), (.long i1), (.int 1), (.ref cb)]) (fun _ z_ => XS.iconst X25.here hx rfl (hb hby at_96) z_) ?_
    refine own_callS (y := (⟨"com/example/kunci/kunci/CodePointsComparePinLaw", "mk", "(JI)C"⟩ : MethodName)) X25 hx hZ hown (own_w hw 1) (own_w hw 2) (own_w hw 3) (own_w hw 4) (by decide) e25 (hM := own_mk l Z a0 hw [] i1 (1 : Int32) h25 n0 (Nat.le_trans zs24 (Nat.le_of_eq W25.size.symm))) (W := 2) (pc := 97) (Ls := #[.val (.long i0), .second, .val (.long i1), .second, iv i2, iv (i2 &&& (3 : Int32)), iv (((i2.toUInt32 >>> ((2 : Int32) &&& 31).toUInt32).toInt32) &&& (3 : Int32)), rv ca, rv cb, .unset, .unset, .unset, .unset, .unset, .unset, .unset, .unset]) (argsL := [(.long i1), (.int 1)]) (rest := [(.int 1), (.ref cb)]) (st0 := [(.int 1), (.long i1), (.int 1), (.ref cb)]) (by rw [hml]; rfl) (lenOf own_pd25 rfl) rfl (Nat.le_of_eq rfl) (hb hby at_97) (by decide) (by decide) (by decide) (by decide) ?_
    intro v26 T26 L26 s X26 hZ hown hI26 hvm26 hhp26 hWw26 hQ26
    obtain ⟨c26, rfl, rc26, Nq26, hh26⟩ := hQ26
    have N26 := Fr.app N25 Nq26
    show own_Ends p e below s _ _ _ (own_F T26 m 100 #[.val (.long i0), .second, .val (.long i1), .second, iv i2, iv (i2 &&& (3 : Int32)), iv (((i2.toUInt32 >>> ((2 : Int32) &&& 31).toUInt32).toInt32) &&& (3 : Int32)), rv ca, rv cb, .unset, .unset, .unset, .unset, .unset, .unset, .unset, .unset] [(.int c26), (.int 1), (.ref cb)])
    have LS26 := own_LS.step LSj hI26 hWw26
    exact J1 ca cb f g25 c26 T26 _ _ s hZ hown X26 hh26 N26 (Nat.le_trans zs24 (Nat.le_of_eq W25.size.symm)) (Nat.le_trans zz24 (Nat.le_of_eq W25.size.symm)) (K24.wr W25 (Or.inr sz_cb)) (f24_0.other W25 nab) A25 hf (own_rk hg hcv hg25) rc26 ga gb sa sb nab LS26
   · -- pc 85: not (((i2.toUInt32 >>> ((5 : Int32) &&& 31).toUInt32).toInt32) &&& (1 : Int32)) = (0 : Int32)
    refine own_g (own_F T25 m 88 #[.val (.long i0), .second, .val (.long i1), .second, iv i2, iv (i2 &&& (3 : Int32)), iv (((i2.toUInt32 >>> ((2 : Int32) &&& 31).toUInt32).toInt32) &&& (3 : Int32)), rv ca, rv cb, .unset, .unset, .unset, .unset, .unset, .unset, .unset, .unset] [(.int 1), (.ref cb)]) (fun _ z_ => XS.ifNo X25.here hx rfl (hb hby at_85) rfl ((if0 _ _).trans (feq c85).1) z_) ?_
    refine own_g (own_F T25 m 90 #[.val (.long i0), .second, .val (.long i1), .second, iv i2, iv (i2 &&& (3 : Int32)), iv (((i2.toUInt32 >>> ((2 : Int32) &&& 31).toUInt32).toInt32) &&& (3 : Int32)), rv ca, rv cb, .unset, .unset, .unset, .unset, .unset, .unset, .unset, .unset] [(.ref ca), (.int 1), (.ref cb)]) (fun _ z_ => XS.aload X25.here hx rfl (hb hby at_88) rfl rfl z_) ?_
    refine own_g (own_F T25 m 91 #[.val (.long i0), .second, .val (.long i1), .second, iv i2, iv (i2 &&& (3 : Int32)), iv (((i2.toUInt32 >>> ((2 : Int32) &&& 31).toUInt32).toInt32) &&& (3 : Int32)), rv ca, rv cb, .unset, .unset, .unset, .unset, .unset, .unset, .unset, .unset] [(.int 1), (.ref ca), (.int 1), (.ref cb)]) (fun _ z_ => XS.iconst X25.here hx rfl (hb hby at_90) z_) ?_
    refine own_cald X25 hx hZ e25 (f24_0.other W25 nab) 1 rfl (by decide) (hb hby at_91) ?_
    show own_Ends p e below s _ _ _ (own_F T25 m 92 #[.val (.long i0), .second, .val (.long i1), .second, iv i2, iv (i2 &&& (3 : Int32)), iv (((i2.toUInt32 >>> ((2 : Int32) &&& 31).toUInt32).toInt32) &&& (3 : Int32)), rv ca, rv cb, .unset, .unset, .unset, .unset, .unset, .unset, .unset, .unset] [(.int (f 1)), (.int 1), (.ref cb)])
    refine own_g (own_F T25 m 100 #[.val (.long i0), .second, .val (.long i1), .second, iv i2, iv (i2 &&& (3 : Int32)), iv (((i2.toUInt32 >>> ((2 : Int32) &&& 31).toUInt32).toInt32) &&& (3 : Int32)), rv ca, rv cb, .unset, .unset, .unset, .unset, .unset, .unset, .unset, .unset] [(.int (f 1)), (.int 1), (.ref cb)]) (fun _ z_ => XS.goto X25.here hx rfl (pc0 := 92) (pc' := 100) rfl (hb hby at_92) (by decide) (by decide) z_) ?_
    exact J1 ca cb f g25 (f 1) T25 _ _ s hZ hown X25 e25 N25 (Nat.le_trans zs24 (Nat.le_of_eq W25.size.symm)) (Nat.le_trans zz24 (Nat.le_of_eq W25.size.symm)) (K24.wr W25 (Or.inr sz_cb)) (f24_0.other W25 nab) A25 hf (own_rk hg hcv hg25) (hf 1 (by decide)) ga gb sa sb nab LSj
  refine own_g (own_F T0 m 2 #[.val (.long i0), .second, .val (.long i1), .second, iv i2, .unset, .unset, .unset, .unset, .unset, .unset, .unset, .unset, .unset, .unset, .unset, .unset] [(.int i2)]) (fun _ z_ => XS.iload X0.here hx rfl (hb hby at_0) rfl z_) ?_
  refine own_g (own_F T0 m 3 #[.val (.long i0), .second, .val (.long i1), .second, iv i2, .unset, .unset, .unset, .unset, .unset, .unset, .unset, .unset, .unset, .unset, .unset, .unset] [(.int 3), (.int i2)]) (fun _ z_ => XS.iconst X0.here hx rfl (hb hby at_2) z_) ?_
  refine own_g (own_F T0 m 4 #[.val (.long i0), .second, .val (.long i1), .second, iv i2, .unset, .unset, .unset, .unset, .unset, .unset, .unset, .unset, .unset, .unset, .unset, .unset] [(.int (i2 &&& (3 : Int32)))]) (fun _ z_ => XS.iand X0.here hx rfl (hb hby at_3) rfl z_) ?_
  refine own_g (own_F T0 m 6 #[.val (.long i0), .second, .val (.long i1), .second, iv i2, iv (i2 &&& (3 : Int32)), .unset, .unset, .unset, .unset, .unset, .unset, .unset, .unset, .unset, .unset, .unset] []) (fun _ z_ => XS.istore X0.here hx rfl (hb hby at_4) rfl (l' := #[.val (.long i0), .second, .val (.long i1), .second, iv i2, iv (i2 &&& (3 : Int32)), .unset, .unset, .unset, .unset, .unset, .unset, .unset, .unset, .unset, .unset, .unset]) rfl z_) ?_
  refine own_g (own_F T0 m 8 #[.val (.long i0), .second, .val (.long i1), .second, iv i2, iv (i2 &&& (3 : Int32)), .unset, .unset, .unset, .unset, .unset, .unset, .unset, .unset, .unset, .unset, .unset] [(.int i2)]) (fun _ z_ => XS.iload X0.here hx rfl (hb hby at_6) rfl z_) ?_
  refine own_g (own_F T0 m 9 #[.val (.long i0), .second, .val (.long i1), .second, iv i2, iv (i2 &&& (3 : Int32)), .unset, .unset, .unset, .unset, .unset, .unset, .unset, .unset, .unset, .unset, .unset] [(.int 2), (.int i2)]) (fun _ z_ => XS.iconst X0.here hx rfl (hb hby at_8) z_) ?_
  refine own_g (own_F T0 m 10 #[.val (.long i0), .second, .val (.long i1), .second, iv i2, iv (i2 &&& (3 : Int32)), .unset, .unset, .unset, .unset, .unset, .unset, .unset, .unset, .unset, .unset, .unset] [(.int ((i2.toUInt32 >>> ((2 : Int32) &&& 31).toUInt32).toInt32))]) (fun _ z_ => XS.iushr X0.here hx rfl (hb hby at_9) rfl z_) ?_
  refine own_g (own_F T0 m 11 #[.val (.long i0), .second, .val (.long i1), .second, iv i2, iv (i2 &&& (3 : Int32)), .unset, .unset, .unset, .unset, .unset, .unset, .unset, .unset, .unset, .unset, .unset] [(.int 3), (.int ((i2.toUInt32 >>> ((2 : Int32) &&& 31).toUInt32).toInt32))]) (fun _ z_ => XS.iconst X0.here hx rfl (hb hby at_10) z_) ?_
  refine own_g (own_F T0 m 12 #[.val (.long i0), .second, .val (.long i1), .second, iv i2, iv (i2 &&& (3 : Int32)), .unset, .unset, .unset, .unset, .unset, .unset, .unset, .unset, .unset, .unset, .unset] [(.int (((i2.toUInt32 >>> ((2 : Int32) &&& 31).toUInt32).toInt32) &&& (3 : Int32)))]) (fun _ z_ => XS.iand X0.here hx rfl (hb hby at_11) rfl z_) ?_
  refine own_g (own_F T0 m 14 #[.val (.long i0), .second, .val (.long i1), .second, iv i2, iv (i2 &&& (3 : Int32)), iv (((i2.toUInt32 >>> ((2 : Int32) &&& 31).toUInt32).toInt32) &&& (3 : Int32)), .unset, .unset, .unset, .unset, .unset, .unset, .unset, .unset, .unset, .unset] []) (fun _ z_ => XS.istore X0.here hx rfl (hb hby at_12) rfl (l' := #[.val (.long i0), .second, .val (.long i1), .second, iv i2, iv (i2 &&& (3 : Int32)), iv (((i2.toUInt32 >>> ((2 : Int32) &&& 31).toUInt32).toInt32) &&& (3 : Int32)), .unset, .unset, .unset, .unset, .unset, .unset, .unset, .unset, .unset, .unset]) rfl z_) ?_
  refine own_g (own_F T0 m 15 #[.val (.long i0), .second, .val (.long i1), .second, iv i2, iv (i2 &&& (3 : Int32)), iv (((i2.toUInt32 >>> ((2 : Int32) &&& 31).toUInt32).toInt32) &&& (3 : Int32)), .unset, .unset, .unset, .unset, .unset, .unset, .unset, .unset, .unset, .unset] [(.int 3)]) (fun _ z_ => XS.iconst X0.here hx rfl (hb hby at_14) z_) ?_
  refine own_newA X0 hx hZ .char rfl (own_w hw 0) e0 (hb hby at_15) 3 rfl 3 (by decide) (by decide) (by decide) (by decide) ?_
  intro T27 h27 b27 X27 e27 E27 g27 A27
  have sz_b27 : h0.size ≤ b27 := Nat.le_trans (Nat.le_refl h0.size) (Nat.le_of_eq g27.symm)
  have ge_b27 : n0 ≤ b27 := Nat.le_trans Z0 (Nat.le_of_eq g27.symm)
  have A27 : own_A Z h27 b27 .char 3 (fun q_ => .int ((fun _ => (0 : Int32)) q_)) := A27
  show own_Ends p e below s _ _ _ (own_F T27 m 17 #[.val (.long i0), .second, .val (.long i1), .second, iv i2, iv (i2 &&& (3 : Int32)), iv (((i2.toUInt32 >>> ((2 : Int32) &&& 31).toUInt32).toInt32) &&& (3 : Int32)), .unset, .unset, .unset, .unset, .unset, .unset, .unset, .unset, .unset, .unset] [(.ref b27)])
  refine own_g (own_F T27 m 19 #[.val (.long i0), .second, .val (.long i1), .second, iv i2, iv (i2 &&& (3 : Int32)), iv (((i2.toUInt32 >>> ((2 : Int32) &&& 31).toUInt32).toInt32) &&& (3 : Int32)), rv b27, .unset, .unset, .unset, .unset, .unset, .unset, .unset, .unset, .unset] []) (fun _ z_ => XS.astore X27.here hx rfl (hb hby at_17) rfl rfl (l' := #[.val (.long i0), .second, .val (.long i1), .second, iv i2, iv (i2 &&& (3 : Int32)), iv (((i2.toUInt32 >>> ((2 : Int32) &&& 31).toUInt32).toInt32) &&& (3 : Int32)), rv b27, .unset, .unset, .unset, .unset, .unset, .unset, .unset, .unset, .unset]) rfl z_) ?_
  refine own_g (own_F T27 m 20 #[.val (.long i0), .second, .val (.long i1), .second, iv i2, iv (i2 &&& (3 : Int32)), iv (((i2.toUInt32 >>> ((2 : Int32) &&& 31).toUInt32).toInt32) &&& (3 : Int32)), rv b27, .unset, .unset, .unset, .unset, .unset, .unset, .unset, .unset, .unset] [(.int 3)]) (fun _ z_ => XS.iconst X27.here hx rfl (hb hby at_19) z_) ?_
  refine own_newA X27 hx hZ .char rfl (own_w hw 0) e27 (hb hby at_20) 3 rfl 3 (by decide) (by decide) (by decide) (by decide) ?_
  intro T28 h28 b28 X28 e28 E28 g28 A28
  have sz_b28 : h0.size ≤ b28 := Nat.le_trans (Nat.le_trans (Nat.le_refl h0.size) E27.1) (Nat.le_of_eq g28.symm)
  have ge_b28 : n0 ≤ b28 := Nat.le_trans (Nat.le_trans Z0 E27.1) (Nat.le_of_eq g28.symm)
  have ne_b27_b28 : b27 ≠ b28 := Nat.ne_of_lt (Nat.lt_of_lt_of_le A27.lt (Nat.le_of_eq g28.symm))
  have A28 : own_A Z h28 b28 .char 3 (fun q_ => .int ((fun _ => (0 : Int32)) q_)) := A28
  show own_Ends p e below s _ _ _ (own_F T28 m 22 #[.val (.long i0), .second, .val (.long i1), .second, iv i2, iv (i2 &&& (3 : Int32)), iv (((i2.toUInt32 >>> ((2 : Int32) &&& 31).toUInt32).toInt32) &&& (3 : Int32)), rv b27, .unset, .unset, .unset, .unset, .unset, .unset, .unset, .unset, .unset] [(.ref b28)])
  refine own_g (own_F T28 m 24 #[.val (.long i0), .second, .val (.long i1), .second, iv i2, iv (i2 &&& (3 : Int32)), iv (((i2.toUInt32 >>> ((2 : Int32) &&& 31).toUInt32).toInt32) &&& (3 : Int32)), rv b27, rv b28, .unset, .unset, .unset, .unset, .unset, .unset, .unset, .unset] []) (fun _ z_ => XS.astore X28.here hx rfl (hb hby at_22) rfl rfl (l' := #[.val (.long i0), .second, .val (.long i1), .second, iv i2, iv (i2 &&& (3 : Int32)), iv (((i2.toUInt32 >>> ((2 : Int32) &&& 31).toUInt32).toInt32) &&& (3 : Int32)), rv b27, rv b28, .unset, .unset, .unset, .unset, .unset, .unset, .unset, .unset]) rfl z_) ?_
  refine own_g (own_F T28 m 26 #[.val (.long i0), .second, .val (.long i1), .second, iv i2, iv (i2 &&& (3 : Int32)), iv (((i2.toUInt32 >>> ((2 : Int32) &&& 31).toUInt32).toInt32) &&& (3 : Int32)), rv b27, rv b28, .unset, .unset, .unset, .unset, .unset, .unset, .unset, .unset] [(.ref b27)]) (fun _ z_ => XS.aload X28.here hx rfl (hb hby at_24) rfl rfl z_) ?_
  refine own_g (own_F T28 m 27 #[.val (.long i0), .second, .val (.long i1), .second, iv i2, iv (i2 &&& (3 : Int32)), iv (((i2.toUInt32 >>> ((2 : Int32) &&& 31).toUInt32).toInt32) &&& (3 : Int32)), rv b27, rv b28, .unset, .unset, .unset, .unset, .unset, .unset, .unset, .unset] [(.int 0), (.ref b27)]) (fun _ z_ => XS.iconst X28.here hx rfl (hb hby at_26) z_) ?_
  refine own_g (own_F T28 m 28 #[.val (.long i0), .second, .val (.long i1), .second, iv i2, iv (i2 &&& (3 : Int32)), iv (((i2.toUInt32 >>> ((2 : Int32) &&& 31).toUInt32).toInt32) &&& (3 : Int32)), rv b27, rv b28, .unset, .unset, .unset, .unset, .unset, .unset, .unset, .unset] [(.long i0), (.int 0), (.ref b27)]) (fun _ z_ => XS.lloadN X28.here hx rfl (hb hby at_27) rfl z_) ?_
  refine own_g (own_F T28 m 29 #[.val (.long i0), .second, .val (.long i1), .second, iv i2, iv (i2 &&& (3 : Int32)), iv (((i2.toUInt32 >>> ((2 : Int32) &&& 31).toUInt32).toInt32) &&& (3 : Int32)), rv b27, rv b28, .unset, .unset, .unset, .unset, .unset, .unset, .unset, .unset] [(.int 0), (.long i0), (.int 0), (.ref b27)]) (fun _ z_ => XS.iconst X28.here hx rfl (hb hby at_28) z_) ?_
  refine own_callS (y := (⟨"com/example/kunci/kunci/CodePointsComparePinLaw", "mk", "(JI)C"⟩ : MethodName)) X28 hx hZ hown (own_w hw 1) (own_w hw 2) (own_w hw 3) (own_w hw 4) (by decide) e28 (hM := own_mk l Z a0 hw [] i0 (0 : Int32) h28 n0 (Nat.le_trans (Nat.le_trans Z0 E27.1) E28.1)) (W := 2) (pc := 29) (Ls := #[.val (.long i0), .second, .val (.long i1), .second, iv i2, iv (i2 &&& (3 : Int32)), iv (((i2.toUInt32 >>> ((2 : Int32) &&& 31).toUInt32).toInt32) &&& (3 : Int32)), rv b27, rv b28, .unset, .unset, .unset, .unset, .unset, .unset, .unset, .unset]) (argsL := [(.long i0), (.int 0)]) (rest := [(.int 0), (.ref b27)]) (st0 := [(.int 0), (.long i0), (.int 0), (.ref b27)]) (by rw [hml]; rfl) (lenOf own_pd25 rfl) rfl (Nat.le_of_eq rfl) (hb hby at_29) (by decide) (by decide) (by decide) (by decide) ?_
  intro v29 T29 L29 s X29 hZ hown hI29 hvm29 hhp29 hWw29 hQ29
  obtain ⟨c29, rfl, rc29, Nq29, hh29⟩ := hQ29
  have N29 := Fr.app N0 Nq29
  show own_Ends p e below s _ _ _ (own_F T29 m 32 #[.val (.long i0), .second, .val (.long i1), .second, iv i2, iv (i2 &&& (3 : Int32)), iv (((i2.toUInt32 >>> ((2 : Int32) &&& 31).toUInt32).toInt32) &&& (3 : Int32)), rv b27, rv b28, .unset, .unset, .unset, .unset, .unset, .unset, .unset, .unset] [(.int c29), (.int 0), (.ref b27)])
  have LS29 := own_LS.step LS0 hI29 hWw29
  refine own_cast X29 hx hZ hh29 (A27.ext E28) 0 rfl (by decide) c29 (own_narC rc29) (hb hby at_32) ?_
  intro T30 h30 X30 e30 W30 A30
  have N30 := Fr.snoc X30 N29 ge_b27
  obtain ⟨g30, A30, q30_0, q30_1, q30_2⟩ : ∃ gq_ : Nat → Int32, own_A Z h30 b27 .char 3 (fun q_ => .int (gq_ q_)) ∧ gq_ 0 = c29 ∧ gq_ 1 = (0 : Int32) ∧ gq_ 2 = (0 : Int32) := ⟨_, A30, rfl, (show ite _ _ _ = _ from (if_neg (by decide)).trans rfl), (show ite _ _ _ = _ from (if_neg (by decide)).trans rfl)⟩
  show own_Ends p e below s _ _ _ (own_F T30 m 33 #[.val (.long i0), .second, .val (.long i1), .second, iv i2, iv (i2 &&& (3 : Int32)), iv (((i2.toUInt32 >>> ((2 : Int32) &&& 31).toUInt32).toInt32) &&& (3 : Int32)), rv b27, rv b28, .unset, .unset, .unset, .unset, .unset, .unset, .unset, .unset] [])
  refine own_g (own_F T30 m 35 #[.val (.long i0), .second, .val (.long i1), .second, iv i2, iv (i2 &&& (3 : Int32)), iv (((i2.toUInt32 >>> ((2 : Int32) &&& 31).toUInt32).toInt32) &&& (3 : Int32)), rv b27, rv b28, .unset, .unset, .unset, .unset, .unset, .unset, .unset, .unset] [(.ref b27)]) (fun _ z_ => XS.aload X30.here hx rfl (hb hby at_33) rfl rfl z_) ?_
  refine own_g (own_F T30 m 36 #[.val (.long i0), .second, .val (.long i1), .second, iv i2, iv (i2 &&& (3 : Int32)), iv (((i2.toUInt32 >>> ((2 : Int32) &&& 31).toUInt32).toInt32) &&& (3 : Int32)), rv b27, rv b28, .unset, .unset, .unset, .unset, .unset, .unset, .unset, .unset] [(.int 1), (.ref b27)]) (fun _ z_ => XS.iconst X30.here hx rfl (hb hby at_35) z_) ?_
  refine own_g (own_F T30 m 37 #[.val (.long i0), .second, .val (.long i1), .second, iv i2, iv (i2 &&& (3 : Int32)), iv (((i2.toUInt32 >>> ((2 : Int32) &&& 31).toUInt32).toInt32) &&& (3 : Int32)), rv b27, rv b28, .unset, .unset, .unset, .unset, .unset, .unset, .unset, .unset] [(.long i0), (.int 1), (.ref b27)]) (fun _ z_ => XS.lloadN X30.here hx rfl (hb hby at_36) rfl z_) ?_
  refine own_g (own_F T30 m 38 #[.val (.long i0), .second, .val (.long i1), .second, iv i2, iv (i2 &&& (3 : Int32)), iv (((i2.toUInt32 >>> ((2 : Int32) &&& 31).toUInt32).toInt32) &&& (3 : Int32)), rv b27, rv b28, .unset, .unset, .unset, .unset, .unset, .unset, .unset, .unset] [(.int 1), (.long i0), (.int 1), (.ref b27)]) (fun _ z_ => XS.iconst X30.here hx rfl (hb hby at_37) z_) ?_
  refine own_callS (y := (⟨"com/example/kunci/kunci/CodePointsComparePinLaw", "mk", "(JI)C"⟩ : MethodName)) X30 hx hZ hown (own_w hw 1) (own_w hw 2) (own_w hw 3) (own_w hw 4) (by decide) e30 (hM := own_mk l Z a0 hw [] i0 (1 : Int32) h30 n0 (Nat.le_trans (Nat.le_trans (Nat.le_trans Z0 E27.1) E28.1) (Nat.le_of_eq W30.size.symm))) (W := 2) (pc := 38) (Ls := #[.val (.long i0), .second, .val (.long i1), .second, iv i2, iv (i2 &&& (3 : Int32)), iv (((i2.toUInt32 >>> ((2 : Int32) &&& 31).toUInt32).toInt32) &&& (3 : Int32)), rv b27, rv b28, .unset, .unset, .unset, .unset, .unset, .unset, .unset, .unset]) (argsL := [(.long i0), (.int 1)]) (rest := [(.int 1), (.ref b27)]) (st0 := [(.int 1), (.long i0), (.int 1), (.ref b27)]) (by rw [hml]; rfl) (lenOf own_pd25 rfl) rfl (Nat.le_of_eq rfl) (hb hby at_38) (by decide) (by decide) (by decide) (by decide) ?_
  intro v31 T31 L31 s X31 hZ hown hI31 hvm31 hhp31 hWw31 hQ31
  obtain ⟨c31, rfl, rc31, Nq31, hh31⟩ := hQ31
  have N31 := Fr.app N30 Nq31
  show own_Ends p e below s _ _ _ (own_F T31 m 41 #[.val (.long i0), .second, .val (.long i1), .second, iv i2, iv (i2 &&& (3 : Int32)), iv (((i2.toUInt32 >>> ((2 : Int32) &&& 31).toUInt32).toInt32) &&& (3 : Int32)), rv b27, rv b28, .unset, .unset, .unset, .unset, .unset, .unset, .unset, .unset] [(.int c31), (.int 1), (.ref b27)])
  have LS31 := own_LS.step LS29 hI31 hWw31
  refine own_cast X31 hx hZ hh31 A30 1 rfl (by decide) c31 (own_narC rc31) (hb hby at_41) ?_
  intro T32 h32 X32 e32 W32 A32
  have N32 := Fr.snoc X32 N31 ge_b27
  obtain ⟨g32, A32, q32_0, q32_1, q32_2⟩ : ∃ gq_ : Nat → Int32, own_A Z h32 b27 .char 3 (fun q_ => .int (gq_ q_)) ∧ gq_ 0 = c29 ∧ gq_ 1 = c31 ∧ gq_ 2 = (0 : Int32) := ⟨_, A32, (show ite _ _ _ = _ from (if_neg (by decide)).trans q30_0), rfl, (show ite _ _ _ = _ from (if_neg (by decide)).trans q30_2)⟩
  show own_Ends p e below s _ _ _ (own_F T32 m 42 #[.val (.long i0), .second, .val (.long i1), .second, iv i2, iv (i2 &&& (3 : Int32)), iv (((i2.toUInt32 >>> ((2 : Int32) &&& 31).toUInt32).toInt32) &&& (3 : Int32)), rv b27, rv b28, .unset, .unset, .unset, .unset, .unset, .unset, .unset, .unset] [])
  refine own_g (own_F T32 m 44 #[.val (.long i0), .second, .val (.long i1), .second, iv i2, iv (i2 &&& (3 : Int32)), iv (((i2.toUInt32 >>> ((2 : Int32) &&& 31).toUInt32).toInt32) &&& (3 : Int32)), rv b27, rv b28, .unset, .unset, .unset, .unset, .unset, .unset, .unset, .unset] [(.ref b27)]) (fun _ z_ => XS.aload X32.here hx rfl (hb hby at_42) rfl rfl z_) ?_
  refine own_g (own_F T32 m 45 #[.val (.long i0), .second, .val (.long i1), .second, iv i2, iv (i2 &&& (3 : Int32)), iv (((i2.toUInt32 >>> ((2 : Int32) &&& 31).toUInt32).toInt32) &&& (3 : Int32)), rv b27, rv b28, .unset, .unset, .unset, .unset, .unset, .unset, .unset, .unset] [(.int 2), (.ref b27)]) (fun _ z_ => XS.iconst X32.here hx rfl (hb hby at_44) z_) ?_
  refine own_g (own_F T32 m 46 #[.val (.long i0), .second, .val (.long i1), .second, iv i2, iv (i2 &&& (3 : Int32)), iv (((i2.toUInt32 >>> ((2 : Int32) &&& 31).toUInt32).toInt32) &&& (3 : Int32)), rv b27, rv b28, .unset, .unset, .unset, .unset, .unset, .unset, .unset, .unset] [(.long i0), (.int 2), (.ref b27)]) (fun _ z_ => XS.lloadN X32.here hx rfl (hb hby at_45) rfl z_) ?_
  refine own_g (own_F T32 m 47 #[.val (.long i0), .second, .val (.long i1), .second, iv i2, iv (i2 &&& (3 : Int32)), iv (((i2.toUInt32 >>> ((2 : Int32) &&& 31).toUInt32).toInt32) &&& (3 : Int32)), rv b27, rv b28, .unset, .unset, .unset, .unset, .unset, .unset, .unset, .unset] [(.int 2), (.long i0), (.int 2), (.ref b27)]) (fun _ z_ => XS.iconst X32.here hx rfl (hb hby at_46) z_) ?_
  refine own_callS (y := (⟨"com/example/kunci/kunci/CodePointsComparePinLaw", "mk", "(JI)C"⟩ : MethodName)) X32 hx hZ hown (own_w hw 1) (own_w hw 2) (own_w hw 3) (own_w hw 4) (by decide) e32 (hM := own_mk l Z a0 hw [] i0 (2 : Int32) h32 n0 (Nat.le_trans (Nat.le_trans (Nat.le_trans (Nat.le_trans Z0 E27.1) E28.1) (Nat.le_of_eq W30.size.symm)) (Nat.le_of_eq W32.size.symm))) (W := 2) (pc := 47) (Ls := #[.val (.long i0), .second, .val (.long i1), .second, iv i2, iv (i2 &&& (3 : Int32)), iv (((i2.toUInt32 >>> ((2 : Int32) &&& 31).toUInt32).toInt32) &&& (3 : Int32)), rv b27, rv b28, .unset, .unset, .unset, .unset, .unset, .unset, .unset, .unset]) (argsL := [(.long i0), (.int 2)]) (rest := [(.int 2), (.ref b27)]) (st0 := [(.int 2), (.long i0), (.int 2), (.ref b27)]) (by rw [hml]; rfl) (lenOf own_pd25 rfl) rfl (Nat.le_of_eq rfl) (hb hby at_47) (by decide) (by decide) (by decide) (by decide) ?_
  intro v33 T33 L33 s X33 hZ hown hI33 hvm33 hhp33 hWw33 hQ33
  obtain ⟨c33, rfl, rc33, Nq33, hh33⟩ := hQ33
  have N33 := Fr.app N32 Nq33
  show own_Ends p e below s _ _ _ (own_F T33 m 50 #[.val (.long i0), .second, .val (.long i1), .second, iv i2, iv (i2 &&& (3 : Int32)), iv (((i2.toUInt32 >>> ((2 : Int32) &&& 31).toUInt32).toInt32) &&& (3 : Int32)), rv b27, rv b28, .unset, .unset, .unset, .unset, .unset, .unset, .unset, .unset] [(.int c33), (.int 2), (.ref b27)])
  have LS33 := own_LS.step LS31 hI33 hWw33
  refine own_cast X33 hx hZ hh33 A32 2 rfl (by decide) c33 (own_narC rc33) (hb hby at_50) ?_
  intro T34 h34 X34 e34 W34 A34
  have N34 := Fr.snoc X34 N33 ge_b27
  obtain ⟨g34, A34, q34_0, q34_1, q34_2⟩ : ∃ gq_ : Nat → Int32, own_A Z h34 b27 .char 3 (fun q_ => .int (gq_ q_)) ∧ gq_ 0 = c29 ∧ gq_ 1 = c31 ∧ gq_ 2 = c33 := ⟨_, A34, (show ite _ _ _ = _ from (if_neg (by decide)).trans q32_0), (show ite _ _ _ = _ from (if_neg (by decide)).trans q32_1), rfl⟩
  show own_Ends p e below s _ _ _ (own_F T34 m 51 #[.val (.long i0), .second, .val (.long i1), .second, iv i2, iv (i2 &&& (3 : Int32)), iv (((i2.toUInt32 >>> ((2 : Int32) &&& 31).toUInt32).toInt32) &&& (3 : Int32)), rv b27, rv b28, .unset, .unset, .unset, .unset, .unset, .unset, .unset, .unset] [])
  refine own_g (own_F T34 m 53 #[.val (.long i0), .second, .val (.long i1), .second, iv i2, iv (i2 &&& (3 : Int32)), iv (((i2.toUInt32 >>> ((2 : Int32) &&& 31).toUInt32).toInt32) &&& (3 : Int32)), rv b27, rv b28, .unset, .unset, .unset, .unset, .unset, .unset, .unset, .unset] [(.ref b28)]) (fun _ z_ => XS.aload X34.here hx rfl (hb hby at_51) rfl rfl z_) ?_
  refine own_g (own_F T34 m 54 #[.val (.long i0), .second, .val (.long i1), .second, iv i2, iv (i2 &&& (3 : Int32)), iv (((i2.toUInt32 >>> ((2 : Int32) &&& 31).toUInt32).toInt32) &&& (3 : Int32)), rv b27, rv b28, .unset, .unset, .unset, .unset, .unset, .unset, .unset, .unset] [(.int 0), (.ref b28)]) (fun _ z_ => XS.iconst X34.here hx rfl (hb hby at_53) z_) ?_
  refine own_g (own_F T34 m 56 #[.val (.long i0), .second, .val (.long i1), .second, iv i2, iv (i2 &&& (3 : Int32)), iv (((i2.toUInt32 >>> ((2 : Int32) &&& 31).toUInt32).toInt32) &&& (3 : Int32)), rv b27, rv b28, .unset, .unset, .unset, .unset, .unset, .unset, .unset, .unset] [(.int i2), (.int 0), (.ref b28)]) (fun _ z_ => XS.iload X34.here hx rfl (hb hby at_54) rfl z_) ?_
  refine own_g (own_F T34 m 57 #[.val (.long i0), .second, .val (.long i1), .second, iv i2, iv (i2 &&& (3 : Int32)), iv (((i2.toUInt32 >>> ((2 : Int32) &&& 31).toUInt32).toInt32) &&& (3 : Int32)), rv b27, rv b28, .unset, .unset, .unset, .unset, .unset, .unset, .unset, .unset] [(.int 4), (.int i2), (.int 0), (.ref b28)]) (fun _ z_ => XS.iconst X34.here hx rfl (hb hby at_56) z_) ?_
  refine own_g (own_F T34 m 58 #[.val (.long i0), .second, .val (.long i1), .second, iv i2, iv (i2 &&& (3 : Int32)), iv (((i2.toUInt32 >>> ((2 : Int32) &&& 31).toUInt32).toInt32) &&& (3 : Int32)), rv b27, rv b28, .unset, .unset, .unset, .unset, .unset, .unset, .unset, .unset] [(.int ((i2.toUInt32 >>> ((4 : Int32) &&& 31).toUInt32).toInt32)), (.int 0), (.ref b28)]) (fun _ z_ => XS.iushr X34.here hx rfl (hb hby at_57) rfl z_) ?_
  refine own_g (own_F T34 m 59 #[.val (.long i0), .second, .val (.long i1), .second, iv i2, iv (i2 &&& (3 : Int32)), iv (((i2.toUInt32 >>> ((2 : Int32) &&& 31).toUInt32).toInt32) &&& (3 : Int32)), rv b27, rv b28, .unset, .unset, .unset, .unset, .unset, .unset, .unset, .unset] [(.int 1), (.int ((i2.toUInt32 >>> ((4 : Int32) &&& 31).toUInt32).toInt32)), (.int 0), (.ref b28)]) (fun _ z_ => XS.iconst X34.here hx rfl (hb hby at_58) z_) ?_
  refine own_g (own_F T34 m 60 #[.val (.long i0), .second, .val (.long i1), .second, iv i2, iv (i2 &&& (3 : Int32)), iv (((i2.toUInt32 >>> ((2 : Int32) &&& 31).toUInt32).toInt32) &&& (3 : Int32)), rv b27, rv b28, .unset, .unset, .unset, .unset, .unset, .unset, .unset, .unset] [(.int (((i2.toUInt32 >>> ((4 : Int32) &&& 31).toUInt32).toInt32) &&& (1 : Int32))), (.int 0), (.ref b28)]) (fun _ z_ => XS.iand X34.here hx rfl (hb hby at_59) rfl z_) ?_
  by_cases c60 : (((i2.toUInt32 >>> ((4 : Int32) &&& 31).toUInt32).toInt32) &&& (1 : Int32)) = (0 : Int32)
  · -- pc 60: (((i2.toUInt32 >>> ((4 : Int32) &&& 31).toUInt32).toInt32) &&& (1 : Int32)) = (0 : Int32)
   refine own_g (own_F T34 m 70 #[.val (.long i0), .second, .val (.long i1), .second, iv i2, iv (i2 &&& (3 : Int32)), iv (((i2.toUInt32 >>> ((2 : Int32) &&& 31).toUInt32).toInt32) &&& (3 : Int32)), rv b27, rv b28, .unset, .unset, .unset, .unset, .unset, .unset, .unset, .unset] [(.int 0), (.ref b28)]) (fun _ z_ => XS.ifYes X34.here hx rfl (pc0 := 60) (pc' := 70) rfl (hb hby at_60) rfl ((if0 _ _).trans (teq c60).1) (by decide) (by decide) z_) ?_
   refine own_g (own_F T34 m 71 #[.val (.long i0), .second, .val (.long i1), .second, iv i2, iv (i2 &&& (3 : Int32)), iv (((i2.toUInt32 >>> ((2 : Int32) &&& 31).toUInt32).toInt32) &&& (3 : Int32)), rv b27, rv b28, .unset, .unset, .unset, .unset, .unset, .unset, .unset, .unset] [(.long i1), (.int 0), (.ref b28)]) (fun _ z_ => XS.lloadN X34.here hx rfl (hb hby at_70) rfl z_) ?_
   refine own_g (own_F T34 m 72 #[.val (.long i0), .second, .val (.long i1), .second, iv i2, iv (i2 &&& (3 : Int32)), iv (((i2.toUInt32 >>> ((2 : Int32) &&& 31).toUInt32).toInt32) &&& (3 : Int32)), rv b27, rv b28, .unset, .unset, .unset, .unset, .unset, .unset, .unset, .unset] [(.int 0), (.long i1), (.int 0), (.ref b28)]) (fun _ z_ => XS.iconst X34.here hx rfl (hb hby at_71) z_) ?_
   refine own_callS (y := (⟨"com/example/kunci/kunci/CodePointsComparePinLaw", "mk", "(JI)C"⟩ : MethodName)) X34 hx hZ hown (own_w hw 1) (own_w hw 2) (own_w hw 3) (own_w hw 4) (by decide) e34 (hM := own_mk l Z a0 hw [] i1 (0 : Int32) h34 n0 (Nat.le_trans (Nat.le_trans (Nat.le_trans (Nat.le_trans (Nat.le_trans Z0 E27.1) E28.1) (Nat.le_of_eq W30.size.symm)) (Nat.le_of_eq W32.size.symm)) (Nat.le_of_eq W34.size.symm))) (W := 2) (pc := 72) (Ls := #[.val (.long i0), .second, .val (.long i1), .second, iv i2, iv (i2 &&& (3 : Int32)), iv (((i2.toUInt32 >>> ((2 : Int32) &&& 31).toUInt32).toInt32) &&& (3 : Int32)), rv b27, rv b28, .unset, .unset, .unset, .unset, .unset, .unset, .unset, .unset]) (argsL := [(.long i1), (.int 0)]) (rest := [(.int 0), (.ref b28)]) (st0 := [(.int 0), (.long i1), (.int 0), (.ref b28)]) (by rw [hml]; rfl) (lenOf own_pd25 rfl) rfl (Nat.le_of_eq rfl) (hb hby at_72) (by decide) (by decide) (by decide) (by decide) ?_
   intro v35 T35 L35 s X35 hZ hown hI35 hvm35 hhp35 hWw35 hQ35
   obtain ⟨c35, rfl, rc35, Nq35, hh35⟩ := hQ35
   have N35 := Fr.app N34 Nq35
   show own_Ends p e below s _ _ _ (own_F T35 m 75 #[.val (.long i0), .second, .val (.long i1), .second, iv i2, iv (i2 &&& (3 : Int32)), iv (((i2.toUInt32 >>> ((2 : Int32) &&& 31).toUInt32).toInt32) &&& (3 : Int32)), rv b27, rv b28, .unset, .unset, .unset, .unset, .unset, .unset, .unset, .unset] [(.int c35), (.int 0), (.ref b28)])
   have LS35 := own_LS.step LS33 hI35 hWw35
   have hf : ∀ i, i < 3 → 0 ≤ (g34 i).toInt ∧ (g34 i).toInt ≤ 65535 := fun i hi => by rcases own_lt3 hi with rfl | rfl | rfl; rw [q34_0]; exact rc29; rw [q34_1]; exact rc31; rw [q34_2]; exact rc33
   exact J0 b27 b28 g34 (fun _ => (0 : Int32)) c35 T35 _ _ s hZ hown X35 hh35 N35 (Nat.le_trans (Nat.le_trans (Nat.le_trans (Nat.le_trans (Nat.le_trans Z0 E27.1) E28.1) (Nat.le_of_eq W30.size.symm)) (Nat.le_of_eq W32.size.symm)) (Nat.le_of_eq W34.size.symm)) (Nat.le_trans (Nat.le_trans (Nat.le_trans (Nat.le_trans (Nat.le_trans (Nat.le_refl h0.size) E27.1) E28.1) (Nat.le_of_eq W30.size.symm)) (Nat.le_of_eq W32.size.symm)) (Nat.le_of_eq W34.size.symm)) ((((((Keep.refl _ _).ext E27).ext E28).wr W30 (Or.inr sz_b27)).wr W32 (Or.inr sz_b27)).wr W34 (Or.inr sz_b27)) A34 (((A28.other W30 (Ne.symm ne_b27_b28)).other W32 (Ne.symm ne_b27_b28)).other W34 (Ne.symm ne_b27_b28)) hf (fun i hi => absurd hi (Nat.not_lt_zero i)) rc35 ge_b27 ge_b28 sz_b27 sz_b28 ne_b27_b28 LS35
  · -- pc 60: not (((i2.toUInt32 >>> ((4 : Int32) &&& 31).toUInt32).toInt32) &&& (1 : Int32)) = (0 : Int32)
   refine own_g (own_F T34 m 63 #[.val (.long i0), .second, .val (.long i1), .second, iv i2, iv (i2 &&& (3 : Int32)), iv (((i2.toUInt32 >>> ((2 : Int32) &&& 31).toUInt32).toInt32) &&& (3 : Int32)), rv b27, rv b28, .unset, .unset, .unset, .unset, .unset, .unset, .unset, .unset] [(.int 0), (.ref b28)]) (fun _ z_ => XS.ifNo X34.here hx rfl (hb hby at_60) rfl ((if0 _ _).trans (feq c60).1) z_) ?_
   refine own_g (own_F T34 m 65 #[.val (.long i0), .second, .val (.long i1), .second, iv i2, iv (i2 &&& (3 : Int32)), iv (((i2.toUInt32 >>> ((2 : Int32) &&& 31).toUInt32).toInt32) &&& (3 : Int32)), rv b27, rv b28, .unset, .unset, .unset, .unset, .unset, .unset, .unset, .unset] [(.ref b27), (.int 0), (.ref b28)]) (fun _ z_ => XS.aload X34.here hx rfl (hb hby at_63) rfl rfl z_) ?_
   refine own_g (own_F T34 m 66 #[.val (.long i0), .second, .val (.long i1), .second, iv i2, iv (i2 &&& (3 : Int32)), iv (((i2.toUInt32 >>> ((2 : Int32) &&& 31).toUInt32).toInt32) &&& (3 : Int32)), rv b27, rv b28, .unset, .unset, .unset, .unset, .unset, .unset, .unset, .unset] [(.int 0), (.ref b27), (.int 0), (.ref b28)]) (fun _ z_ => XS.iconst X34.here hx rfl (hb hby at_65) z_) ?_
   refine own_cald X34 hx hZ e34 A34 0 rfl (by decide) (hb hby at_66) ?_
   show own_Ends p e below s _ _ _ (own_F T34 m 67 #[.val (.long i0), .second, .val (.long i1), .second, iv i2, iv (i2 &&& (3 : Int32)), iv (((i2.toUInt32 >>> ((2 : Int32) &&& 31).toUInt32).toInt32) &&& (3 : Int32)), rv b27, rv b28, .unset, .unset, .unset, .unset, .unset, .unset, .unset, .unset] [(.int (g34 0)), (.int 0), (.ref b28)])
   refine own_g (own_F T34 m 75 #[.val (.long i0), .second, .val (.long i1), .second, iv i2, iv (i2 &&& (3 : Int32)), iv (((i2.toUInt32 >>> ((2 : Int32) &&& 31).toUInt32).toInt32) &&& (3 : Int32)), rv b27, rv b28, .unset, .unset, .unset, .unset, .unset, .unset, .unset, .unset] [(.int (g34 0)), (.int 0), (.ref b28)]) (fun _ z_ => XS.goto X34.here hx rfl (pc0 := 67) (pc' := 75) rfl (hb hby at_67) (by decide) (by decide) z_) ?_
   have hf : ∀ i, i < 3 → 0 ≤ (g34 i).toInt ∧ (g34 i).toInt ≤ 65535 := fun i hi => by rcases own_lt3 hi with rfl | rfl | rfl; rw [q34_0]; exact rc29; rw [q34_1]; exact rc31; rw [q34_2]; exact rc33
   exact J0 b27 b28 g34 (fun _ => (0 : Int32)) (g34 0) T34 _ _ s hZ hown X34 e34 N34 (Nat.le_trans (Nat.le_trans (Nat.le_trans (Nat.le_trans (Nat.le_trans Z0 E27.1) E28.1) (Nat.le_of_eq W30.size.symm)) (Nat.le_of_eq W32.size.symm)) (Nat.le_of_eq W34.size.symm)) (Nat.le_trans (Nat.le_trans (Nat.le_trans (Nat.le_trans (Nat.le_trans (Nat.le_refl h0.size) E27.1) E28.1) (Nat.le_of_eq W30.size.symm)) (Nat.le_of_eq W32.size.symm)) (Nat.le_of_eq W34.size.symm)) ((((((Keep.refl _ _).ext E27).ext E28).wr W30 (Or.inr sz_b27)).wr W32 (Or.inr sz_b27)).wr W34 (Or.inr sz_b27)) A34 (((A28.other W30 (Ne.symm ne_b27_b28)).other W32 (Ne.symm ne_b27_b28)).other W34 (Ne.symm ne_b27_b28)) hf (fun i hi => absurd hi (Nat.not_lt_zero i)) (hf 0 (by decide)) ge_b27 ge_b28 sz_b27 sz_b28 ne_b27_b28 LS33
set_option maxRecDepth 65536 in
set_option maxHeartbeats 40000000 in
theorem comes_1 {Post : Tables → Env → Array Value → State → Outcome → State → Prop} (hpost : ∀ tb e args s v u, (limb_1_1.after args s (.returned v) u = true ∧ limb_1_2.after args s (.returned v) u = true ∧ True) → FramedW s (.returned v) u (Jvm.fieldLocs frame_1_writes args s ++ Jvm.arrayLocs frame_1_arrays args s ++ Jvm.staticLocs frame_1_statics s) 40 1216 → Post tb e args s (.returned v) u) :
    ArmFor flags0 classFile x code maxLocals ret World_1 tables_1 room_1 Calls_1 rest_1 Pre_1 Post := by
  intro l hfl _ _ p e ha hc hk s m args below hf hA hF happ hP
  obtain ⟨hcalls, hrest, hpre⟩ := hP
  obtain ⟨-, -, -, hnamed, -, -, -, hat⟩ := (Spec.applies_iff hf).mp happ
  obtain ⟨hg, hn⟩ := and_e (Cond.before_iff.mp (show (Jvm.Cond.and given_1 narrow_1).before args s = true from hpre))
  obtain ⟨hcount, hgg⟩ := and_e hg
  obtain ⟨hk0, hgg0⟩ := and_e hgg
  obtain ⟨hk1, hk2⟩ := and_e hgg0
  obtain ⟨w0, w1, w2, rfl⟩ : ∃ w0 w1 w2 : Value, args = #[w0, w1, w2] := by
    have hs : args.size = 3 := by simpa [Cond.value, given_1] using hcount
    obtain ⟨L⟩ := args
    match L, hs with
    | [w0, w1, w2], _ => exact ⟨w0, w1, w2, rfl⟩
  have hw := fun d (hd : d ∈ tables_1) => atoms_spec (ws := Jvm.Cond.code x code maxLocals ret :: tables_1) hat d (List.mem_cons_of_mem _ hd)
  have hfit : Fit s := fun {y c} hc i hi => by
    obtain ⟨ha, rfl⟩ := Array.getElem?_eq_some_iff.mp hc
    have q := List.all_eq_true.mp ((Array.all_eq_true_iff_forall_mem.mp hF) _ (Array.getElem_mem ha)) i (List.mem_range.mpr hi)
    simpa [Array.getElem?_eq_getElem hi] using q
  obtain ⟨i0, ei0⟩ := isL_v hk0
  obtain rfl : w0 = (.long i0) := Option.some.inj ei0
  obtain ⟨i1, ei1⟩ := isL_v hk1
  obtain rfl : w1 = (.long i1) := Option.some.inj ei1
  obtain ⟨i2, ei2⟩ := is_v hk2
  obtain rfl : w2 = (.int i2) := Option.some.inj ei2
  obtain ⟨hsets, -⟩ := atoms_of jdkStatics_1 (by rw [← rest_1_c_eq]; exact hrest)
  obtain ⟨zc, evc⟩ := is_v (Cond.before_iff.mp (hsets _ (List.mem_of_getElem? (i := 1) rfl)))
  have S_cs : Sta s s.heap "java/lang/String" "COMPACT_STRINGS" "Z" (.int zc) := Sta.start evc (Or.inl (hsets _ (List.mem_of_getElem? (i := 0) rfl)))
  have hzc : ¬ zc = (0 : Int32) := fun q => by
    have h1 := not_v (Cond.before_iff.mp (hsets _ (List.mem_of_getElem? (i := 2) rfl)))
    rw [eq_i evc (Term.int_eval 0) (by rw [q])] at h1
    cases h1
  obtain ⟨sv, evs, hsv⟩ := isR_v (Cond.before_iff.mp (hsets _ (List.mem_of_getElem? (i := 8) rfl)))
  have S_sf : Sta s s.heap "jdk/internal/util/Preconditions" "SIOOBE_FORMATTER" "Ljava/util/function/BiFunction;" sv := Sta.start evs (Or.inl (hsets _ (List.mem_of_getElem? (i := 7) rfl)))
  have S_ad := Sta.start (own_eqi (Cond.before_iff.mp (hsets _ (List.mem_of_getElem? (i := 12) rfl)))) (Or.inl (hsets _ (List.mem_of_getElem? (i := 11) rfl)))
  have S_hi := Sta.start (own_eqi (Cond.before_iff.mp (hsets _ (List.mem_of_getElem? (i := 15) rfl)))) (Or.inl (hsets _ (List.mem_of_getElem? (i := 14) rfl)))
  have S_lo := Sta.start (own_eqi (Cond.before_iff.mp (hsets _ (List.mem_of_getElem? (i := 18) rfl)))) (Or.inl (hsets _ (List.mem_of_getElem? (i := 17) rfl)))
  have hh7 : Jvm.Lit.constHeld s "java/lang/String" 7 := hcalls.1 _ (List.mem_of_getElem? (i := 0) rfl)
  obtain ⟨n, o, h1, h2, h3, _, L, rfl, ⟨rfl, N⟩, hq⟩ := own_law l s _ hw tables_1 i0 i1 i2 zc sv hsv s.heap s.heap.size (Nat.le_refl _) hzc S_cs S_sf S_ad S_hi S_lo (fun _ _ q => q) hh7 (hsets _ (List.mem_of_getElem? (i := 2) rfl)) p e ha hc hk s m _ below hf ((Spec.applies_iff_loose hf).mp happ).1 ⟨rfl, State.Warmed39.refl s, rfl, own_LS.start⟩ trivial
  refine ⟨n, _, h1, h2, h3, hpost _ _ _ _ _ _ ⟨Cond.after_iff.mpr rfl, Cond.after_iff.mpr (eq_i res_at (Term.int_eval (1)) rfl), trivial⟩ ⟨hq.1.1, hq.1.2.1, hq.1.2.2.1, (hq.1.2.2.2.sift fun y hy => Or.inr (N y hy)).mono (by decide) (by decide)⟩⟩
theorem main_1_1 : Claimed_1_1 := comes_1 fun _ _ _ _ _ _ h hF => ⟨h.1, hF⟩
theorem main_1_2 : Claimed_1_2 := comes_1 fun _ _ _ _ _ _ h hF => ⟨h.2.1, hF⟩
end Jvm.Pilot.@@N@@
namespace Jvm.Pilot.@@N@@
open Jvm Jvm.ClassFile Sem Op Lib Jvm.Free Jvm.Stand Jvm.Pilot.@@N@@.Jvm.D
/-! MADE BY PROGRAM (witnessworld.py) out of the Statement's table words and the real class files: 23 classes; the members and pool entries that the words name. The judged class is class 1, her method 9. -/
namespace start1
open Jvm.ClassFile
def u (s : String) : CpInfo := .utf8 (stringToUtf16 s)
/-- a pool by its gaps: so many unusable entries, then the entry; so many at the end -/
def gap : Nat → List CpInfo → List CpInfo
  | 0, r => r
  | n + 1, r => .unusable :: gap n r
def poolList (es : List (Nat × CpInfo)) (last : Nat) : List CpInfo := es.foldr (fun e r => gap e.1 (e.2 :: r)) (gap last [])
def pool (es : List (Nat × CpInfo)) (last : Nat) : Array CpInfo := ⟨poolList es last⟩
def fileOf (pool : Array CpInfo) (this : Nat) (attrs : Array Attribute := #[]) (ms : Array MethodInfo := #[]) (fl : Nat := 33) (sup : Nat := 0) (ifs : Array Nat := #[]) (fds : Array FieldInfo := #[]) : ClassFile where
  minorVersion := 0
  majorVersion := 65
  constantPool := pool
  accessFlags := fl
  thisClass := this
  superClass := sup
  interfaces := ifs
  fields := fds
  methods := ms
  attributes := attrs
def plain (name : String) (sup : Option ClassId) : Class where
  name := name
  kind := .ordinary
  loader := none
  accessFlags := 33
  super := sup
  interfaces := #[]
  cf := none
  fields := #[]
  methods := #[]
  instanceTypes := #[]
  staticTypes := #[]
  resolved := #[]
  callSites := []
  init := .initialized
  statics := none
  mirror := none

def pool0 : Array CpInfo := pool [(5, u "<init>"), (0, u "()V"), (1, .class_ 10), (1, u "java/lang/Object")] 113

def k0c0 : Code := { maxStack := 0, maxLocals := 1, code := object_method_1_code, exceptionTable := #[], attributes := #[] }
def k0m0 : Method := { name := "<init>", desc := "()V", sig := { parameters := [], returnType := none }, accessFlags := 1, code := some k0c0 }
/-- java/lang/Object -/
def k0 : Class := { plain "java/lang/Object" none with
  accessFlags := 33
  interfaces := #[]
  cf := some (fileOf pool0 8 #[] #[{ accessFlags := 1, nameIndex := 5, descriptorIndex := 6, attributes := #[] }] 33 0 #[] #[])
  fields := #[]
  methods := #[k0m0]
  instanceTypes := #[]
  staticTypes := #[]
  resolved := Array.replicate 124 none
  statics := none }

def pool1 : Array CpInfo := pool [(2, .class_ 4), (1, u "java/lang/Object"), (0, u "<init>"), (0, u "()V"), (0, .long 262143), (1, .integer 55296), (0, .integer 56320), (0, .integer 57344), (0, .class_ 13), (0, u "java/lang/String"), (0, .methodref 12 15), (0, .nameAndType 5 16), (0, u "([C)V"), (0, .integer 56319), (0, .integer 57343), (0, .methodref 20 21), (0, .class_ 22), (0, .nameAndType 23 24), (0, u "com/example/kunci/kunci/CodePointsComparePinLaw"), (0, u "pairAt"), (0, u "([CII)Z"), (0, .integer 65536), (0, .methodref 20 27), (0, .nameAndType 28 29), (0, u "cpAt"), (0, u "([CII)I"), (0, .methodref 20 31), (0, .nameAndType 32 29), (0, u "width"), (0, .methodref 20 34), (0, .nameAndType 35 36), (0, u "cmp"), (0, u "(II)I"), (0, .methodref 20 38), (0, .nameAndType 39 40), (0, u "mk"), (0, u "(JI)C"), (0, .methodref 20 42), (0, .nameAndType 43 44), (0, u "str"), (0, u "([CI)Ljava/lang/String;"), (0, .methodref 46 47), (0, .class_ 48), (0, .nameAndType 49 50), (0, u "com/example/kunci/kunci/CodePoints"), (0, u "compare"), (0, u "(Ljava/lang/String;Ljava/lang/String;)I"), (0, .methodref 20 52), (0, .nameAndType 53 54), (0, u "decompose"), (0, u "([CI[I)I"), (0, .methodref 20 56), (0, .nameAndType 57 58), (0, u "lex"), (0, u "([II[II)I"), (3, u "law"), (0, u "(JJI)Z")] 6

def k1m0 : Method := { name := "<init>", desc := "()V", sig := { parameters := [], returnType := none }, accessFlags := 2, code := none }
def k1c1 : Code := { maxStack := 4, maxLocals := 6, code := method_2_code, exceptionTable := #[], attributes := #[] }
def k1m1 : Method := { name := "mk", desc := "(JI)C", sig := { parameters := [.long, .int], returnType := some .char }, accessFlags := 10, code := some k1c1 }
def k1c2 : Code := { maxStack := 7, maxLocals := 2, code := method_3_code, exceptionTable := #[], attributes := #[] }
def k1m2 : Method := { name := "str", desc := "([CI)Ljava/lang/String;", sig := { parameters := [(.array .char), .int], returnType := some (.object "java/lang/String") }, accessFlags := 10, code := some k1c2 }
def k1c3 : Code := { maxStack := 3, maxLocals := 3, code := method_4_code, exceptionTable := #[], attributes := #[] }
def k1m3 : Method := { name := "pairAt", desc := "([CII)Z", sig := { parameters := [(.array .char), .int, .int], returnType := some .boolean }, accessFlags := 10, code := some k1c3 }
def k1c4 : Code := { maxStack := 4, maxLocals := 3, code := method_5_code, exceptionTable := #[], attributes := #[] }
def k1m4 : Method := { name := "cpAt", desc := "([CII)I", sig := { parameters := [(.array .char), .int, .int], returnType := some .int }, accessFlags := 10, code := some k1c4 }
def k1c5 : Code := { maxStack := 3, maxLocals := 3, code := method_6_code, exceptionTable := #[], attributes := #[] }
def k1m5 : Method := { name := "width", desc := "([CII)I", sig := { parameters := [(.array .char), .int, .int], returnType := some .int }, accessFlags := 10, code := some k1c5 }
def k1c6 : Code := { maxStack := 5, maxLocals := 5, code := method_7_code, exceptionTable := #[], attributes := #[] }
def k1m6 : Method := { name := "decompose", desc := "([CI[I)I", sig := { parameters := [(.array .char), .int, (.array .int)], returnType := some .int }, accessFlags := 10, code := some k1c6 }
def k1c7 : Code := { maxStack := 2, maxLocals := 2, code := method_8_code, exceptionTable := #[], attributes := #[] }
def k1m7 : Method := { name := "cmp", desc := "(II)I", sig := { parameters := [.int, .int], returnType := some .int }, accessFlags := 10, code := some k1c7 }
def k1c8 : Code := { maxStack := 3, maxLocals := 4, code := method_9_code, exceptionTable := #[], attributes := #[] }
def k1m8 : Method := { name := "lex", desc := "([II[II)I", sig := { parameters := [(.array .int), .int, (.array .int), .int], returnType := some .int }, accessFlags := 10, code := some k1c8 }
def k1c9 : Code := { maxStack := 5, maxLocals := 17, code := code, exceptionTable := #[], attributes := #[] }
def k1m9 : Method := { name := "law", desc := "(JJI)Z", sig := { parameters := [.long, .long, .int], returnType := some .boolean }, accessFlags := 9, code := some k1c9 }
/-- com/example/kunci/kunci/CodePointsComparePinLaw -/
def k1 : Class := { plain "com/example/kunci/kunci/CodePointsComparePinLaw" (some 0) with
  accessFlags := 49
  interfaces := #[]
  cf := some (fileOf pool1 20 #[] #[{ accessFlags := 2, nameIndex := 5, descriptorIndex := 6, attributes := #[] }, { accessFlags := 10, nameIndex := 39, descriptorIndex := 40, attributes := #[] }, { accessFlags := 10, nameIndex := 43, descriptorIndex := 44, attributes := #[] }, { accessFlags := 10, nameIndex := 23, descriptorIndex := 24, attributes := #[] }, { accessFlags := 10, nameIndex := 28, descriptorIndex := 29, attributes := #[] }, { accessFlags := 10, nameIndex := 32, descriptorIndex := 29, attributes := #[] }, { accessFlags := 10, nameIndex := 53, descriptorIndex := 54, attributes := #[] }, { accessFlags := 10, nameIndex := 35, descriptorIndex := 36, attributes := #[] }, { accessFlags := 10, nameIndex := 57, descriptorIndex := 58, attributes := #[] }, { accessFlags := 9, nameIndex := 62, descriptorIndex := 63, attributes := #[] }] 49 2 #[] #[])
  fields := #[]
  methods := #[k1m0, k1m1, k1m2, k1m3, k1m4, k1m5, k1m6, k1m7, k1m8, k1m9]
  instanceTypes := #[]
  staticTypes := #[]
  resolved := Array.replicate 70 none
  statics := none }

def pool2 : Array CpInfo := pool [(1, .class_ 2), (0, u "java/io/Serializable"), (0, .class_ 4), (0, u "java/lang/Object")] 2

/-- java/io/Serializable -/
def k2 : Class := { plain "java/io/Serializable" (some 0) with
  accessFlags := 1537
  interfaces := #[]
  cf := some (fileOf pool2 1 #[] #[] 1537 3 #[] #[])
  fields := #[]
  methods := #[]
  instanceTypes := #[]
  staticTypes := #[]
  resolved := Array.replicate 7 none
  statics := none }

def pool3 : Array CpInfo := pool [(1, .class_ 2), (0, u "java/lang/Comparable"), (0, .class_ 4), (0, u "java/lang/Object")] 7

/-- java/lang/Comparable -/
def k3 : Class := { plain "java/lang/Comparable" (some 0) with
  accessFlags := 1537
  interfaces := #[]
  cf := some (fileOf pool3 1 #[] #[] 1537 3 #[] #[])
  fields := #[]
  methods := #[]
  instanceTypes := #[]
  staticTypes := #[]
  resolved := Array.replicate 12 none
  statics := none }

def pool4 : Array CpInfo := pool [(2, .class_ 4), (1, u "java/lang/CharSequence"), (42, .class_ 48), (0, u "java/lang/CharSequence$1CodePointIterator"), (10, .class_ 60), (0, u "java/lang/CharSequence$1CharIterator"), (5, .class_ 67), (0, u "java/lang/Object")] 63

/-- java/lang/CharSequence -/
def k4 : Class := { plain "java/lang/CharSequence" (some 0) with
  accessFlags := 1537
  interfaces := #[]
  cf := some (fileOf pool4 2 #[.nestMembers #[47, 59]] #[] 1537 66 #[] #[])
  fields := #[]
  methods := #[]
  instanceTypes := #[]
  staticTypes := #[]
  resolved := Array.replicate 131 none
  statics := none }

def pool5 : Array CpInfo := pool [(1, .class_ 2), (0, u "java/lang/constant/Constable"), (0, .class_ 4), (0, u "java/lang/Object")] 6

/-- java/lang/constant/Constable -/
def k5 : Class := { plain "java/lang/constant/Constable" (some 0) with
  accessFlags := 1537
  interfaces := #[]
  cf := some (fileOf pool5 1 #[] #[] 1537 3 #[] #[])
  fields := #[]
  methods := #[]
  instanceTypes := #[]
  staticTypes := #[]
  resolved := Array.replicate 11 none
  statics := none }

def pool6 : Array CpInfo := pool [(1, .class_ 2), (0, u "java/lang/constant/ConstantDesc"), (0, .class_ 4), (0, u "java/lang/Object")] 32

/-- java/lang/constant/ConstantDesc -/
def k6 : Class := { plain "java/lang/constant/ConstantDesc" (some 0) with
  accessFlags := 1537
  interfaces := #[]
  cf := some (fileOf pool6 1 #[] #[] 1537 3 #[] #[])
  fields := #[]
  methods := #[]
  instanceTypes := #[]
  staticTypes := #[]
  resolved := Array.replicate 37 none
  statics := none }

def pool7 : Array CpInfo := pool [(1, .methodref 2 3), (0, .class_ 4), (0, .nameAndType 5 6), (0, u "java/lang/Object"), (0, u "<init>"), (0, u "()V"), (0, .string 8), (0, u ""), (0, .fieldref 10 11), (0, .class_ 12), (0, .nameAndType 13 14), (0, u "java/lang/String"), (0, u "value"), (0, u "[B"), (0, .fieldref 10 16), (0, .nameAndType 17 18), (0, u "coder"), (0, u "B"), (2, u "hash"), (0, u "I"), (2, u "hashIsZero"), (0, u "Z"), (0, .methodref 10 28), (0, .nameAndType 5 29), (0, u "([CIILjava/lang/Void;)V"), (8, .fieldref 10 39), (0, .nameAndType 40 26), (0, u "COMPACT_STRINGS"), (1, .class_ 44), (1, u "java/lang/StringUTF16"), (0, u "compress"), (1, .methodref 42 48), (0, .nameAndType 49 50), (0, u "coderFromArrayLen"), (0, u "([BI)B"), (46, u "([BII)I"), (44, u "()Z"), (34, .methodref 42 178), (0, .nameAndType 45 179), (0, u "([CII)[B"), (154, u "()I"), (0, .methodref 10 336), (0, .nameAndType 17 337), (0, u "()B"), (53, u "(II)V"), (100, .methodref 10 493), (0, .nameAndType 494 142), (0, u "isLatin1"), (4, .methodref 10 500), (0, .nameAndType 501 391), (0, u "checkIndex"), (0, .methodref 42 503), (0, .nameAndType 504 97), (0, u "codePointAt"), (2, u "length"), (67, .class_ 576), (0, u "java/lang/CharSequence"), (22, u "CASE_INSENSITIVE_ORDER"), (0, u "Ljava/util/Comparator;"), (164, u "(I)I"), (244, u "([C)V"), (42, .fieldref 1054 1055), (0, .class_ 1056), (0, .nameAndType 1057 1058), (0, u "jdk/internal/util/Preconditions"), (0, u "SIOOBE_FORMATTER"), (0, u "Ljava/util/function/BiFunction;"), (0, .methodref 1054 1060), (0, .nameAndType 501 1061), (0, u "(IILjava/util/function/BiFunction;)I"), (39, u "serialPersistentFields"), (0, u "[Ljava/io/ObjectStreamField;"), (0, .class_ 1104), (0, u "java/lang/String$CaseInsensitiveComparator"), (1, .class_ 1107), (0, u "java/io/Serializable"), (0, .class_ 1109), (0, u "java/lang/Comparable"), (0, .class_ 1111), (0, u "java/lang/constant/Constable"), (0, .class_ 1113), (0, u "java/lang/constant/ConstantDesc"), (2, u "serialVersionUID"), (0, u "J"), (3, u "REPL"), (0, u "C"), (2, u "LATIN1"), (1, u "UTF16")] 323

def k7m0 : Method := { name := "<init>", desc := "()V", sig := { parameters := [], returnType := none }, accessFlags := 1, code := none }
def k7c1 : Code := { maxStack := 5, maxLocals := 2, code := jdk_42_method_3_code, exceptionTable := #[], attributes := #[] }
def k7m1 : Method := { name := "<init>", desc := "([C)V", sig := { parameters := [(.array .char)], returnType := none }, accessFlags := 1, code := some k7c1 }
def k7c2 : Code := { maxStack := 2, maxLocals := 1, code := jdk_42_method_54_code, exceptionTable := #[], attributes := #[] }
def k7m2 : Method := { name := "length", desc := "()I", sig := { parameters := [], returnType := some .int }, accessFlags := 1, code := some k7c2 }
def k7c3 : Code := { maxStack := 3, maxLocals := 3, code := jdk_42_method_57_code, exceptionTable := #[], attributes := #[] }
def k7m3 : Method := { name := "codePointAt", desc := "(I)I", sig := { parameters := [.int], returnType := some .int }, accessFlags := 1, code := some k7c3 }
def k7c4 : Code := { maxStack := 4, maxLocals := 6, code := jdk_42_method_149_code, exceptionTable := #[], attributes := #[] }
def k7m4 : Method := { name := "<init>", desc := "([CIILjava/lang/Void;)V", sig := { parameters := [(.array .char), .int, .int, (.object "java/lang/Void")], returnType := none }, accessFlags := 2, code := some k7c4 }
def k7c5 : Code := { maxStack := 1, maxLocals := 1, code := jdk_42_method_152_code, exceptionTable := #[], attributes := #[] }
def k7m5 : Method := { name := "coder", desc := "()B", sig := { parameters := [], returnType := some .byte }, accessFlags := 0, code := some k7c5 }
def k7c6 : Code := { maxStack := 1, maxLocals := 1, code := jdk_42_method_154_code, exceptionTable := #[], attributes := #[] }
def k7m6 : Method := { name := "isLatin1", desc := "()Z", sig := { parameters := [], returnType := some .boolean }, accessFlags := 0, code := some k7c6 }
def k7c7 : Code := { maxStack := 3, maxLocals := 2, code := jdk_42_method_155_code, exceptionTable := #[], attributes := #[] }
def k7m7 : Method := { name := "checkIndex", desc := "(II)V", sig := { parameters := [.int, .int], returnType := none }, accessFlags := 8, code := some k7c7 }
/-- java/lang/String -/
def k7 : Class := { plain "java/lang/String" (some 0) with
  accessFlags := 49
  interfaces := #[2, 3, 4, 5, 6]
  cf := some (fileOf pool7 10 #[.nestMembers #[1103]] #[{ accessFlags := 1, nameIndex := 5, descriptorIndex := 6, attributes := #[] }, { accessFlags := 1, nameIndex := 5, descriptorIndex := 1010, attributes := #[] }, { accessFlags := 1, nameIndex := 507, descriptorIndex := 334, attributes := #[] }, { accessFlags := 1, nameIndex := 504, descriptorIndex := 765, attributes := #[] }, { accessFlags := 2, nameIndex := 5, descriptorIndex := 29, attributes := #[] }, { accessFlags := 0, nameIndex := 17, descriptorIndex := 337, attributes := #[] }, { accessFlags := 0, nameIndex := 494, descriptorIndex := 142, attributes := #[] }, { accessFlags := 8, nameIndex := 501, descriptorIndex := 391, attributes := #[] }] 49 2 #[1106, 1108, 575, 1110, 1112] #[{ accessFlags := 18, nameIndex := 13, descriptorIndex := 14, attributes := #[] }, { accessFlags := 18, nameIndex := 17, descriptorIndex := 18, attributes := #[] }, { accessFlags := 2, nameIndex := 21, descriptorIndex := 22, attributes := #[] }, { accessFlags := 2, nameIndex := 25, descriptorIndex := 26, attributes := #[] }, { accessFlags := 26, nameIndex := 1116, descriptorIndex := 1117, attributes := #[] }, { accessFlags := 24, nameIndex := 40, descriptorIndex := 26, attributes := #[] }, { accessFlags := 26, nameIndex := 1101, descriptorIndex := 1102, attributes := #[] }, { accessFlags := 26, nameIndex := 1121, descriptorIndex := 1122, attributes := #[] }, { accessFlags := 25, nameIndex := 599, descriptorIndex := 600, attributes := #[] }, { accessFlags := 24, nameIndex := 1125, descriptorIndex := 18, attributes := #[] }, { accessFlags := 24, nameIndex := 1127, descriptorIndex := 18, attributes := #[] }])
  fields := #[{ name := "value", type := (.array .byte), accessFlags := 18, slot := 0, constantValue := 0 }, { name := "coder", type := .byte, accessFlags := 18, slot := 1, constantValue := 0 }, { name := "hash", type := .int, accessFlags := 2, slot := 2, constantValue := 0 }, { name := "hashIsZero", type := .boolean, accessFlags := 2, slot := 3, constantValue := 0 }, { name := "serialVersionUID", type := .long, accessFlags := 26, slot := 0, constantValue := 0 }, { name := "COMPACT_STRINGS", type := .boolean, accessFlags := 24, slot := 1, constantValue := 0 }, { name := "serialPersistentFields", type := (.array (.object "java/io/ObjectStreamField")), accessFlags := 26, slot := 2, constantValue := 0 }, { name := "REPL", type := .char, accessFlags := 26, slot := 3, constantValue := 0 }, { name := "CASE_INSENSITIVE_ORDER", type := (.object "java/util/Comparator"), accessFlags := 25, slot := 4, constantValue := 0 }, { name := "LATIN1", type := .byte, accessFlags := 24, slot := 5, constantValue := 0 }, { name := "UTF16", type := .byte, accessFlags := 24, slot := 6, constantValue := 0 }]
  methods := #[k7m0, k7m1, k7m2, k7m3, k7m4, k7m5, k7m6, k7m7]
  instanceTypes := #[(.array .byte), .byte, .int, .boolean]
  staticTypes := #[.long, .boolean, (.array (.object "java/io/ObjectStreamField")), .char, (.object "java/util/Comparator"), .byte, .byte]
  resolved := Array.replicate 1451 none
  statics := some 0 }

def pool8 : Array CpInfo := pool [(2, .class_ 4), (1, u "java/lang/Object"), (0, u "<init>"), (0, u "()V"), (0, .methodref 8 9), (0, .class_ 10), (0, .nameAndType 11 12), (0, u "java/lang/String"), (0, u "length"), (0, u "()I"), (0, .methodref 8 14), (0, .nameAndType 15 16), (0, u "codePointAt"), (0, u "(I)I"), (0, .methodref 18 19), (0, .class_ 20), (0, .nameAndType 21 22), (0, u "java/lang/Integer"), (0, u "compare"), (0, u "(II)I"), (0, .methodref 24 25), (0, .class_ 26), (0, .nameAndType 27 16), (0, u "java/lang/Character"), (0, u "charCount"), (0, .class_ 29), (0, u "com/example/kunci/kunci/CodePoints"), (2, u "(Ljava/lang/String;Ljava/lang/String;)I")] 3

def k8m0 : Method := { name := "<init>", desc := "()V", sig := { parameters := [], returnType := none }, accessFlags := 2, code := none }
def k8c1 : Code := { maxStack := 2, maxLocals := 5, code := prog_1_method_2_code, exceptionTable := #[], attributes := #[] }
def k8m1 : Method := { name := "compare", desc := "(Ljava/lang/String;Ljava/lang/String;)I", sig := { parameters := [(.object "java/lang/String"), (.object "java/lang/String")], returnType := some .int }, accessFlags := 9, code := some k8c1 }
/-- com/example/kunci/kunci/CodePoints -/
def k8 : Class := { plain "com/example/kunci/kunci/CodePoints" (some 0) with
  accessFlags := 33
  interfaces := #[]
  cf := some (fileOf pool8 28 #[] #[{ accessFlags := 2, nameIndex := 5, descriptorIndex := 6, attributes := #[] }, { accessFlags := 9, nameIndex := 21, descriptorIndex := 32, attributes := #[] }] 33 2 #[] #[])
  fields := #[]
  methods := #[k8m0, k8m1]
  instanceTypes := #[]
  staticTypes := #[]
  resolved := Array.replicate 36 none
  statics := none }

def pool9 : Array CpInfo := pool [(2, .class_ 4), (1, u "java/lang/Object"), (0, u "<init>"), (0, u "()V"), (1, .class_ 10), (1, u "java/lang/Number"), (2, .class_ 14), (0, u "java/io/Serializable"), (0, u "serialVersionUID"), (0, u "J")] 20

def k9m0 : Method := { name := "<init>", desc := "()V", sig := { parameters := [], returnType := none }, accessFlags := 1, code := none }
/-- java/lang/Number -/
def k9 : Class := { plain "java/lang/Number" (some 0) with
  accessFlags := 1057
  interfaces := #[2]
  cf := some (fileOf pool9 8 #[] #[{ accessFlags := 1, nameIndex := 5, descriptorIndex := 6, attributes := #[] }] 1057 2 #[13] #[{ accessFlags := 26, nameIndex := 15, descriptorIndex := 16, attributes := #[] }])
  fields := #[{ name := "serialVersionUID", type := .long, accessFlags := 26, slot := 0, constantValue := 0 }]
  methods := #[k9m0]
  instanceTypes := #[]
  staticTypes := #[.long]
  resolved := Array.replicate 37 none
  statics := none }

def pool10 : Array CpInfo := pool [(1, .class_ 2), (0, u "java/lang/Integer"), (16, u "digits"), (0, u "[C"), (39, u "(II)I"), (24, u "DigitOnes"), (0, u "[B"), (2, u "DigitTens"), (99, .class_ 190), (0, u "java/lang/Integer$IntegerCache"), (3, u "I"), (8, .class_ 204), (0, u "java/lang/Number"), (2, u "value"), (53, u "compare"), (40, u "TYPE"), (0, u "Ljava/lang/Class;"), (0, .class_ 305), (0, u "java/lang/Comparable"), (0, .class_ 307), (0, u "java/lang/constant/Constable"), (0, .class_ 309), (0, u "java/lang/constant/ConstantDesc"), (0, u "MIN_VALUE"), (1, u "MAX_VALUE"), (3, u "SIZE"), (1, u "BYTES"), (1, u "serialVersionUID"), (0, u "J")] 131

def k10c0 : Code := { maxStack := 2, maxLocals := 2, code := jdk_33_method_40_code, exceptionTable := #[], attributes := #[] }
def k10m0 : Method := { name := "compare", desc := "(II)I", sig := { parameters := [.int, .int], returnType := some .int }, accessFlags := 9, code := some k10c0 }
/-- java/lang/Integer -/
def k10 : Class := { plain "java/lang/Integer" (some 9) with
  accessFlags := 49
  interfaces := #[3, 5, 6]
  cf := some (fileOf pool10 1 #[.nestMembers #[189]] #[{ accessFlags := 9, nameIndex := 261, descriptorIndex := 60, attributes := #[] }] 49 203 #[304, 306, 308] #[{ accessFlags := 25, nameIndex := 310, descriptorIndex := 194, attributes := #[] }, { accessFlags := 25, nameIndex := 312, descriptorIndex := 194, attributes := #[] }, { accessFlags := 25, nameIndex := 302, descriptorIndex := 303, attributes := #[] }, { accessFlags := 24, nameIndex := 19, descriptorIndex := 20, attributes := #[] }, { accessFlags := 24, nameIndex := 89, descriptorIndex := 86, attributes := #[] }, { accessFlags := 24, nameIndex := 85, descriptorIndex := 86, attributes := #[] }, { accessFlags := 18, nameIndex := 207, descriptorIndex := 194, attributes := #[] }, { accessFlags := 25, nameIndex := 316, descriptorIndex := 194, attributes := #[] }, { accessFlags := 25, nameIndex := 318, descriptorIndex := 194, attributes := #[] }, { accessFlags := 26, nameIndex := 320, descriptorIndex := 321, attributes := #[] }])
  fields := #[{ name := "MIN_VALUE", type := .int, accessFlags := 25, slot := 0, constantValue := 0 }, { name := "MAX_VALUE", type := .int, accessFlags := 25, slot := 1, constantValue := 0 }, { name := "TYPE", type := (.object "java/lang/Class"), accessFlags := 25, slot := 2, constantValue := 0 }, { name := "digits", type := (.array .char), accessFlags := 24, slot := 3, constantValue := 0 }, { name := "DigitTens", type := (.array .byte), accessFlags := 24, slot := 4, constantValue := 0 }, { name := "DigitOnes", type := (.array .byte), accessFlags := 24, slot := 5, constantValue := 0 }, { name := "value", type := .int, accessFlags := 18, slot := 0, constantValue := 0 }, { name := "SIZE", type := .int, accessFlags := 25, slot := 6, constantValue := 0 }, { name := "BYTES", type := .int, accessFlags := 25, slot := 7, constantValue := 0 }, { name := "serialVersionUID", type := .long, accessFlags := 26, slot := 8, constantValue := 0 }]
  methods := #[k10m0]
  instanceTypes := #[.int]
  staticTypes := #[.int, .int, (.object "java/lang/Class"), (.array .char), (.array .byte), (.array .byte), .int, .int, .long]
  resolved := Array.replicate 453 none
  statics := none }

def pool11 : Array CpInfo := pool [(6, .class_ 8), (1, u "java/lang/Object"), (0, u "<init>"), (0, u "()V"), (0, .methodref 12 13), (0, .class_ 14), (0, .nameAndType 15 16), (0, u "java/lang/StringUTF16"), (0, u "newBytesLength"), (0, u "(I)I"), (3, .integer 1073741823), (23, .fieldref 12 45), (0, .nameAndType 46 47), (0, u "$assertionsDisabled"), (0, u "Z"), (11, .fieldref 12 60), (0, .nameAndType 61 62), (0, u "HI_BYTE_SHIFT"), (0, u "I"), (0, .fieldref 12 64), (0, .nameAndType 65 62), (0, u "LO_BYTE_SHIFT"), (5, .methodref 12 72), (0, .nameAndType 73 74), (0, u "getChar"), (0, u "([BI)C"), (0, .methodref 76 77), (0, .class_ 78), (0, .nameAndType 79 80), (0, u "java/lang/Character"), (0, u "isHighSurrogate"), (0, u "(C)Z"), (0, .methodref 76 82), (0, .nameAndType 83 80), (0, u "isLowSurrogate"), (0, .methodref 76 85), (0, .nameAndType 86 87), (0, u "toCodePoint"), (0, u "(CC)I"), (0, .methodref 12 89), (0, .nameAndType 90 91), (0, u "codePointAt"), (0, u "([BIIZ)I"), (15, .methodref 12 108), (0, .nameAndType 109 110), (0, u "newBytesFor"), (0, u "(I)[B"), (0, .methodref 12 112), (0, .nameAndType 113 114), (0, u "putChar"), (0, u "([BII)V"), (0, .methodref 12 116), (0, .nameAndType 117 118), (0, u "compress"), (0, u "([CI[BII)I"), (0, .methodref 12 120), (0, .nameAndType 121 122), (0, u "toBytes"), (0, u "([CII)[B"), (127, u "([BII)I"), (10, u "coderFromArrayLen"), (0, u "([BI)B"), (106, .class_ 371), (1, u "java/lang/StringUTF16$LinesSpliterator"), (58, u "MAX_LENGTH"), (196, .class_ 628), (0, u "java/lang/StringUTF16$CodePointsSpliterator"), (0, .class_ 630), (0, u "java/lang/StringUTF16$CharsSpliterator")] 4

def k11m0 : Method := { name := "<init>", desc := "()V", sig := { parameters := [], returnType := none }, accessFlags := 0, code := none }
def k11c1 : Code := { maxStack := 1, maxLocals := 1, code := jdk_52_method_2_code, exceptionTable := #[], attributes := #[] }
def k11m1 : Method := { name := "newBytesFor", desc := "(I)[B", sig := { parameters := [.int], returnType := some (.array .byte) }, accessFlags := 9, code := some k11c1 }
def k11c2 : Code := { maxStack := 4, maxLocals := 1, code := jdk_52_method_3_code, exceptionTable := #[], attributes := #[] }
def k11m2 : Method := { name := "newBytesLength", desc := "(I)I", sig := { parameters := [.int], returnType := some .int }, accessFlags := 9, code := some k11c2 }
def k11c3 : Code := { maxStack := 4, maxLocals := 3, code := jdk_52_method_4_code, exceptionTable := #[], attributes := #[] }
def k11m3 : Method := { name := "putChar", desc := "([BII)V", sig := { parameters := [(.array .byte), .int, .int], returnType := none }, accessFlags := 8, code := some k11c3 }
def k11c4 : Code := { maxStack := 3, maxLocals := 2, code := jdk_52_method_5_code, exceptionTable := #[], attributes := #[] }
def k11m4 : Method := { name := "getChar", desc := "([BI)C", sig := { parameters := [(.array .byte), .int], returnType := some .char }, accessFlags := 8, code := some k11c4 }
def k11c5 : Code := { maxStack := 2, maxLocals := 6, code := jdk_52_method_7_code, exceptionTable := #[], attributes := #[] }
def k11m5 : Method := { name := "codePointAt", desc := "([BIIZ)I", sig := { parameters := [(.array .byte), .int, .int, .boolean], returnType := some .int }, accessFlags := 10, code := some k11c5 }
def k11c6 : Code := { maxStack := 4, maxLocals := 3, code := jdk_52_method_8_code, exceptionTable := #[], attributes := #[] }
def k11m6 : Method := { name := "codePointAt", desc := "([BII)I", sig := { parameters := [(.array .byte), .int, .int], returnType := some .int }, accessFlags := 9, code := some k11c6 }
def k11c7 : Code := { maxStack := 4, maxLocals := 5, code := jdk_52_method_14_code, exceptionTable := #[], attributes := #[] }
def k11m7 : Method := { name := "toBytes", desc := "([CII)[B", sig := { parameters := [(.array .char), .int, .int], returnType := some (.array .byte) }, accessFlags := 9, code := some k11c7 }
def k11c8 : Code := { maxStack := 2, maxLocals := 2, code := jdk_52_method_15_code, exceptionTable := #[], attributes := #[] }
def k11m8 : Method := { name := "coderFromArrayLen", desc := "([BI)B", sig := { parameters := [(.array .byte), .int], returnType := some .byte }, accessFlags := 8, code := some k11c8 }
def k11c9 : Code := { maxStack := 5, maxLocals := 6, code := jdk_52_method_16_code, exceptionTable := #[], attributes := #[] }
def k11m9 : Method := { name := "compress", desc := "([CII)[B", sig := { parameters := [(.array .char), .int, .int], returnType := some (.array .byte) }, accessFlags := 9, code := some k11c9 }
def k11c10 : Code := { maxStack := 3, maxLocals := 7, code := jdk_52_method_21_code, exceptionTable := #[], attributes := #[] }
def k11m10 : Method := { name := "compress", desc := "([CI[BII)I", sig := { parameters := [(.array .char), .int, (.array .byte), .int, .int], returnType := some .int }, accessFlags := 9, code := some k11c10 }
/-- java/lang/StringUTF16 -/
def k11 : Class := { plain "java/lang/StringUTF16" (some 0) with
  accessFlags := 48
  interfaces := #[]
  cf := some (fileOf pool11 12 #[.nestMembers #[627, 629, 369]] #[{ accessFlags := 0, nameIndex := 9, descriptorIndex := 10, attributes := #[] }, { accessFlags := 9, nameIndex := 109, descriptorIndex := 110, attributes := #[] }, { accessFlags := 9, nameIndex := 15, descriptorIndex := 16, attributes := #[] }, { accessFlags := 8, nameIndex := 113, descriptorIndex := 114, attributes := #[] }, { accessFlags := 8, nameIndex := 73, descriptorIndex := 74, attributes := #[] }, { accessFlags := 10, nameIndex := 90, descriptorIndex := 91, attributes := #[] }, { accessFlags := 9, nameIndex := 90, descriptorIndex := 250, attributes := #[] }, { accessFlags := 9, nameIndex := 121, descriptorIndex := 122, attributes := #[] }, { accessFlags := 8, nameIndex := 261, descriptorIndex := 262, attributes := #[] }, { accessFlags := 9, nameIndex := 117, descriptorIndex := 122, attributes := #[] }, { accessFlags := 9, nameIndex := 117, descriptorIndex := 118, attributes := #[] }] 48 6 #[] #[{ accessFlags := 26, nameIndex := 61, descriptorIndex := 62, attributes := #[] }, { accessFlags := 26, nameIndex := 65, descriptorIndex := 62, attributes := #[] }, { accessFlags := 24, nameIndex := 430, descriptorIndex := 62, attributes := #[] }, { accessFlags := 4120, nameIndex := 46, descriptorIndex := 47, attributes := #[] }])
  fields := #[{ name := "HI_BYTE_SHIFT", type := .int, accessFlags := 26, slot := 0, constantValue := 0 }, { name := "LO_BYTE_SHIFT", type := .int, accessFlags := 26, slot := 1, constantValue := 0 }, { name := "MAX_LENGTH", type := .int, accessFlags := 24, slot := 2, constantValue := 0 }, { name := "$assertionsDisabled", type := .boolean, accessFlags := 4120, slot := 3, constantValue := 0 }]
  methods := #[k11m0, k11m1, k11m2, k11m3, k11m4, k11m5, k11m6, k11m7, k11m8, k11m9, k11m10]
  instanceTypes := #[]
  staticTypes := #[.int, .int, .int, .boolean]
  resolved := Array.replicate 635 none
  statics := some 1 }

def pool12 : Array CpInfo := pool [(2, .class_ 4), (1, u "java/lang/Object"), (0, u "<init>"), (0, u "()V"), (17, .class_ 26), (1, u "jdk/internal/util/Preconditions"), (6, u "checkIndex"), (21, .class_ 56), (0, u "jdk/internal/util/Preconditions$4"), (57, .class_ 115), (0, u "jdk/internal/util/Preconditions$1"), (7, u "SIOOBE_FORMATTER"), (0, u "Ljava/util/function/BiFunction;"), (0, .class_ 126), (0, u "jdk/internal/util/Preconditions$2"), (3, u "AIOOBE_FORMATTER"), (0, .class_ 132), (0, u "jdk/internal/util/Preconditions$3"), (3, u "IOOBE_FORMATTER"), (41, u "(IILjava/util/function/BiFunction;)I")] 15

def k12m0 : Method := { name := "<init>", desc := "()V", sig := { parameters := [], returnType := none }, accessFlags := 1, code := none }
def k12c1 : Code := { maxStack := 3, maxLocals := 3, code := jdk_41_method_11_code, exceptionTable := #[], attributes := #[] }
def k12m1 : Method := { name := "checkIndex", desc := "(IILjava/util/function/BiFunction;)I", sig := { parameters := [.int, .int, (.object "java/util/function/BiFunction")], returnType := some .int }, accessFlags := 9, code := some k12c1 }
/-- jdk/internal/util/Preconditions -/
def k12 : Class := { plain "jdk/internal/util/Preconditions" (some 0) with
  accessFlags := 33
  interfaces := #[]
  cf := some (fileOf pool12 24 #[.nestMembers #[55, 131, 125, 114]] #[{ accessFlags := 1, nameIndex := 5, descriptorIndex := 6, attributes := #[] }, { accessFlags := 9, nameIndex := 33, descriptorIndex := 178, attributes := #[] }] 33 2 #[] #[{ accessFlags := 25, nameIndex := 123, descriptorIndex := 124, attributes := #[] }, { accessFlags := 25, nameIndex := 130, descriptorIndex := 124, attributes := #[] }, { accessFlags := 25, nameIndex := 136, descriptorIndex := 124, attributes := #[] }])
  fields := #[{ name := "SIOOBE_FORMATTER", type := (.object "java/util/function/BiFunction"), accessFlags := 25, slot := 0, constantValue := 0 }, { name := "AIOOBE_FORMATTER", type := (.object "java/util/function/BiFunction"), accessFlags := 25, slot := 1, constantValue := 0 }, { name := "IOOBE_FORMATTER", type := (.object "java/util/function/BiFunction"), accessFlags := 25, slot := 2, constantValue := 0 }]
  methods := #[k12m0, k12m1]
  instanceTypes := #[]
  staticTypes := #[(.object "java/util/function/BiFunction"), (.object "java/util/function/BiFunction"), (.object "java/util/function/BiFunction")]
  resolved := Array.replicate 194 none
  statics := some 2 }

def pool13 : Array CpInfo := pool [(1, .class_ 2), (0, u "java/lang/Character"), (18, u "value"), (0, u "C"), (19, .class_ 44), (1, u "java/lang/Object"), (3, .class_ 50), (1, u "java/lang/Character$CharacterCache"), (22, .integer 65536), (1, .integer 55296), (0, .integer 56320), (0, .integer 57344), (2, u "isHighSurrogate"), (0, u "(C)Z"), (2, u "isLowSurrogate"), (0, .integer 4238353408), (12, u "toCodePoint"), (0, u "(CC)I"), (74, u "(I)I"), (109, u "$assertionsDisabled"), (0, u "Z"), (21, .class_ 309), (1, u "java/lang/Character$UnicodeBlock"), (73, u "TYPE"), (0, u "Ljava/lang/Class;"), (0, .class_ 386), (0, u "java/io/Serializable"), (0, .class_ 388), (0, u "java/lang/Comparable"), (0, .class_ 390), (0, u "java/lang/constant/Constable"), (0, u "MIN_RADIX"), (0, u "I"), (2, u "MAX_RADIX"), (1, u "MIN_VALUE"), (1, u "MAX_VALUE"), (3, u "UNASSIGNED"), (0, u "B"), (0, u "UPPERCASE_LETTER"), (1, u "LOWERCASE_LETTER"), (0, u "TITLECASE_LETTER"), (1, u "MODIFIER_LETTER"), (1, u "OTHER_LETTER"), (1, u "NON_SPACING_MARK"), (1, u "ENCLOSING_MARK"), (1, u "COMBINING_SPACING_MARK"), (1, u "DECIMAL_DIGIT_NUMBER"), (1, u "LETTER_NUMBER"), (1, u "OTHER_NUMBER"), (1, u "SPACE_SEPARATOR"), (1, u "LINE_SEPARATOR"), (1, u "PARAGRAPH_SEPARATOR"), (1, u "CONTROL"), (1, u "FORMAT"), (1, u "PRIVATE_USE"), (1, u "SURROGATE"), (1, u "DASH_PUNCTUATION"), (1, u "START_PUNCTUATION"), (1, u "END_PUNCTUATION"), (1, u "CONNECTOR_PUNCTUATION"), (1, u "OTHER_PUNCTUATION"), (1, u "MATH_SYMBOL"), (1, u "CURRENCY_SYMBOL"), (1, u "MODIFIER_SYMBOL"), (1, u "OTHER_SYMBOL"), (1, u "INITIAL_QUOTE_PUNCTUATION"), (1, u "FINAL_QUOTE_PUNCTUATION"), (1, u "ERROR"), (1, u "DIRECTIONALITY_UNDEFINED"), (0, u "DIRECTIONALITY_LEFT_TO_RIGHT"), (0, u "DIRECTIONALITY_RIGHT_TO_LEFT"), (0, u "DIRECTIONALITY_RIGHT_TO_LEFT_ARABIC"), (0, u "DIRECTIONALITY_EUROPEAN_NUMBER"), (0, u "DIRECTIONALITY_EUROPEAN_NUMBER_SEPARATOR"), (0, u "DIRECTIONALITY_EUROPEAN_NUMBER_TERMINATOR"), (0, u "DIRECTIONALITY_ARABIC_NUMBER"), (0, u "DIRECTIONALITY_COMMON_NUMBER_SEPARATOR"), (0, u "DIRECTIONALITY_NONSPACING_MARK"), (0, u "DIRECTIONALITY_BOUNDARY_NEUTRAL"), (0, u "DIRECTIONALITY_PARAGRAPH_SEPARATOR"), (0, u "DIRECTIONALITY_SEGMENT_SEPARATOR"), (0, u "DIRECTIONALITY_WHITESPACE"), (0, u "DIRECTIONALITY_OTHER_NEUTRALS"), (0, u "DIRECTIONALITY_LEFT_TO_RIGHT_EMBEDDING"), (0, u "DIRECTIONALITY_LEFT_TO_RIGHT_OVERRIDE"), (0, u "DIRECTIONALITY_RIGHT_TO_LEFT_EMBEDDING"), (0, u "DIRECTIONALITY_RIGHT_TO_LEFT_OVERRIDE"), (1, u "DIRECTIONALITY_POP_DIRECTIONAL_FORMAT"), (0, u "DIRECTIONALITY_LEFT_TO_RIGHT_ISOLATE"), (0, u "DIRECTIONALITY_RIGHT_TO_LEFT_ISOLATE"), (0, u "DIRECTIONALITY_FIRST_STRONG_ISOLATE"), (0, u "DIRECTIONALITY_POP_DIRECTIONAL_ISOLATE"), (0, u "MIN_HIGH_SURROGATE"), (0, u "MAX_HIGH_SURROGATE"), (1, u "MIN_LOW_SURROGATE"), (0, u "MAX_LOW_SURROGATE"), (1, u "MIN_SURROGATE"), (0, u "MAX_SURROGATE"), (0, u "MIN_SUPPLEMENTARY_CODE_POINT"), (0, u "MIN_CODE_POINT"), (0, u "MAX_CODE_POINT"), (1, u "serialVersionUID"), (0, u "J"), (2, u "SIZE"), (0, u "BYTES"), (29, u "charCount"), (58, .class_ 596), (0, u "java/lang/Character$UnicodeScript"), (0, .class_ 598), (0, u "java/lang/Character$Subset")] 5

def k13c0 : Code := { maxStack := 2, maxLocals := 1, code := jdk_89_method_14_code, exceptionTable := #[], attributes := #[] }
def k13m0 : Method := { name := "isHighSurrogate", desc := "(C)Z", sig := { parameters := [.char], returnType := some .boolean }, accessFlags := 9, code := some k13c0 }
def k13c1 : Code := { maxStack := 2, maxLocals := 1, code := jdk_89_method_15_code, exceptionTable := #[], attributes := #[] }
def k13m1 : Method := { name := "isLowSurrogate", desc := "(C)Z", sig := { parameters := [.char], returnType := some .boolean }, accessFlags := 9, code := some k13c1 }
def k13c2 : Code := { maxStack := 2, maxLocals := 1, code := jdk_89_method_18_code, exceptionTable := #[], attributes := #[] }
def k13m2 : Method := { name := "charCount", desc := "(I)I", sig := { parameters := [.int], returnType := some .int }, accessFlags := 9, code := some k13c2 }
def k13c3 : Code := { maxStack := 2, maxLocals := 2, code := jdk_89_method_19_code, exceptionTable := #[], attributes := #[] }
def k13m3 : Method := { name := "toCodePoint", desc := "(CC)I", sig := { parameters := [.char, .char], returnType := some .int }, accessFlags := 9, code := some k13c3 }
/-- java/lang/Character -/
def k13 : Class := { plain "java/lang/Character" (some 0) with
  accessFlags := 49
  interfaces := #[2, 3, 5]
  cf := some (fileOf pool13 1 #[.nestMembers #[48, 595, 307, 597]] #[{ accessFlags := 9, nameIndex := 80, descriptorIndex := 81, attributes := #[] }, { accessFlags := 9, nameIndex := 84, descriptorIndex := 81, attributes := #[] }, { accessFlags := 9, nameIndex := 536, descriptorIndex := 174, attributes := #[] }, { accessFlags := 9, nameIndex := 98, descriptorIndex := 99, attributes := #[] }] 49 42 #[385, 387, 389] #[{ accessFlags := 25, nameIndex := 391, descriptorIndex := 392, attributes := #[] }, { accessFlags := 25, nameIndex := 395, descriptorIndex := 392, attributes := #[] }, { accessFlags := 25, nameIndex := 397, descriptorIndex := 22, attributes := #[] }, { accessFlags := 25, nameIndex := 399, descriptorIndex := 22, attributes := #[] }, { accessFlags := 25, nameIndex := 383, descriptorIndex := 384, attributes := #[] }, { accessFlags := 25, nameIndex := 403, descriptorIndex := 404, attributes := #[] }, { accessFlags := 25, nameIndex := 405, descriptorIndex := 404, attributes := #[] }, { accessFlags := 25, nameIndex := 407, descriptorIndex := 404, attributes := #[] }, { accessFlags := 25, nameIndex := 408, descriptorIndex := 404, attributes := #[] }, { accessFlags := 25, nameIndex := 410, descriptorIndex := 404, attributes := #[] }, { accessFlags := 25, nameIndex := 412, descriptorIndex := 404, attributes := #[] }, { accessFlags := 25, nameIndex := 414, descriptorIndex := 404, attributes := #[] }, { accessFlags := 25, nameIndex := 416, descriptorIndex := 404, attributes := #[] }, { accessFlags := 25, nameIndex := 418, descriptorIndex := 404, attributes := #[] }, { accessFlags := 25, nameIndex := 420, descriptorIndex := 404, attributes := #[] }, { accessFlags := 25, nameIndex := 422, descriptorIndex := 404, attributes := #[] }, { accessFlags := 25, nameIndex := 424, descriptorIndex := 404, attributes := #[] }, { accessFlags := 25, nameIndex := 426, descriptorIndex := 404, attributes := #[] }, { accessFlags := 25, nameIndex := 428, descriptorIndex := 404, attributes := #[] }, { accessFlags := 25, nameIndex := 430, descriptorIndex := 404, attributes := #[] }, { accessFlags := 25, nameIndex := 432, descriptorIndex := 404, attributes := #[] }, { accessFlags := 25, nameIndex := 434, descriptorIndex := 404, attributes := #[] }, { accessFlags := 25, nameIndex := 436, descriptorIndex := 404, attributes := #[] }, { accessFlags := 25, nameIndex := 438, descriptorIndex := 404, attributes := #[] }, { accessFlags := 25, nameIndex := 440, descriptorIndex := 404, attributes := #[] }, { accessFlags := 25, nameIndex := 442, descriptorIndex := 404, attributes := #[] }, { accessFlags := 25, nameIndex := 444, descriptorIndex := 404, attributes := #[] }, { accessFlags := 25, nameIndex := 446, descriptorIndex := 404, attributes := #[] }, { accessFlags := 25, nameIndex := 448, descriptorIndex := 404, attributes := #[] }, { accessFlags := 25, nameIndex := 450, descriptorIndex := 404, attributes := #[] }, { accessFlags := 25, nameIndex := 452, descriptorIndex := 404, attributes := #[] }, { accessFlags := 25, nameIndex := 454, descriptorIndex := 404, attributes := #[] }, { accessFlags := 25, nameIndex := 456, descriptorIndex := 404, attributes := #[] }, { accessFlags := 25, nameIndex := 458, descriptorIndex := 404, attributes := #[] }, { accessFlags := 25, nameIndex := 460, descriptorIndex := 404, attributes := #[] }, { accessFlags := 24, nameIndex := 462, descriptorIndex := 392, attributes := #[] }, { accessFlags := 25, nameIndex := 464, descriptorIndex := 404, attributes := #[] }, { accessFlags := 25, nameIndex := 465, descriptorIndex := 404, attributes := #[] }, { accessFlags := 25, nameIndex := 466, descriptorIndex := 404, attributes := #[] }, { accessFlags := 25, nameIndex := 467, descriptorIndex := 404, attributes := #[] }, { accessFlags := 25, nameIndex := 468, descriptorIndex := 404, attributes := #[] }, { accessFlags := 25, nameIndex := 469, descriptorIndex := 404, attributes := #[] }, { accessFlags := 25, nameIndex := 470, descriptorIndex := 404, attributes := #[] }, { accessFlags := 25, nameIndex := 471, descriptorIndex := 404, attributes := #[] }, { accessFlags := 25, nameIndex := 472, descriptorIndex := 404, attributes := #[] }, { accessFlags := 25, nameIndex := 473, descriptorIndex := 404, attributes := #[] }, { accessFlags := 25, nameIndex := 474, descriptorIndex := 404, attributes := #[] }, { accessFlags := 25, nameIndex := 475, descriptorIndex := 404, attributes := #[] }, { accessFlags := 25, nameIndex := 476, descriptorIndex := 404, attributes := #[] }, { accessFlags := 25, nameIndex := 477, descriptorIndex := 404, attributes := #[] }, { accessFlags := 25, nameIndex := 478, descriptorIndex := 404, attributes := #[] }, { accessFlags := 25, nameIndex := 479, descriptorIndex := 404, attributes := #[] }, { accessFlags := 25, nameIndex := 480, descriptorIndex := 404, attributes := #[] }, { accessFlags := 25, nameIndex := 481, descriptorIndex := 404, attributes := #[] }, { accessFlags := 25, nameIndex := 482, descriptorIndex := 404, attributes := #[] }, { accessFlags := 25, nameIndex := 484, descriptorIndex := 404, attributes := #[] }, { accessFlags := 25, nameIndex := 485, descriptorIndex := 404, attributes := #[] }, { accessFlags := 25, nameIndex := 486, descriptorIndex := 404, attributes := #[] }, { accessFlags := 25, nameIndex := 487, descriptorIndex := 404, attributes := #[] }, { accessFlags := 25, nameIndex := 488, descriptorIndex := 404, attributes := #[] }, { accessFlags := 25, nameIndex := 489, descriptorIndex := 22, attributes := #[] }, { accessFlags := 25, nameIndex := 490, descriptorIndex := 22, attributes := #[] }, { accessFlags := 25, nameIndex := 492, descriptorIndex := 22, attributes := #[] }, { accessFlags := 25, nameIndex := 493, descriptorIndex := 22, attributes := #[] }, { accessFlags := 25, nameIndex := 495, descriptorIndex := 22, attributes := #[] }, { accessFlags := 25, nameIndex := 496, descriptorIndex := 22, attributes := #[] }, { accessFlags := 25, nameIndex := 497, descriptorIndex := 392, attributes := #[] }, { accessFlags := 25, nameIndex := 498, descriptorIndex := 392, attributes := #[] }, { accessFlags := 25, nameIndex := 499, descriptorIndex := 392, attributes := #[] }, { accessFlags := 18, nameIndex := 21, descriptorIndex := 22, attributes := #[] }, { accessFlags := 26, nameIndex := 501, descriptorIndex := 502, attributes := #[] }, { accessFlags := 25, nameIndex := 505, descriptorIndex := 392, attributes := #[] }, { accessFlags := 25, nameIndex := 506, descriptorIndex := 392, attributes := #[] }, { accessFlags := 4120, nameIndex := 284, descriptorIndex := 285, attributes := #[] }])
  fields := #[{ name := "MIN_RADIX", type := .int, accessFlags := 25, slot := 0, constantValue := 0 }, { name := "MAX_RADIX", type := .int, accessFlags := 25, slot := 1, constantValue := 0 }, { name := "MIN_VALUE", type := .char, accessFlags := 25, slot := 2, constantValue := 0 }, { name := "MAX_VALUE", type := .char, accessFlags := 25, slot := 3, constantValue := 0 }, { name := "TYPE", type := (.object "java/lang/Class"), accessFlags := 25, slot := 4, constantValue := 0 }, { name := "UNASSIGNED", type := .byte, accessFlags := 25, slot := 5, constantValue := 0 }, { name := "UPPERCASE_LETTER", type := .byte, accessFlags := 25, slot := 6, constantValue := 0 }, { name := "LOWERCASE_LETTER", type := .byte, accessFlags := 25, slot := 7, constantValue := 0 }, { name := "TITLECASE_LETTER", type := .byte, accessFlags := 25, slot := 8, constantValue := 0 }, { name := "MODIFIER_LETTER", type := .byte, accessFlags := 25, slot := 9, constantValue := 0 }, { name := "OTHER_LETTER", type := .byte, accessFlags := 25, slot := 10, constantValue := 0 }, { name := "NON_SPACING_MARK", type := .byte, accessFlags := 25, slot := 11, constantValue := 0 }, { name := "ENCLOSING_MARK", type := .byte, accessFlags := 25, slot := 12, constantValue := 0 }, { name := "COMBINING_SPACING_MARK", type := .byte, accessFlags := 25, slot := 13, constantValue := 0 }, { name := "DECIMAL_DIGIT_NUMBER", type := .byte, accessFlags := 25, slot := 14, constantValue := 0 }, { name := "LETTER_NUMBER", type := .byte, accessFlags := 25, slot := 15, constantValue := 0 }, { name := "OTHER_NUMBER", type := .byte, accessFlags := 25, slot := 16, constantValue := 0 }, { name := "SPACE_SEPARATOR", type := .byte, accessFlags := 25, slot := 17, constantValue := 0 }, { name := "LINE_SEPARATOR", type := .byte, accessFlags := 25, slot := 18, constantValue := 0 }, { name := "PARAGRAPH_SEPARATOR", type := .byte, accessFlags := 25, slot := 19, constantValue := 0 }, { name := "CONTROL", type := .byte, accessFlags := 25, slot := 20, constantValue := 0 }, { name := "FORMAT", type := .byte, accessFlags := 25, slot := 21, constantValue := 0 }, { name := "PRIVATE_USE", type := .byte, accessFlags := 25, slot := 22, constantValue := 0 }, { name := "SURROGATE", type := .byte, accessFlags := 25, slot := 23, constantValue := 0 }, { name := "DASH_PUNCTUATION", type := .byte, accessFlags := 25, slot := 24, constantValue := 0 }, { name := "START_PUNCTUATION", type := .byte, accessFlags := 25, slot := 25, constantValue := 0 }, { name := "END_PUNCTUATION", type := .byte, accessFlags := 25, slot := 26, constantValue := 0 }, { name := "CONNECTOR_PUNCTUATION", type := .byte, accessFlags := 25, slot := 27, constantValue := 0 }, { name := "OTHER_PUNCTUATION", type := .byte, accessFlags := 25, slot := 28, constantValue := 0 }, { name := "MATH_SYMBOL", type := .byte, accessFlags := 25, slot := 29, constantValue := 0 }, { name := "CURRENCY_SYMBOL", type := .byte, accessFlags := 25, slot := 30, constantValue := 0 }, { name := "MODIFIER_SYMBOL", type := .byte, accessFlags := 25, slot := 31, constantValue := 0 }, { name := "OTHER_SYMBOL", type := .byte, accessFlags := 25, slot := 32, constantValue := 0 }, { name := "INITIAL_QUOTE_PUNCTUATION", type := .byte, accessFlags := 25, slot := 33, constantValue := 0 }, { name := "FINAL_QUOTE_PUNCTUATION", type := .byte, accessFlags := 25, slot := 34, constantValue := 0 }, { name := "ERROR", type := .int, accessFlags := 24, slot := 35, constantValue := 0 }, { name := "DIRECTIONALITY_UNDEFINED", type := .byte, accessFlags := 25, slot := 36, constantValue := 0 }, { name := "DIRECTIONALITY_LEFT_TO_RIGHT", type := .byte, accessFlags := 25, slot := 37, constantValue := 0 }, { name := "DIRECTIONALITY_RIGHT_TO_LEFT", type := .byte, accessFlags := 25, slot := 38, constantValue := 0 }, { name := "DIRECTIONALITY_RIGHT_TO_LEFT_ARABIC", type := .byte, accessFlags := 25, slot := 39, constantValue := 0 }, { name := "DIRECTIONALITY_EUROPEAN_NUMBER", type := .byte, accessFlags := 25, slot := 40, constantValue := 0 }, { name := "DIRECTIONALITY_EUROPEAN_NUMBER_SEPARATOR", type := .byte, accessFlags := 25, slot := 41, constantValue := 0 }, { name := "DIRECTIONALITY_EUROPEAN_NUMBER_TERMINATOR", type := .byte, accessFlags := 25, slot := 42, constantValue := 0 }, { name := "DIRECTIONALITY_ARABIC_NUMBER", type := .byte, accessFlags := 25, slot := 43, constantValue := 0 }, { name := "DIRECTIONALITY_COMMON_NUMBER_SEPARATOR", type := .byte, accessFlags := 25, slot := 44, constantValue := 0 }, { name := "DIRECTIONALITY_NONSPACING_MARK", type := .byte, accessFlags := 25, slot := 45, constantValue := 0 }, { name := "DIRECTIONALITY_BOUNDARY_NEUTRAL", type := .byte, accessFlags := 25, slot := 46, constantValue := 0 }, { name := "DIRECTIONALITY_PARAGRAPH_SEPARATOR", type := .byte, accessFlags := 25, slot := 47, constantValue := 0 }, { name := "DIRECTIONALITY_SEGMENT_SEPARATOR", type := .byte, accessFlags := 25, slot := 48, constantValue := 0 }, { name := "DIRECTIONALITY_WHITESPACE", type := .byte, accessFlags := 25, slot := 49, constantValue := 0 }, { name := "DIRECTIONALITY_OTHER_NEUTRALS", type := .byte, accessFlags := 25, slot := 50, constantValue := 0 }, { name := "DIRECTIONALITY_LEFT_TO_RIGHT_EMBEDDING", type := .byte, accessFlags := 25, slot := 51, constantValue := 0 }, { name := "DIRECTIONALITY_LEFT_TO_RIGHT_OVERRIDE", type := .byte, accessFlags := 25, slot := 52, constantValue := 0 }, { name := "DIRECTIONALITY_RIGHT_TO_LEFT_EMBEDDING", type := .byte, accessFlags := 25, slot := 53, constantValue := 0 }, { name := "DIRECTIONALITY_RIGHT_TO_LEFT_OVERRIDE", type := .byte, accessFlags := 25, slot := 54, constantValue := 0 }, { name := "DIRECTIONALITY_POP_DIRECTIONAL_FORMAT", type := .byte, accessFlags := 25, slot := 55, constantValue := 0 }, { name := "DIRECTIONALITY_LEFT_TO_RIGHT_ISOLATE", type := .byte, accessFlags := 25, slot := 56, constantValue := 0 }, { name := "DIRECTIONALITY_RIGHT_TO_LEFT_ISOLATE", type := .byte, accessFlags := 25, slot := 57, constantValue := 0 }, { name := "DIRECTIONALITY_FIRST_STRONG_ISOLATE", type := .byte, accessFlags := 25, slot := 58, constantValue := 0 }, { name := "DIRECTIONALITY_POP_DIRECTIONAL_ISOLATE", type := .byte, accessFlags := 25, slot := 59, constantValue := 0 }, { name := "MIN_HIGH_SURROGATE", type := .char, accessFlags := 25, slot := 60, constantValue := 0 }, { name := "MAX_HIGH_SURROGATE", type := .char, accessFlags := 25, slot := 61, constantValue := 0 }, { name := "MIN_LOW_SURROGATE", type := .char, accessFlags := 25, slot := 62, constantValue := 0 }, { name := "MAX_LOW_SURROGATE", type := .char, accessFlags := 25, slot := 63, constantValue := 0 }, { name := "MIN_SURROGATE", type := .char, accessFlags := 25, slot := 64, constantValue := 0 }, { name := "MAX_SURROGATE", type := .char, accessFlags := 25, slot := 65, constantValue := 0 }, { name := "MIN_SUPPLEMENTARY_CODE_POINT", type := .int, accessFlags := 25, slot := 66, constantValue := 0 }, { name := "MIN_CODE_POINT", type := .int, accessFlags := 25, slot := 67, constantValue := 0 }, { name := "MAX_CODE_POINT", type := .int, accessFlags := 25, slot := 68, constantValue := 0 }, { name := "value", type := .char, accessFlags := 18, slot := 0, constantValue := 0 }, { name := "serialVersionUID", type := .long, accessFlags := 26, slot := 69, constantValue := 0 }, { name := "SIZE", type := .int, accessFlags := 25, slot := 70, constantValue := 0 }, { name := "BYTES", type := .int, accessFlags := 25, slot := 71, constantValue := 0 }, { name := "$assertionsDisabled", type := .boolean, accessFlags := 4120, slot := 72, constantValue := 0 }]
  methods := #[k13m0, k13m1, k13m2, k13m3]
  instanceTypes := #[.char]
  staticTypes := #[.int, .int, .char, .char, (.object "java/lang/Class"), .byte, .byte, .byte, .byte, .byte, .byte, .byte, .byte, .byte, .byte, .byte, .byte, .byte, .byte, .byte, .byte, .byte, .byte, .byte, .byte, .byte, .byte, .byte, .byte, .byte, .byte, .byte, .byte, .byte, .byte, .int, .byte, .byte, .byte, .byte, .byte, .byte, .byte, .byte, .byte, .byte, .byte, .byte, .byte, .byte, .byte, .byte, .byte, .byte, .byte, .byte, .byte, .byte, .byte, .byte, .char, .char, .char, .char, .char, .char, .int, .int, .int, .long, .int, .int, .boolean]
  resolved := Array.replicate 604 none
  statics := none }

def pool14 : Array CpInfo := pool [(4, .class_ 6), (1, u "java/lang/Object"), (0, u "<init>"), (0, u "()V"), (5, .class_ 16), (1, u "java/lang/StringLatin1"), (104, u "$assertionsDisabled"), (0, u "Z"), (98, .class_ 223), (1, u "java/lang/StringLatin1$LinesSpliterator"), (166, .class_ 391), (0, u "java/lang/StringLatin1$CharsSpliterator")] 3

def k14m0 : Method := { name := "<init>", desc := "()V", sig := { parameters := [], returnType := none }, accessFlags := 0, code := none }
/-- java/lang/StringLatin1 -/
def k14 : Class := { plain "java/lang/StringLatin1" (some 0) with
  accessFlags := 48
  interfaces := #[]
  cf := some (fileOf pool14 14 #[.nestMembers #[390, 221]] #[{ accessFlags := 0, nameIndex := 7, descriptorIndex := 8, attributes := #[] }] 48 4 #[] #[{ accessFlags := 4120, nameIndex := 121, descriptorIndex := 122, attributes := #[] }])
  fields := #[{ name := "$assertionsDisabled", type := .boolean, accessFlags := 4120, slot := 0, constantValue := 0 }]
  methods := #[k14m0]
  instanceTypes := #[]
  staticTypes := #[.boolean]
  resolved := Array.replicate 395 none
  statics := none }

def pool15 : Array CpInfo := pool [(9, u "<init>"), (6, .class_ 18), (1, u "java/lang/Object"), (0, u "()V"), (1, .class_ 23), (1, u "jdk/internal/util/ArraysSupport"), (0, u "LOG2_ARRAY_LONG_INDEX_SCALE"), (0, u "I"), (2, u "U"), (0, u "Ljdk/internal/misc/Unsafe;"), (8, u "BIG_ENDIAN"), (0, u "Z"), (8, u "LOG2_BYTE_BIT_SIZE"), (4, u "LOG2_ARRAY_INT_INDEX_SCALE"), (54, u "JLA"), (0, u "Ljdk/internal/access/JavaLangAccess;"), (11, u "LOG2_ARRAY_BOOLEAN_INDEX_SCALE"), (9, u "LOG2_ARRAY_BYTE_INDEX_SCALE"), (5, u "LOG2_ARRAY_CHAR_INDEX_SCALE"), (5, u "LOG2_ARRAY_SHORT_INDEX_SCALE"), (18, u "LOG2_ARRAY_FLOAT_INDEX_SCALE"), (24, u "LOG2_ARRAY_DOUBLE_INDEX_SCALE"), (89, u "T_BOOLEAN"), (2, u "T_CHAR"), (1, u "T_FLOAT"), (1, u "T_DOUBLE"), (1, u "T_BYTE"), (1, u "T_SHORT"), (1, u "T_INT"), (1, u "T_LONG"), (1, u "SOFT_MAX_ARRAY_LENGTH")] 83

def k15m0 : Method := { name := "<init>", desc := "()V", sig := { parameters := [], returnType := none }, accessFlags := 2, code := none }
/-- jdk/internal/util/ArraysSupport -/
def k15 : Class := { plain "jdk/internal/util/ArraysSupport" (some 0) with
  accessFlags := 33
  interfaces := #[]
  cf := some (fileOf pool15 21 #[] #[{ accessFlags := 2, nameIndex := 9, descriptorIndex := 19, attributes := #[] }] 33 16 #[] #[{ accessFlags := 24, nameIndex := 28, descriptorIndex := 29, attributes := #[] }, { accessFlags := 26, nameIndex := 38, descriptorIndex := 39, attributes := #[] }, { accessFlags := 25, nameIndex := 121, descriptorIndex := 25, attributes := #[] }, { accessFlags := 25, nameIndex := 131, descriptorIndex := 25, attributes := #[] }, { accessFlags := 25, nameIndex := 137, descriptorIndex := 25, attributes := #[] }, { accessFlags := 25, nameIndex := 143, descriptorIndex := 25, attributes := #[] }, { accessFlags := 25, nameIndex := 53, descriptorIndex := 25, attributes := #[] }, { accessFlags := 25, nameIndex := 24, descriptorIndex := 25, attributes := #[] }, { accessFlags := 25, nameIndex := 162, descriptorIndex := 25, attributes := #[] }, { accessFlags := 25, nameIndex := 187, descriptorIndex := 25, attributes := #[] }, { accessFlags := 26, nameIndex := 48, descriptorIndex := 25, attributes := #[] }, { accessFlags := 25, nameIndex := 277, descriptorIndex := 25, attributes := #[] }, { accessFlags := 25, nameIndex := 280, descriptorIndex := 25, attributes := #[] }, { accessFlags := 25, nameIndex := 282, descriptorIndex := 25, attributes := #[] }, { accessFlags := 25, nameIndex := 284, descriptorIndex := 25, attributes := #[] }, { accessFlags := 25, nameIndex := 286, descriptorIndex := 25, attributes := #[] }, { accessFlags := 25, nameIndex := 288, descriptorIndex := 25, attributes := #[] }, { accessFlags := 25, nameIndex := 290, descriptorIndex := 25, attributes := #[] }, { accessFlags := 25, nameIndex := 292, descriptorIndex := 25, attributes := #[] }, { accessFlags := 26, nameIndex := 108, descriptorIndex := 109, attributes := #[] }, { accessFlags := 25, nameIndex := 294, descriptorIndex := 25, attributes := #[] }])
  fields := #[{ name := "U", type := (.object "jdk/internal/misc/Unsafe"), accessFlags := 24, slot := 0, constantValue := 0 }, { name := "BIG_ENDIAN", type := .boolean, accessFlags := 26, slot := 1, constantValue := 0 }, { name := "LOG2_ARRAY_BOOLEAN_INDEX_SCALE", type := .int, accessFlags := 25, slot := 2, constantValue := 0 }, { name := "LOG2_ARRAY_BYTE_INDEX_SCALE", type := .int, accessFlags := 25, slot := 3, constantValue := 0 }, { name := "LOG2_ARRAY_CHAR_INDEX_SCALE", type := .int, accessFlags := 25, slot := 4, constantValue := 0 }, { name := "LOG2_ARRAY_SHORT_INDEX_SCALE", type := .int, accessFlags := 25, slot := 5, constantValue := 0 }, { name := "LOG2_ARRAY_INT_INDEX_SCALE", type := .int, accessFlags := 25, slot := 6, constantValue := 0 }, { name := "LOG2_ARRAY_LONG_INDEX_SCALE", type := .int, accessFlags := 25, slot := 7, constantValue := 0 }, { name := "LOG2_ARRAY_FLOAT_INDEX_SCALE", type := .int, accessFlags := 25, slot := 8, constantValue := 0 }, { name := "LOG2_ARRAY_DOUBLE_INDEX_SCALE", type := .int, accessFlags := 25, slot := 9, constantValue := 0 }, { name := "LOG2_BYTE_BIT_SIZE", type := .int, accessFlags := 26, slot := 10, constantValue := 0 }, { name := "T_BOOLEAN", type := .int, accessFlags := 25, slot := 11, constantValue := 0 }, { name := "T_CHAR", type := .int, accessFlags := 25, slot := 12, constantValue := 0 }, { name := "T_FLOAT", type := .int, accessFlags := 25, slot := 13, constantValue := 0 }, { name := "T_DOUBLE", type := .int, accessFlags := 25, slot := 14, constantValue := 0 }, { name := "T_BYTE", type := .int, accessFlags := 25, slot := 15, constantValue := 0 }, { name := "T_SHORT", type := .int, accessFlags := 25, slot := 16, constantValue := 0 }, { name := "T_INT", type := .int, accessFlags := 25, slot := 17, constantValue := 0 }, { name := "T_LONG", type := .int, accessFlags := 25, slot := 18, constantValue := 0 }, { name := "JLA", type := (.object "jdk/internal/access/JavaLangAccess"), accessFlags := 26, slot := 19, constantValue := 0 }, { name := "SOFT_MAX_ARRAY_LENGTH", type := .int, accessFlags := 25, slot := 20, constantValue := 0 }]
  methods := #[k15m0]
  instanceTypes := #[]
  staticTypes := #[(.object "jdk/internal/misc/Unsafe"), .boolean, .int, .int, .int, .int, .int, .int, .int, .int, .int, .int, .int, .int, .int, .int, .int, .int, .int, (.object "jdk/internal/access/JavaLangAccess"), .int]
  resolved := Array.replicate 378 none
  statics := none }

def pool16 : Array CpInfo := pool [(1, u "java/lang/Cloneable"), (0, .class_ 1), (0, u "java/lang/Object"), (0, .class_ 3)] 3

/-- java/lang/Cloneable -/
def k16 : Class := { plain "java/lang/Cloneable" (some 0) with
  accessFlags := 1537
  interfaces := #[]
  cf := some (fileOf pool16 2 #[] #[] 1537 4 #[] #[])
  fields := #[]
  methods := #[]
  instanceTypes := #[]
  staticTypes := #[]
  resolved := Array.replicate 8 none
  statics := none }

/-- the primitive byte -/
def k17 : Class := { plain "byte" none with kind := .primitive 'B', accessFlags := 0x411 }
/-- [B -/
def k18 : Class := { plain "[B" (some 0) with kind := .array 17 .byte, interfaces := #[16, 2], accessFlags := 1041 }

/-- the primitive char -/
def k19 : Class := { plain "char" none with kind := .primitive 'C', accessFlags := 0x411 }
/-- [C -/
def k20 : Class := { plain "[C" (some 0) with kind := .array 19 .char, interfaces := #[16, 2], accessFlags := 1041 }

/-- the primitive int -/
def k21 : Class := { plain "int" none with kind := .primitive 'I', accessFlags := 0x411 }
/-- [I -/
def k22 : Class := { plain "[I" (some 0) with kind := .array 21 .int, interfaces := #[16, 2], accessFlags := 1041 }

def heap : Heap := #[{ cls := 7, slots := #[.long 0, .int 1, .null, .int 0, .null, .int 0, .int 0], vm := .statics 7 },
  { cls := 11, slots := #[.int 0, .int 8, .int 0, .int 1], vm := .statics 11 },
  { cls := 12, slots := #[.null, .null, .null], vm := .statics 12 }]
def classes : Array Class := #[k0, k1, k2, k3, k4, k5, k6, k7, k8, k9, k10, k11, k12, k13, k14, k15, k16, k17, k18, k19, k20, k21, k22]
def interned : List (Array UInt16 × Addr) := []
def slotsUsed : Nat := 14
def theMethod : MethodId := ⟨1, 9⟩
def args0 : Array Value := #[.long 5, .long 7, .int 9]
def aboutOver (below : List Frame) : State where
  vm := { classes := classes, interned := interned.toArray }
  heap := heap
  slotsUsed := slotsUsed
  threads := #[{ frames := .invoking theMethod args0 :: below }]
def below0 : List Frame := [.native { method := ⟨0, 0⟩, args := #[] }]
def about1 : State := aboutOver below0
def p0 : Program := .bare "" "" ""
def e0 : Env := launch0.env 0 0 0
theorem w_frames : about1.frames = Frame.invoking theMethod args0 :: below0 := rfl
set_option maxRecDepth 65536 in
theorem w_args : argsFit about1.vm theMethod args0 = true := by decide +kernel
set_option maxRecDepth 65536 in
theorem w_heap : heapFits about1 = true := by decide +kernel
set_option maxRecDepth 65536 in
theorem w_runnable : about1.curStatus? = some .runnable := by decide +kernel
set_option maxRecDepth 65536 in
theorem w_alone : about1.alone = true := by decide +kernel
set_option maxRecDepth 65536 in
theorem w_named : about1.methodNamed? x = some theMethod := by decide +kernel
set_option maxRecDepth 65536 in
theorem w_hears : about1.hears theMethod below0 = true := by decide +kernel
set_option maxRecDepth 65536 in
theorem w_ripe : about1.ripe theMethod args0 below0 = true := by decide +kernel
theorem w_running : about1.status = .running := rfl
set_option maxRecDepth 65536 in
theorem w_room : about1.hasRoom e0.platform room_1 = true :=
  launch0.hasRoom_least _ room_1 (by decide +kernel) (by decide +kernel) (by decide +kernel) (by decide +kernel) (by decide +kernel) (by decide +kernel)
theorem allAtoms_all (ts : List Jvm.Cond) (a : Array Jvm.Value) (st : Jvm.State) : (allAtoms ts).before a st = ts.all (fun c => c.before a st) := by
  induction ts with
  | nil => rfl
  | cons c t ih =>
    show (Jvm.Cond.and c (allAtoms t)).before a st = _
    rw [Jvm.Cond.before_and, ih, List.all_cons]
def words1 : List Jvm.Cond := Jvm.Cond.code x code maxLocals ret :: tables_1
/-- a 'code' word, met by the world's own term for the bytes: nothing is compared byte by byte -/
theorem code_word {y : MethodName} {bytes : ByteArray} {mx : Nat} {rt : Option FieldType} {a : Array Value} {s : State} {m : MethodId} {meth : Method} {c : Code} (h1 : s.methodNamed? y = some m) (h2 : s.vm.method? m = some meth) (h3 : meth.code = some c) (h4 : c.code = bytes)
    (h5 : (c.maxLocals == mx && c.exceptionTable.isEmpty && decide (c.maxStack ≤ mostOperands) && decide (meth.sig.returnType = rt) && !meth.locks && decide (parseMethodDescriptor y.desc = some meth.sig)) = true) : (Jvm.Cond.code y bytes mx rt).before a s = true := by
  simp only [Bool.and_eq_true, beq_iff_eq, Bool.not_eq_true', decide_eq_true_eq] at h5
  obtain ⟨⟨⟨⟨⟨g1, g2⟩, g3⟩, g4⟩, g5⟩, g6⟩ := h5
  simp [Cond.before, Cond.holds, Cond.value, h1, h2, h3, h4, g1, g2, g3, g4, g5, g6]
def isCode : Jvm.Cond → Bool
  | .code _ _ _ _ => true
  | _ => false
theorem all_split {L : List Jvm.Cond} {P : Jvm.Cond → Bool} (h1 : L.all (fun c => isCode c || P c) = true) (h2 : ∀ c ∈ L.filter isCode, P c = true) : L.all P = true := by
  refine List.all_eq_true.mpr fun c hc => ?_
  have h := List.all_eq_true.mp h1 c hc
  rcases Bool.eq_false_or_eq_true (isCode c) with hi | hi
  · exact h2 c (List.mem_filter.mpr ⟨hc, hi⟩)
  · simpa [hi] using h
set_option maxRecDepth 65536 in
theorem w_c0 : (Jvm.Cond.code x code maxLocals ret).before args0 about1 = true := code_word (m := ⟨1, 9⟩) (meth := k1m9) (c := k1c9) (by decide +kernel) rfl rfl rfl (by decide +kernel)
set_option maxRecDepth 65536 in
theorem w_c1 : (Jvm.Cond.code ({ cls := "com/example/kunci/kunci/CodePointsComparePinLaw", name := "mk", desc := "(JI)C" } : Jvm.MethodName) method_2_code (6 : Nat) (Option.some Jvm.ClassFile.FieldType.char)).before args0 about1 = true := code_word (m := ⟨1, 1⟩) (meth := k1m1) (c := k1c1) (by decide +kernel) rfl rfl rfl (by decide +kernel)
set_option maxRecDepth 65536 in
theorem w_c2 : (Jvm.Cond.code ({ cls := "com/example/kunci/kunci/CodePointsComparePinLaw", name := "str", desc := "([CI)Ljava/lang/String;" } : Jvm.MethodName) method_3_code (2 : Nat) (Option.some (Jvm.ClassFile.FieldType.object "java/lang/String"))).before args0 about1 = true := code_word (m := ⟨1, 2⟩) (meth := k1m2) (c := k1c2) (by decide +kernel) rfl rfl rfl (by decide +kernel)
set_option maxRecDepth 65536 in
theorem w_c3 : (Jvm.Cond.code ({ cls := "java/lang/String", name := "<init>", desc := "([C)V" } : Jvm.MethodName) jdk_42_method_3_code (2 : Nat) (Option.none : Option Jvm.ClassFile.FieldType)).before args0 about1 = true := code_word (m := ⟨7, 1⟩) (meth := k7m1) (c := k7c1) (by decide +kernel) rfl rfl rfl (by decide +kernel)
set_option maxRecDepth 65536 in
theorem w_c4 : (Jvm.Cond.code ({ cls := "java/lang/String", name := "<init>", desc := "([CIILjava/lang/Void;)V" } : Jvm.MethodName) jdk_42_method_149_code (6 : Nat) (Option.none : Option Jvm.ClassFile.FieldType)).before args0 about1 = true := code_word (m := ⟨7, 4⟩) (meth := k7m4) (c := k7c4) (by decide +kernel) rfl rfl rfl (by decide +kernel)
set_option maxRecDepth 65536 in
theorem w_c5 : (Jvm.Cond.code ({ cls := "java/lang/Object", name := "<init>", desc := "()V" } : Jvm.MethodName) object_method_1_code (1 : Nat) (Option.none : Option Jvm.ClassFile.FieldType)).before args0 about1 = true := code_word (m := ⟨0, 0⟩) (meth := k0m0) (c := k0c0) (by decide +kernel) rfl rfl rfl (by decide +kernel)
set_option maxRecDepth 65536 in
theorem w_c6 : (Jvm.Cond.code ({ cls := "com/example/kunci/kunci/CodePoints", name := "compare", desc := "(Ljava/lang/String;Ljava/lang/String;)I" } : Jvm.MethodName) prog_1_method_2_code (5 : Nat) (Option.some Jvm.ClassFile.FieldType.int)).before args0 about1 = true := code_word (m := ⟨8, 1⟩) (meth := k8m1) (c := k8c1) (by decide +kernel) rfl rfl rfl (by decide +kernel)
set_option maxRecDepth 65536 in
theorem w_c7 : (Jvm.Cond.code ({ cls := "java/lang/String", name := "length", desc := "()I" } : Jvm.MethodName) jdk_42_method_54_code (1 : Nat) (Option.some Jvm.ClassFile.FieldType.int)).before args0 about1 = true := code_word (m := ⟨7, 2⟩) (meth := k7m2) (c := k7c2) (by decide +kernel) rfl rfl rfl (by decide +kernel)
set_option maxRecDepth 65536 in
theorem w_c8 : (Jvm.Cond.code ({ cls := "java/lang/String", name := "coder", desc := "()B" } : Jvm.MethodName) jdk_42_method_152_code (1 : Nat) (Option.some Jvm.ClassFile.FieldType.byte)).before args0 about1 = true := code_word (m := ⟨7, 5⟩) (meth := k7m5) (c := k7c5) (by decide +kernel) rfl rfl rfl (by decide +kernel)
set_option maxRecDepth 65536 in
theorem w_c9 : (Jvm.Cond.code ({ cls := "java/lang/Integer", name := "compare", desc := "(II)I" } : Jvm.MethodName) jdk_33_method_40_code (2 : Nat) (Option.some Jvm.ClassFile.FieldType.int)).before args0 about1 = true := code_word (m := ⟨10, 0⟩) (meth := k10m0) (c := k10c0) (by decide +kernel) rfl rfl rfl (by decide +kernel)
set_option maxRecDepth 65536 in
theorem w_c10 : (Jvm.Cond.code ({ cls := "com/example/kunci/kunci/CodePointsComparePinLaw", name := "decompose", desc := "([CI[I)I" } : Jvm.MethodName) method_7_code (5 : Nat) (Option.some Jvm.ClassFile.FieldType.int)).before args0 about1 = true := code_word (m := ⟨1, 6⟩) (meth := k1m6) (c := k1c6) (by decide +kernel) rfl rfl rfl (by decide +kernel)
set_option maxRecDepth 65536 in
theorem w_c11 : (Jvm.Cond.code ({ cls := "com/example/kunci/kunci/CodePointsComparePinLaw", name := "lex", desc := "([II[II)I" } : Jvm.MethodName) method_9_code (4 : Nat) (Option.some Jvm.ClassFile.FieldType.int)).before args0 about1 = true := code_word (m := ⟨1, 8⟩) (meth := k1m8) (c := k1c8) (by decide +kernel) rfl rfl rfl (by decide +kernel)
set_option maxRecDepth 65536 in
theorem w_c12 : (Jvm.Cond.code ({ cls := "com/example/kunci/kunci/CodePointsComparePinLaw", name := "cmp", desc := "(II)I" } : Jvm.MethodName) method_8_code (2 : Nat) (Option.some Jvm.ClassFile.FieldType.int)).before args0 about1 = true := code_word (m := ⟨1, 7⟩) (meth := k1m7) (c := k1c7) (by decide +kernel) rfl rfl rfl (by decide +kernel)
set_option maxRecDepth 65536 in
theorem w_c13 : (Jvm.Cond.code ({ cls := "java/lang/StringUTF16", name := "compress", desc := "([CII)[B" } : Jvm.MethodName) jdk_52_method_16_code (6 : Nat) (Option.some (Jvm.ClassFile.FieldType.array Jvm.ClassFile.FieldType.byte))).before args0 about1 = true := code_word (m := ⟨11, 9⟩) (meth := k11m9) (c := k11c9) (by decide +kernel) rfl rfl rfl (by decide +kernel)
set_option maxRecDepth 65536 in
theorem w_c14 : (Jvm.Cond.code ({ cls := "java/lang/StringUTF16", name := "compress", desc := "([CI[BII)I" } : Jvm.MethodName) jdk_52_method_21_code (7 : Nat) (Option.some Jvm.ClassFile.FieldType.int)).before args0 about1 = true := code_word (m := ⟨11, 10⟩) (meth := k11m10) (c := k11c10) (by decide +kernel) rfl rfl rfl (by decide +kernel)
set_option maxRecDepth 65536 in
theorem w_c15 : (Jvm.Cond.code ({ cls := "java/lang/StringUTF16", name := "coderFromArrayLen", desc := "([BI)B" } : Jvm.MethodName) jdk_52_method_15_code (2 : Nat) (Option.some Jvm.ClassFile.FieldType.byte)).before args0 about1 = true := code_word (m := ⟨11, 8⟩) (meth := k11m8) (c := k11c8) (by decide +kernel) rfl rfl rfl (by decide +kernel)
set_option maxRecDepth 65536 in
theorem w_c16 : (Jvm.Cond.code ({ cls := "java/lang/StringUTF16", name := "toBytes", desc := "([CII)[B" } : Jvm.MethodName) jdk_52_method_14_code (5 : Nat) (Option.some (Jvm.ClassFile.FieldType.array Jvm.ClassFile.FieldType.byte))).before args0 about1 = true := code_word (m := ⟨11, 7⟩) (meth := k11m7) (c := k11c7) (by decide +kernel) rfl rfl rfl (by decide +kernel)
set_option maxRecDepth 65536 in
theorem w_c17 : (Jvm.Cond.code ({ cls := "java/lang/StringUTF16", name := "newBytesFor", desc := "(I)[B" } : Jvm.MethodName) jdk_52_method_2_code (1 : Nat) (Option.some (Jvm.ClassFile.FieldType.array Jvm.ClassFile.FieldType.byte))).before args0 about1 = true := code_word (m := ⟨11, 1⟩) (meth := k11m1) (c := k11c1) (by decide +kernel) rfl rfl rfl (by decide +kernel)
set_option maxRecDepth 65536 in
theorem w_c18 : (Jvm.Cond.code ({ cls := "java/lang/StringUTF16", name := "newBytesLength", desc := "(I)I" } : Jvm.MethodName) jdk_52_method_3_code (1 : Nat) (Option.some Jvm.ClassFile.FieldType.int)).before args0 about1 = true := code_word (m := ⟨11, 2⟩) (meth := k11m2) (c := k11c2) (by decide +kernel) rfl rfl rfl (by decide +kernel)
set_option maxRecDepth 65536 in
theorem w_c19 : (Jvm.Cond.code ({ cls := "java/lang/StringUTF16", name := "putChar", desc := "([BII)V" } : Jvm.MethodName) jdk_52_method_4_code (3 : Nat) (Option.none : Option Jvm.ClassFile.FieldType)).before args0 about1 = true := code_word (m := ⟨11, 3⟩) (meth := k11m3) (c := k11c3) (by decide +kernel) rfl rfl rfl (by decide +kernel)
set_option maxRecDepth 65536 in
theorem w_c20 : (Jvm.Cond.code ({ cls := "java/lang/StringUTF16", name := "getChar", desc := "([BI)C" } : Jvm.MethodName) jdk_52_method_5_code (2 : Nat) (Option.some Jvm.ClassFile.FieldType.char)).before args0 about1 = true := code_word (m := ⟨11, 4⟩) (meth := k11m4) (c := k11c4) (by decide +kernel) rfl rfl rfl (by decide +kernel)
set_option maxRecDepth 65536 in
theorem w_c21 : (Jvm.Cond.code ({ cls := "java/lang/String", name := "codePointAt", desc := "(I)I" } : Jvm.MethodName) jdk_42_method_57_code (3 : Nat) (Option.some Jvm.ClassFile.FieldType.int)).before args0 about1 = true := code_word (m := ⟨7, 3⟩) (meth := k7m3) (c := k7c3) (by decide +kernel) rfl rfl rfl (by decide +kernel)
set_option maxRecDepth 65536 in
theorem w_c22 : (Jvm.Cond.code ({ cls := "java/lang/String", name := "isLatin1", desc := "()Z" } : Jvm.MethodName) jdk_42_method_154_code (1 : Nat) (Option.some Jvm.ClassFile.FieldType.boolean)).before args0 about1 = true := code_word (m := ⟨7, 6⟩) (meth := k7m6) (c := k7c6) (by decide +kernel) rfl rfl rfl (by decide +kernel)
set_option maxRecDepth 65536 in
theorem w_c23 : (Jvm.Cond.code ({ cls := "java/lang/String", name := "checkIndex", desc := "(II)V" } : Jvm.MethodName) jdk_42_method_155_code (2 : Nat) (Option.none : Option Jvm.ClassFile.FieldType)).before args0 about1 = true := code_word (m := ⟨7, 7⟩) (meth := k7m7) (c := k7c7) (by decide +kernel) rfl rfl rfl (by decide +kernel)
set_option maxRecDepth 65536 in
theorem w_c24 : (Jvm.Cond.code ({ cls := "jdk/internal/util/Preconditions", name := "checkIndex", desc := "(IILjava/util/function/BiFunction;)I" } : Jvm.MethodName) jdk_41_method_11_code (3 : Nat) (Option.some Jvm.ClassFile.FieldType.int)).before args0 about1 = true := code_word (m := ⟨12, 1⟩) (meth := k12m1) (c := k12c1) (by decide +kernel) rfl rfl rfl (by decide +kernel)
set_option maxRecDepth 65536 in
theorem w_c25 : (Jvm.Cond.code ({ cls := "java/lang/StringUTF16", name := "codePointAt", desc := "([BII)I" } : Jvm.MethodName) jdk_52_method_8_code (3 : Nat) (Option.some Jvm.ClassFile.FieldType.int)).before args0 about1 = true := code_word (m := ⟨11, 6⟩) (meth := k11m6) (c := k11c6) (by decide +kernel) rfl rfl rfl (by decide +kernel)
set_option maxRecDepth 65536 in
theorem w_c26 : (Jvm.Cond.code ({ cls := "java/lang/StringUTF16", name := "codePointAt", desc := "([BIIZ)I" } : Jvm.MethodName) jdk_52_method_7_code (6 : Nat) (Option.some Jvm.ClassFile.FieldType.int)).before args0 about1 = true := code_word (m := ⟨11, 5⟩) (meth := k11m5) (c := k11c5) (by decide +kernel) rfl rfl rfl (by decide +kernel)
set_option maxRecDepth 65536 in
theorem w_c27 : (Jvm.Cond.code ({ cls := "java/lang/Character", name := "isHighSurrogate", desc := "(C)Z" } : Jvm.MethodName) jdk_89_method_14_code (1 : Nat) (Option.some Jvm.ClassFile.FieldType.boolean)).before args0 about1 = true := code_word (m := ⟨13, 0⟩) (meth := k13m0) (c := k13c0) (by decide +kernel) rfl rfl rfl (by decide +kernel)
set_option maxRecDepth 65536 in
theorem w_c28 : (Jvm.Cond.code ({ cls := "com/example/kunci/kunci/CodePointsComparePinLaw", name := "cpAt", desc := "([CII)I" } : Jvm.MethodName) method_5_code (3 : Nat) (Option.some Jvm.ClassFile.FieldType.int)).before args0 about1 = true := code_word (m := ⟨1, 4⟩) (meth := k1m4) (c := k1c4) (by decide +kernel) rfl rfl rfl (by decide +kernel)
set_option maxRecDepth 65536 in
theorem w_c29 : (Jvm.Cond.code ({ cls := "com/example/kunci/kunci/CodePointsComparePinLaw", name := "pairAt", desc := "([CII)Z" } : Jvm.MethodName) method_4_code (3 : Nat) (Option.some Jvm.ClassFile.FieldType.boolean)).before args0 about1 = true := code_word (m := ⟨1, 3⟩) (meth := k1m3) (c := k1c3) (by decide +kernel) rfl rfl rfl (by decide +kernel)
set_option maxRecDepth 65536 in
theorem w_c30 : (Jvm.Cond.code ({ cls := "com/example/kunci/kunci/CodePointsComparePinLaw", name := "width", desc := "([CII)I" } : Jvm.MethodName) method_6_code (3 : Nat) (Option.some Jvm.ClassFile.FieldType.int)).before args0 about1 = true := code_word (m := ⟨1, 5⟩) (meth := k1m5) (c := k1c5) (by decide +kernel) rfl rfl rfl (by decide +kernel)
set_option maxRecDepth 65536 in
theorem w_c31 : (Jvm.Cond.code ({ cls := "java/lang/Character", name := "charCount", desc := "(I)I" } : Jvm.MethodName) jdk_89_method_18_code (1 : Nat) (Option.some Jvm.ClassFile.FieldType.int)).before args0 about1 = true := code_word (m := ⟨13, 2⟩) (meth := k13m2) (c := k13c2) (by decide +kernel) rfl rfl rfl (by decide +kernel)
set_option maxRecDepth 65536 in
theorem w_c32 : (Jvm.Cond.code ({ cls := "java/lang/Character", name := "isLowSurrogate", desc := "(C)Z" } : Jvm.MethodName) jdk_89_method_15_code (1 : Nat) (Option.some Jvm.ClassFile.FieldType.boolean)).before args0 about1 = true := code_word (m := ⟨13, 1⟩) (meth := k13m1) (c := k13c1) (by decide +kernel) rfl rfl rfl (by decide +kernel)
set_option maxRecDepth 65536 in
theorem w_c33 : (Jvm.Cond.code ({ cls := "java/lang/Character", name := "toCodePoint", desc := "(CC)I" } : Jvm.MethodName) jdk_89_method_19_code (2 : Nat) (Option.some Jvm.ClassFile.FieldType.int)).before args0 about1 = true := code_word (m := ⟨13, 3⟩) (meth := k13m3) (c := k13c3) (by decide +kernel) rfl rfl rfl (by decide +kernel)
def codes1 : List Jvm.Cond := [Jvm.Cond.code x code maxLocals ret, Jvm.Cond.code ({ cls := "com/example/kunci/kunci/CodePointsComparePinLaw", name := "mk", desc := "(JI)C" } : Jvm.MethodName) method_2_code (6 : Nat) (Option.some Jvm.ClassFile.FieldType.char), Jvm.Cond.code ({ cls := "com/example/kunci/kunci/CodePointsComparePinLaw", name := "str", desc := "([CI)Ljava/lang/String;" } : Jvm.MethodName) method_3_code (2 : Nat) (Option.some (Jvm.ClassFile.FieldType.object "java/lang/String")), Jvm.Cond.code ({ cls := "java/lang/String", name := "<init>", desc := "([C)V" } : Jvm.MethodName) jdk_42_method_3_code (2 : Nat) (Option.none : Option Jvm.ClassFile.FieldType), Jvm.Cond.code ({ cls := "java/lang/String", name := "<init>", desc := "([CIILjava/lang/Void;)V" } : Jvm.MethodName) jdk_42_method_149_code (6 : Nat) (Option.none : Option Jvm.ClassFile.FieldType), Jvm.Cond.code ({ cls := "java/lang/Object", name := "<init>", desc := "()V" } : Jvm.MethodName) object_method_1_code (1 : Nat) (Option.none : Option Jvm.ClassFile.FieldType), Jvm.Cond.code ({ cls := "com/example/kunci/kunci/CodePoints", name := "compare", desc := "(Ljava/lang/String;Ljava/lang/String;)I" } : Jvm.MethodName) prog_1_method_2_code (5 : Nat) (Option.some Jvm.ClassFile.FieldType.int), Jvm.Cond.code ({ cls := "java/lang/String", name := "length", desc := "()I" } : Jvm.MethodName) jdk_42_method_54_code (1 : Nat) (Option.some Jvm.ClassFile.FieldType.int), Jvm.Cond.code ({ cls := "java/lang/String", name := "coder", desc := "()B" } : Jvm.MethodName) jdk_42_method_152_code (1 : Nat) (Option.some Jvm.ClassFile.FieldType.byte), Jvm.Cond.code ({ cls := "java/lang/Integer", name := "compare", desc := "(II)I" } : Jvm.MethodName) jdk_33_method_40_code (2 : Nat) (Option.some Jvm.ClassFile.FieldType.int), Jvm.Cond.code ({ cls := "com/example/kunci/kunci/CodePointsComparePinLaw", name := "decompose", desc := "([CI[I)I" } : Jvm.MethodName) method_7_code (5 : Nat) (Option.some Jvm.ClassFile.FieldType.int), Jvm.Cond.code ({ cls := "com/example/kunci/kunci/CodePointsComparePinLaw", name := "lex", desc := "([II[II)I" } : Jvm.MethodName) method_9_code (4 : Nat) (Option.some Jvm.ClassFile.FieldType.int), Jvm.Cond.code ({ cls := "com/example/kunci/kunci/CodePointsComparePinLaw", name := "cmp", desc := "(II)I" } : Jvm.MethodName) method_8_code (2 : Nat) (Option.some Jvm.ClassFile.FieldType.int), Jvm.Cond.code ({ cls := "java/lang/StringUTF16", name := "compress", desc := "([CII)[B" } : Jvm.MethodName) jdk_52_method_16_code (6 : Nat) (Option.some (Jvm.ClassFile.FieldType.array Jvm.ClassFile.FieldType.byte)), Jvm.Cond.code ({ cls := "java/lang/StringUTF16", name := "compress", desc := "([CI[BII)I" } : Jvm.MethodName) jdk_52_method_21_code (7 : Nat) (Option.some Jvm.ClassFile.FieldType.int), Jvm.Cond.code ({ cls := "java/lang/StringUTF16", name := "coderFromArrayLen", desc := "([BI)B" } : Jvm.MethodName) jdk_52_method_15_code (2 : Nat) (Option.some Jvm.ClassFile.FieldType.byte), Jvm.Cond.code ({ cls := "java/lang/StringUTF16", name := "toBytes", desc := "([CII)[B" } : Jvm.MethodName) jdk_52_method_14_code (5 : Nat) (Option.some (Jvm.ClassFile.FieldType.array Jvm.ClassFile.FieldType.byte)), Jvm.Cond.code ({ cls := "java/lang/StringUTF16", name := "newBytesFor", desc := "(I)[B" } : Jvm.MethodName) jdk_52_method_2_code (1 : Nat) (Option.some (Jvm.ClassFile.FieldType.array Jvm.ClassFile.FieldType.byte)), Jvm.Cond.code ({ cls := "java/lang/StringUTF16", name := "newBytesLength", desc := "(I)I" } : Jvm.MethodName) jdk_52_method_3_code (1 : Nat) (Option.some Jvm.ClassFile.FieldType.int), Jvm.Cond.code ({ cls := "java/lang/StringUTF16", name := "putChar", desc := "([BII)V" } : Jvm.MethodName) jdk_52_method_4_code (3 : Nat) (Option.none : Option Jvm.ClassFile.FieldType), Jvm.Cond.code ({ cls := "java/lang/StringUTF16", name := "getChar", desc := "([BI)C" } : Jvm.MethodName) jdk_52_method_5_code (2 : Nat) (Option.some Jvm.ClassFile.FieldType.char), Jvm.Cond.code ({ cls := "java/lang/String", name := "codePointAt", desc := "(I)I" } : Jvm.MethodName) jdk_42_method_57_code (3 : Nat) (Option.some Jvm.ClassFile.FieldType.int), Jvm.Cond.code ({ cls := "java/lang/String", name := "isLatin1", desc := "()Z" } : Jvm.MethodName) jdk_42_method_154_code (1 : Nat) (Option.some Jvm.ClassFile.FieldType.boolean), Jvm.Cond.code ({ cls := "java/lang/String", name := "checkIndex", desc := "(II)V" } : Jvm.MethodName) jdk_42_method_155_code (2 : Nat) (Option.none : Option Jvm.ClassFile.FieldType), Jvm.Cond.code ({ cls := "jdk/internal/util/Preconditions", name := "checkIndex", desc := "(IILjava/util/function/BiFunction;)I" } : Jvm.MethodName) jdk_41_method_11_code (3 : Nat) (Option.some Jvm.ClassFile.FieldType.int), Jvm.Cond.code ({ cls := "java/lang/StringUTF16", name := "codePointAt", desc := "([BII)I" } : Jvm.MethodName) jdk_52_method_8_code (3 : Nat) (Option.some Jvm.ClassFile.FieldType.int), Jvm.Cond.code ({ cls := "java/lang/StringUTF16", name := "codePointAt", desc := "([BIIZ)I" } : Jvm.MethodName) jdk_52_method_7_code (6 : Nat) (Option.some Jvm.ClassFile.FieldType.int), Jvm.Cond.code ({ cls := "java/lang/Character", name := "isHighSurrogate", desc := "(C)Z" } : Jvm.MethodName) jdk_89_method_14_code (1 : Nat) (Option.some Jvm.ClassFile.FieldType.boolean), Jvm.Cond.code ({ cls := "com/example/kunci/kunci/CodePointsComparePinLaw", name := "cpAt", desc := "([CII)I" } : Jvm.MethodName) method_5_code (3 : Nat) (Option.some Jvm.ClassFile.FieldType.int), Jvm.Cond.code ({ cls := "com/example/kunci/kunci/CodePointsComparePinLaw", name := "pairAt", desc := "([CII)Z" } : Jvm.MethodName) method_4_code (3 : Nat) (Option.some Jvm.ClassFile.FieldType.boolean), Jvm.Cond.code ({ cls := "com/example/kunci/kunci/CodePointsComparePinLaw", name := "width", desc := "([CII)I" } : Jvm.MethodName) method_6_code (3 : Nat) (Option.some Jvm.ClassFile.FieldType.int), Jvm.Cond.code ({ cls := "java/lang/Character", name := "charCount", desc := "(I)I" } : Jvm.MethodName) jdk_89_method_18_code (1 : Nat) (Option.some Jvm.ClassFile.FieldType.int), Jvm.Cond.code ({ cls := "java/lang/Character", name := "isLowSurrogate", desc := "(C)Z" } : Jvm.MethodName) jdk_89_method_15_code (1 : Nat) (Option.some Jvm.ClassFile.FieldType.boolean), Jvm.Cond.code ({ cls := "java/lang/Character", name := "toCodePoint", desc := "(CC)I" } : Jvm.MethodName) jdk_89_method_19_code (2 : Nat) (Option.some Jvm.ClassFile.FieldType.int)]
set_option maxRecDepth 65536 in
theorem codes_eq : words1.filter isCode = codes1 := rfl
theorem w_codes : ∀ c ∈ words1.filter isCode, c.before args0 about1 = true := by
  rw [codes_eq]
  intro c hc
  simp only [codes1, List.mem_cons, List.not_mem_nil, or_false] at hc
  rcases hc with rfl | rfl | rfl | rfl | rfl | rfl | rfl | rfl | rfl | rfl | rfl | rfl | rfl | rfl | rfl | rfl | rfl | rfl | rfl | rfl | rfl | rfl | rfl | rfl | rfl | rfl | rfl | rfl | rfl | rfl | rfl | rfl | rfl | rfl
  · exact w_c0
  · exact w_c1
  · exact w_c2
  · exact w_c3
  · exact w_c4
  · exact w_c5
  · exact w_c6
  · exact w_c7
  · exact w_c8
  · exact w_c9
  · exact w_c10
  · exact w_c11
  · exact w_c12
  · exact w_c13
  · exact w_c14
  · exact w_c15
  · exact w_c16
  · exact w_c17
  · exact w_c18
  · exact w_c19
  · exact w_c20
  · exact w_c21
  · exact w_c22
  · exact w_c23
  · exact w_c24
  · exact w_c25
  · exact w_c26
  · exact w_c27
  · exact w_c28
  · exact w_c29
  · exact w_c30
  · exact w_c31
  · exact w_c32
  · exact w_c33
set_option maxRecDepth 65536 in
theorem w_t1 : (words1.take 24).all (fun c => isCode c || c.before args0 about1) = true := by decide +kernel
set_option maxRecDepth 65536 in
theorem w_t2 : ((words1.drop 24).take 24).all (fun c => isCode c || c.before args0 about1) = true := by decide +kernel
set_option maxRecDepth 65536 in
theorem w_t3 : (((words1.drop 24).drop 24).take 24).all (fun c => isCode c || c.before args0 about1) = true := by decide +kernel
set_option maxRecDepth 65536 in
theorem w_t4 : ((((words1.drop 24).drop 24).drop 24).take 24).all (fun c => isCode c || c.before args0 about1) = true := by decide +kernel
set_option maxRecDepth 65536 in
theorem w_t5 : (((((words1.drop 24).drop 24).drop 24).drop 24).take 24).all (fun c => isCode c || c.before args0 about1) = true := by decide +kernel
set_option maxRecDepth 65536 in
theorem w_t6 : ((((((words1.drop 24).drop 24).drop 24).drop 24).drop 24).take 24).all (fun c => isCode c || c.before args0 about1) = true := by decide +kernel
set_option maxRecDepth 65536 in
theorem w_t7 : ((((((words1.drop 24).drop 24).drop 24).drop 24).drop 24).drop 24).all (fun c => isCode c || c.before args0 about1) = true := by decide +kernel
theorem w_tables : (allAtoms (Jvm.Cond.code x code maxLocals ret :: tables_1)).before args0 about1 = true := by
  rw [allAtoms_all]
  show words1.all (fun c => c.before args0 about1) = true
  refine all_split ?_ w_codes
  rw [← List.take_append_drop 24 words1, List.all_append, w_t1, ← List.take_append_drop 24 (words1.drop 24), List.all_append, w_t2, ← List.take_append_drop 24 ((words1.drop 24).drop 24), List.all_append, w_t3, ← List.take_append_drop 24 (((words1.drop 24).drop 24).drop 24), List.all_append, w_t4, ← List.take_append_drop 24 ((((words1.drop 24).drop 24).drop 24).drop 24), List.all_append, w_t5, ← List.take_append_drop 24 (((((words1.drop 24).drop 24).drop 24).drop 24).drop 24), List.all_append, w_t6, w_t7]
  rfl
set_option maxRecDepth 65536 in
theorem w_rest : rest_1_c.before args0 about1 = true := by decide +kernel
set_option maxRecDepth 65536 in
theorem w_case : (Jvm.Cond.and given_1 narrow_1).before args0 about1 = true := by decide +kernel
set_option maxRecDepth 65536 in
theorem w_consts : constsHeld consts_1 about1 := Jvm.Lit.constsHeldB_iff.mp (by decide +kernel)
theorem w_applies : (headSpec (Jvm.Cond.code x code maxLocals ret :: tables_1) room_1).applies x e0.platform about1 = true :=
  (Spec.applies_iff w_frames).mpr ⟨w_running, w_runnable, w_alone, w_named, w_hears, w_ripe, w_room, w_tables⟩
theorem atStart : AtStart classFile x code maxLocals ret World_1 tables_1 room_1 Calls_1 rest_1 Pre_1 launch0 p0 e0 about1 theMethod args0 below0 :=
  ⟨lists_1, trivial, launch0.admits_env _ _ _, launch0.least_env, fairChoices_fair.cas, fairChoices_fair.clock, w_frames, w_args, w_heap, w_applies, ⟨w_consts, trivial⟩, w_rest, w_case⟩
end start1
theorem witness_1 : WitnessClaimed_1 := ⟨start1.p0, start1.e0, start1.about1, start1.theMethod, start1.args0, start1.below0, start1.atStart⟩
end Jvm.Pilot.@@N@@
