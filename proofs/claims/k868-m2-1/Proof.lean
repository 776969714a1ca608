import JvmDerived
import JvmDerived.Pilot.@@N@@Statement
import JvmDerived.Pilot.@@N@@Code
set_option linter.unusedVariables false
set_option linter.unusedSimpArgs false
namespace Jvm.Pilot.@@N@@
open Jvm Jvm.ClassFile Sem Op Lib Jvm.Free Jvm.Stand Jvm.LawKit Jvm.RoadKit Bundle Jvm.Pilot.@@N@@.Jvm.D
theorem own_tallN {tb : Tables} {e : Env} {N : Nat} : ∀ (n : Nat) (S : State), N ≤ S.heap.size → N ≤ (stepsAlone tb e n S).heap.size
  | 0, S, h => h
  | n + 1, S, h => by
    unfold stepsAlone
    split
    · exact own_tallN n _ (stepThread_tall tb h)
    · exact h
theorem own_tall {tb : Tables} {e : Env} {below : List Frame} {S t : State} {N : Nat} (st : Steps tb e below S t) (h : N ≤ S.heap.size) : N ≤ t.heap.size := by
  obtain ⟨n, rfl, -⟩ := st
  exact own_tallN n S h
/-- the texts interned between -/
def own_IB (v0 v1 : Vm) (tx : List String) : Prop := ∃ more : Array (Array UInt16 × Addr), v1.interned = v0.interned ++ more ∧ ∀ q ∈ more, ∃ t ∈ tx, utf16ToString? q.1 = some t
theorem own_IB.same {v0 v1 : Vm} {tx : List String} (h : v1.interned = v0.interned) : own_IB v0 v1 tx := ⟨#[], by simpa using h, fun q hq => by simp at hq⟩
theorem own_IB.trans {v0 v1 v2 : Vm} {tx ty : List String} (h : own_IB v0 v1 ty) (hs : ∀ x ∈ ty, x ∈ tx) (k : own_IB v1 v2 tx) : own_IB v0 v2 tx := by
  obtain ⟨a, e1, q1⟩ := h
  obtain ⟨b, e2, q2⟩ := k
  refine ⟨a ++ b, by rw [e2, e1, Array.append_assoc], fun q hq => ?_⟩
  rcases Array.mem_append.mp hq with h | h
  · obtain ⟨x, hx, e⟩ := q1 q h; exact ⟨x, hs x hx, e⟩
  · exact q2 q h
theorem own_IB.of {Z : State} {v0 v1 : Vm} {tx Ts : List String} (I : IB Z v0 Ts) (h : own_IB v0 v1 tx) : IB Z v1 (tx ++ Ts) := by
  obtain ⟨a, e1, q1⟩ := I
  obtain ⟨b, e2, q2⟩ := h
  refine ⟨a ++ b, by rw [e2, e1, Array.append_assoc], fun q hq => ?_⟩
  rcases Array.mem_append.mp hq with h | h
  · obtain ⟨x, hx, e⟩ := q1 q h; exact ⟨x, List.mem_append.mpr (Or.inr hx), e⟩
  · obtain ⟨x, hx, e⟩ := q2 q h; exact ⟨x, List.mem_append.mpr (Or.inl hx), e⟩
abbrev own_Post : Type := (Option Value → Heap → List Loc → Vm → Prop) × List String
section Own
variable {p : Program} {l : Launch} {e : Env} {R : Room} {s : State} {m : MethodId} {args : Array Value} {below : List Frame} {meth : Method} {c : Code} {T : State} {locs : List Loc} {cells slots : Nat} {Z : State} {a0 : Array Value} {h : Heap} {Q : own_Post} {kc kn : Nat}
/-- from S the method comes to its end, and what it leaves answers to Q -/
def own_Ends (p : Program) (e : Env) (below : List Frame) (s : State) (Q : own_Post) (kc kn : Nat) (S : State) : Prop :=
  ∃ s₂ o, Steps p.tables e below S s₂ ∧ s₂.status = .running ∧ Ended s₂ below o ∧ ∃ v L, o = .returned v ∧ Q.1 v s₂.heap L s₂.vm ∧ ReturnedEndW s o s₂ L kc kn ∧ own_IB s.vm s₂.vm Q.2
theorem own_pre {S S' : State} (st : ∀ t, Steps p.tables e below S' t → Steps p.tables e below S t) (k : own_Ends p e below s Q kc kn S') : own_Ends p e below s Q kc kn S := by
  obtain ⟨s₂, o, h1, r⟩ := k
  exact ⟨s₂, o, st _ h1, r⟩
theorem own_reb {S : State} {vm1 : Vm} {n1 : Nat} {ty : List String} (hS : s.Since vm1 n1) (hn : n1 ≤ S.heap.size) (hI : own_IB s.vm vm1 ty) (hsub : ∀ x ∈ ty, x ∈ Q.2) (k : own_Ends p e below (s.setVm vm1) Q kc kn S) : own_Ends p e below s Q kc kn S := by
  obtain ⟨s₂, o, h1, h2, h3, v, L, h4, h5, ⟨h6, h7, h8, h9⟩, h10⟩ := k
  have q : n1 ≤ s₂.heap.size := own_tall h1 hn
  have S2 := hS.trans (n₂ := s₂.heap.size) ⟨h7, h8⟩ q
  exact ⟨s₂, o, h1, h2, h3, v, L, h4, h5, ⟨h6, S2.1, S2.2, h9.setVm s.vm⟩, hI.trans hsub h10⟩
theorem own_fin {T : State} {o : Outcome} {L : List Loc} {k1 n1 k2 n2 : Nat} (hr : ∃ v : Option Value, o = Outcome.returned v) (hW : s.WarmedH T.vm) (hs : s.sameButNew { T with vm := s.vm } L k1 n1) (h1 : k1 ≤ k2) (h2 : n1 ≤ n2) {tx : List String} : ReturnedEndW s o T L k2 n2 ∧ own_IB s.vm T.vm tx :=
  ⟨ReturnedEndW.of_narrow hr hW (hs.mono h1 h2), own_IB.same ((hW.since 0).same_table (Nat.zero_le _))⟩
theorem own_ret (X : Stand p l e R s m args below meth c T locs cells slots) (hx : p.tables.exec = Jvm.exec) (hlk : meth.locks = false) {pc : Nat} {Ls : Array Slot} {w : Value} {t : FieldType} {i : Instr} {rest : List Value} (hret : meth.sig.returnType = some t) (hn : narrow t w = w)
    (hi : (i = .ireturn ∧ (t = .int ∨ t = .boolean ∨ t = .byte ∨ t = .char ∨ t = .short) ∧ ∃ z, w = .int z) ∨ (i = .lreturn ∧ t = .long ∧ ∃ z, w = .long z) ∨ (i = .dreturn ∧ t = .double ∧ ∃ z, w = .double z) ∨ (i = .freturn ∧ t = .float ∧ ∃ z, w = .float z) ∨ (i = .areturn ∧ t.isReference = true ∧ w.isRef = true))
    (hd : decode c.code pc = .ok (i, 1)) (h1 : cells ≤ kc) (h2 : slots ≤ kn) (hQ : Q.1 (some w) T.heap locs T.vm) : own_Ends p e below s Q kc kn (T.setTop (mkF m pc Ls (w :: rest))) := by
  obtain ⟨fs, hr, hrun, hended, hW, hsame⟩ := X.leave (v := some w) (fun h => by rw [hret] at h; cases h) hlk
  exact ⟨_, _, retOut X hx hret hn hi hd hr, hrun, hended, _, _, rfl, hQ, own_fin ⟨_, rfl⟩ hW hsame h1 h2⟩
theorem own_retV (X : Stand p l e R s m args below meth c T locs cells slots) (hx : p.tables.exec = Jvm.exec) (hlk : meth.locks = false) {pc : Nat} {Ls : Array Slot} (hret : meth.sig.returnType = none)
    (hd : decode c.code pc = .ok (.return_, 1)) (h1 : cells ≤ kc) (h2 : slots ≤ kn) (hQ : Q.1 none T.heap locs T.vm) : own_Ends p e below s Q kc kn (T.setTop (mkF m pc Ls [])) := by
  obtain ⟨fs, hr, hrun, hended, hW, hsame⟩ := X.leave (v := none) (fun _ => rfl) hlk
  exact ⟨_, _, X.returnOut hx hret hd hr, hrun, hended, _, _, rfl, hQ, own_fin ⟨_, rfl⟩ hW hsame h1 h2⟩
/-- a contract: called with these arguments over this heap, the tables as PV says, it returns, and Q says what it left -/
abbrev own_MetW (l : Launch) (Z : State) (y : MethodName) (bytes : ByteArray) (maxL : Nat) (ret : Option FieldType) (ws : List Jvm.Cond) (rm : Room) (as' : Array Value) (h0 : Heap) (PV : Vm → Prop) (Q : own_Post) : Prop :=
  MetFree l y (head1 (Jvm.Cond.code y bytes maxL ret :: ws) rm) (fun a U => a = as' ∧ Z.Warmed39 U.vm ∧ U.heap = h0 ∧ PV U.vm) (fun _ _ _ _ _ => True) (fun _ U o U' => ∃ v L, o = .returned v ∧ Q.1 v U'.heap L U'.vm ∧ ReturnedEndW U o U' L rm.cells rm.slots ∧ own_IB U.vm U'.vm Q.2)
abbrev own_Met (l : Launch) (Z : State) (y : MethodName) (bytes : ByteArray) (maxL : Nat) (ret : Option FieldType) (ws : List Jvm.Cond) (rm : Room) (as' : Array Value) (h0 : Heap) (Q : Option Value → Heap → List Loc → Prop) : Prop :=
  own_MetW l Z y bytes maxL ret ws rm as' h0 (fun _ => True) (fun v h L _ => Q v h L, [])
theorem own_bodyW {y : MethodName} {bytes : ByteArray} {maxL : Nat} {ret : Option FieldType} {ws : List Jvm.Cond} {rm : Room} {as' : Array Value} {h0 : Heap} {PV : Vm → Prop} (pn : plainFor y = true) (F : MethodId → JFrame) (hF : ∀ m, entryFrame m as' maxL = F m)
    (body : ∀ (p : Program) (e : Env) (s : State) (m : MethodId) (below : List Frame) (meth : Method) (c : Code) (T : State), p.tables.exec = Jvm.exec → c.code = bytes → c.maxLocals = maxL → meth.locks = false → meth.sig.returnType = ret → Z.Warmed39 s.vm → s.vm.findClass y.cls = some m.cls → meth.name = y.name →
      Stand p l e rm s m as' below meth c T [] 0 0 → T.heap = h0 → PV s.vm → s.heap = h0 → own_Ends p e below s Q rm.cells rm.slots (T.setTop (F m))) : own_MetW l Z y bytes maxL ret ws rm as' h0 PV Q := by
  refine MetFree.of_bodySF pn hisR ?_
  intro p e s m args below meth c s₁ Bd hml0 hP hK
  obtain ⟨rfl, hZ, hh, hv⟩ := hP
  have := body p e s m below meth c s₁ Bd.exec Bd.bytes hml0 (BodyLoose.notSynchronized Bd) Bd.returns hZ (findClass_of_methodNamed Bd.named) (name_of_methodNamed Bd.named Bd.method).1 (Stand.of_body Bd) (by rw [← hh, Bd.state]; rfl) hv hh
  rw [← hF m] at this
  exact this
theorem own_body {y : MethodName} {bytes : ByteArray} {maxL : Nat} {ret : Option FieldType} {ws : List Jvm.Cond} {rm : Room} {as' : Array Value} {h0 : Heap} {Q : Option Value → Heap → List Loc → Prop} (pn : plainFor y = true) (F : MethodId → JFrame) (hF : ∀ m, entryFrame m as' maxL = F m)
    (body : ∀ (p : Program) (e : Env) (s : State) (m : MethodId) (below : List Frame) (meth : Method) (c : Code) (T : State), p.tables.exec = Jvm.exec → c.code = bytes → c.maxLocals = maxL → meth.locks = false → meth.sig.returnType = ret → Z.Warmed39 s.vm → s.vm.findClass y.cls = some m.cls → meth.name = y.name →
      Stand p l e rm s m as' below meth c T [] 0 0 → T.heap = h0 → own_Ends p e below s (fun v h L _ => Q v h L, []) rm.cells rm.slots (T.setTop (F m))) : own_Met l Z y bytes maxL ret ws rm as' h0 Q :=
  own_bodyW pn F hF fun p e s m below meth c T a1 a2 a3 a4 a5 a6 a7 a8 a9 a10 _ _ => body p e s m below meth c T a1 a2 a3 a4 a5 a6 a7 a8 a9 a10
theorem own_backW {y : MethodName} {bytes : ByteArray} {maxL : Nat} {ret : Option FieldType} {rm : Room} {len W : Nat} {as' : Array Value} {PV : Vm → Prop} {Qc : own_Post} (hM : own_MetW l Z y bytes maxL ret [] rm as' h PV Qc)
    (hZ : Z.Warmed39 s.vm) (wc : (Cond.code y bytes maxL ret).before a0 Z = true) (wz : (Cond.initialized y.cls).before a0 Z = true) (hf : rm.frames + 1 ≤ R.frames) (hl : W + (maxL + 11) + rm.locals ≤ R.locals) (hv : ∀ vm, s.WarmedH vm → PV vm) :
    BackS l R p e below s args y len W (fun A a => a = as' ∧ A.U.heap = h ∧ A.cells + rm.cells ≤ R.cells ∧ A.slots + rm.slots ≤ R.slots)
      (fun A _ v B => ∃ L, Qc.1 v B.U.heap L B.U.vm ∧ own_IB A.U.vm B.U.vm Qc.2 ∧ B.locs = A.locs ++ L ∧ B.cells = A.cells + rm.cells ∧ B.slots = A.slots + rm.slots) :=
  BackS.of_freeW (bytes := bytes) (maxL := maxL) (ret := ret) (E := fun _ U o t L k n => k = rm.cells ∧ n = rm.slots ∧ own_IB U.vm t.vm Qc.2 ∧ ∃ v, o = .returned v ∧ Qc.1 v t.heap L t.vm) hM hf hl
    (fun m meth c A a Y hp => have hU : Z.Warmed39 A.U.vm := wtrans hZ Y.warmed
      ⟨by show (Cond.and _ .tt).before a A.U = true; rw [Cond.before_and, mv hU wc]; rfl, mv hU wc, mv hU wz, hp.2.2.1, hp.2.2.2⟩)
    (fun m meth c A a g mk Y hp => ⟨hp.1, wtrans hZ Y.warmed, hp.2.1, hv _ Y.warmed⟩) (fun _ _ _ _ _ _ _ _ _ => trivial)
    (fun _ _ _ _ ⟨v, L, h1, h2, h3, h4⟩ => ⟨L, _, _, h3, rfl, rfl, h4, v, h1, h2⟩)
    (fun m meth c A a g mk v t L k n Y hp _ _ ⟨e1, e2, e0, v', e3, e4⟩ => by cases e3; subst e1 e2; exact ⟨L, e4, e0, rfl, rfl, rfl⟩)
/-- what a call leaves: the base is told anew -/
def own_K (p : Program) (l : Launch) (e : Env) (R : Room) (s : State) (m : MethodId) (args : Array Value) (below : List Frame) (meth : Method) (c : Code) (own : String) (Z : State) (locs : List Loc) (Q : own_Post) (kc kn ck sk : Nat) (Qc : own_Post) (F : Option Value → JFrame) : Prop :=
  ∀ (v : Option Value) (T' : State) (L : List Loc) (s' : State), Stand p l e R s' m args below meth c T' (locs ++ L) ck sk → Z.Warmed39 s'.vm → s'.vm.findClass own = some m.cls → own_IB s.vm s'.vm Qc.2 → s'.vm = T'.vm → s'.heap = s.heap → s.Warmed39 s'.vm → Qc.1 v T'.heap L T'.vm → own_Ends p e below s' Q kc kn (T'.setTop (F v))
theorem own_come {own : String} {T' : State} {ck sk : Nat} {Qc : own_Post} {F : Option Value → JFrame} {L : List Loc} {v : Option Value} {vm1 : Vm} {S : State} (k : own_K p l e R s m args below meth c own Z locs Q kc kn ck sk Qc F) (hZ : Z.Warmed39 s.vm) (hown : s.vm.findClass own = some m.cls)
    (hW : s.WarmedH vm1) (X' : Stand p l e R (s.setVm T'.vm) m args below meth c T' (locs ++ L) ck sk) (hS : s.Since T'.vm T'.heap.size) (hI : own_IB vm1 T'.vm Qc.2) (hsub : ∀ x ∈ Qc.2, x ∈ Q.2) (hQ : Qc.1 v T'.heap L T'.vm) (st : ∀ t, Steps p.tables e below (T'.setTop (F v)) t → Steps p.tables e below S t) : own_Ends p e below s Q kc kn S := by
  have hI' : own_IB s.vm T'.vm Qc.2 := (own_IB.same (tx := []) ((hW.since 0).same_table (Nat.zero_le _))).trans (fun _ h => by cases h) hI
  refine own_pre st (own_reb hS (Nat.le_refl _) hI' hsub ?_)
  exact k v T' L (s.setVm T'.vm) X' (State.Warmed39.trans hZ hS.1) ((hS.1.alike.findClass _ _).trans hown) hI' rfl rfl hS.1 hQ
theorem own_callS (X : Stand p l e R s m args below meth c T locs cells slots) (hx : p.tables.exec = Jvm.exec) (hZ : Z.Warmed39 s.vm) {own : String} {index : Nat} {y : MethodName} {bytes : ByteArray} {maxL : Nat} {ret : Option FieldType} {rm : Room} {Qc : own_Post} {PV : Vm → Prop}
    (hown : s.vm.findClass own = some m.cls) (w1 : (Cond.methodLink own index y).before a0 Z = true) (w2 : (Cond.static y).before a0 Z = true) (w3 : (Cond.initialized y.cls).before a0 Z = true) (w4 : (Cond.code y bytes maxL ret).before a0 Z = true)
    (hy : y.cls ≠ "java/lang/invoke/MethodHandle" ∧ y.cls ≠ "java/lang/invoke/VarHandle") (eT : T.heap = h) {argsL rest st0 : List Value} (hM : own_MetW l Z y bytes maxL ret [] rm argsL.toArray h PV Qc) {W pc : Nat} {Ls : Array Slot}
    (hsz : Ls.size = c.maxLocals) (hlen : ∀ sig, parseMethodDescriptor y.desc = some sig → argsL.length = sig.parameters.length) (hst : st0 = argsL.reverse ++ rest) (hW : (rest.map fun v => v.category).sum ≤ W) (hd : decode c.code pc = .ok (.invokestatic index, 3))
    (hf : rm.frames + 1 ≤ R.frames) (hl : W + (maxL + 11) + rm.locals ≤ R.locals) (hc : cells + rm.cells ≤ R.cells) (hs : slots + rm.slots ≤ R.slots)
    (k : own_K p l e R s m args below meth c own Z locs Q kc kn (cells + rm.cells) (slots + rm.slots) Qc (fun v => mkF m (pc + 3) Ls (v.toList ++ rest)))
    (hv : ∀ vm, s.WarmedH vm → PV vm := by exact fun _ _ => trivial) (hsub : ∀ x ∈ Qc.2, x ∈ Q.2 := by simp) :
    own_Ends p e below s Q kc kn (T.setTop (mkF m pc Ls st0)) := by
  obtain ⟨v, vm1, ⟨T', L', k', n'⟩, hW1, X', hS, hgr, ⟨Lc, hQ, hI, l1, y1, z1⟩, st⟩ := callSS X hx (y := y) hown (mvT hZ w1) (mvT hZ w2) (mvT hZ w3) (mvT hZ w4) hy (own_backW (W := W) hM hZ w4 w3 hf hl hv) (g := mkF m pc Ls st0) rfl hsz (argsL := argsL) (rest := rest) hlen hst (by show 2 * 0 + _ ≤ _; simpa using hW) hd (fun _ _ => ⟨rfl, eT, hc, hs⟩)
  dsimp only [Pt.U, Pt.locs, Pt.cells, Pt.slots] at X' l1 y1 z1 st hQ hI hS
  subst l1 y1 z1
  exact own_come k hZ hown hW1 X' hS hI hsub hQ (fun t kk => st.trans kk)
theorem own_callI (X : Stand p l e R s m args below meth c T locs cells slots) (hx : p.tables.exec = Jvm.exec) (hZ : Z.Warmed39 s.vm) {own : String} {index : Nat} {y : MethodName} {bytes : ByteArray} {maxL : Nat} {rm : Room} {Qc : own_Post} {PV : Vm → Prop} {b : Addr}
    (hown : s.vm.findClass own = some m.cls) (hy1 : y.name = "<init>") (w1 : (Cond.methodLink own index y).before a0 Z = true) (w2 : (Cond.instanceMethod y).before a0 Z = true) (w4 : (Cond.code y bytes maxL none).before a0 Z = true) (w3 : (Cond.initialized y.cls).before a0 Z = true)
    (hy : y.cls ≠ "java/lang/invoke/MethodHandle" ∧ y.cls ≠ "java/lang/invoke/VarHandle") (eT : T.heap = h) {argsL rest st0 : List Value} (hM : own_MetW l Z y bytes maxL none [] rm (.ref b :: argsL).toArray h PV Qc) {W pc : Nat} {Ls : Array Slot}
    (hsz : Ls.size = c.maxLocals) (hlen : ∀ sig, parseMethodDescriptor y.desc = some sig → argsL.length = sig.parameters.length) (hst : st0 = argsL.reverse ++ .ref b :: rest) (hW : (rest.map fun v => v.category).sum ≤ W) (hd : decode c.code pc = .ok (.invokespecial index, 3))
    (hf : rm.frames + 1 ≤ R.frames) (hl : W + (maxL + 11) + rm.locals ≤ R.locals) (hc : cells + rm.cells ≤ R.cells) (hs : slots + rm.slots ≤ R.slots)
    (k : own_K p l e R s m args below meth c own Z locs Q kc kn (cells + rm.cells) (slots + rm.slots) Qc (fun v => mkF m (pc + 3) Ls (v.toList ++ rest)))
    (hv : ∀ vm, s.WarmedH vm → PV vm := by exact fun _ _ => trivial) (hsub : ∀ x ∈ Qc.2, x ∈ Q.2 := by simp) :
    own_Ends p e below s Q kc kn (T.setTop (mkF m pc Ls st0)) := by
  obtain ⟨v, vm1, ⟨T', L', k', n'⟩, hW1, X', hS, hgr, ⟨Lc, hQ, hI, l1, y1, z1⟩, st⟩ := X.specialBackS hx (y := y) hy1 hown (mvT hZ w1) (mvT hZ w2) (mvT hZ w4) hy (own_backW (W := W) hM hZ w4 w3 hf hl hv) (g := mkF m pc Ls st0) rfl hsz (Steps.refl _) (a := b) (argsL := argsL) (rest := rest) hlen hst (by show 2 * 0 + _ ≤ _; simpa using hW) hd (fun _ _ => ⟨rfl, eT, hc, hs⟩)
  dsimp only [Pt.U, Pt.locs, Pt.cells, Pt.slots] at X' l1 y1 z1 st hQ hI hS
  subst l1 y1 z1
  exact own_come k hZ hown hW1 X' hS hI hsub hQ (fun t kk => st.trans kk)
theorem own_callV (X : Stand p l e R s m args below meth c T locs cells slots) (hx : p.tables.exec = Jvm.exec) (hZ : Z.Warmed39 s.vm) {own C : String} {index : Nat} {y : MethodName} {bytes : ByteArray} {maxL : Nat} {ret : Option FieldType} {rm : Room} {Qc : own_Post} {PV : Vm → Prop} {b : Addr}
    (hown : s.vm.findClass own = some m.cls) (w1 : (Cond.methodLink own index y).before a0 Z = true) (w2 : (Cond.declares y).before a0 Z = true) (w3 : (Cond.selects C y y).before a0 Z = true) (w4 : (Cond.instanceMethod y).before a0 Z = true) (w5 : (Cond.code y bytes maxL ret).before a0 Z = true) (w6 : (Cond.initialized y.cls).before a0 Z = true)
    (hy : y.cls ≠ "java/lang/invoke/MethodHandle" ∧ y.cls ≠ "java/lang/invoke/VarHandle") (eT : T.heap = h) (E : Exa Z h b C) {argsL rest st0 : List Value} (hM : own_MetW l Z y bytes maxL ret [] rm (.ref b :: argsL).toArray h PV Qc) {W pc : Nat} {Ls : Array Slot}
    (hsz : Ls.size = c.maxLocals) (hlen : ∀ sig, parseMethodDescriptor y.desc = some sig → argsL.length = sig.parameters.length) (hst : st0 = argsL.reverse ++ .ref b :: rest) (hW : (rest.map fun v => v.category).sum ≤ W) (hd : decode c.code pc = .ok (.invokevirtual index, 3))
    (hf : rm.frames + 1 ≤ R.frames) (hl : W + (maxL + 11) + rm.locals ≤ R.locals) (hc : cells + rm.cells ≤ R.cells) (hs : slots + rm.slots ≤ R.slots)
    (k : own_K p l e R s m args below meth c own Z locs Q kc kn (cells + rm.cells) (slots + rm.slots) Qc (fun v => mkF m (pc + 3) Ls (v.toList ++ rest)))
    (hv : ∀ vm, s.WarmedH vm → PV vm := by exact fun _ _ => trivial) (hsub : ∀ x ∈ Qc.2, x ∈ Q.2 := by simp) :
    own_Ends p e below s Q kc kn (T.setTop (mkF m pc Ls st0)) := by
  obtain ⟨cq, kq, qa, qb, qc⟩ := isOf hZ eT E
  obtain ⟨v, vm1, ⟨T', L', k', n'⟩, hW1, X', hS, hgr, ⟨Lc, hQ, hI, l1, y1, z1⟩, st⟩ := X.virtualBackS hx (y := y) (z := y) hown (mvT hZ w1) (mvT hZ w2) (notFace_of_selects (args := #[]) (mvT hZ w3)) (mvT hZ w3) (mvT hZ w4) hy (own_backW (W := W) hM hZ w5 w6 hf hl hv) qa qc (g := mkF m pc Ls st0) rfl hsz (Steps.refl _) (argsL := argsL) (rest := rest) hlen hst (by show 2 * 0 + _ ≤ _; simpa using hW) hd (fun _ _ => ⟨rfl, eT, hc, hs⟩)
  dsimp only [Pt.U, Pt.locs, Pt.cells, Pt.slots] at X' l1 y1 z1 st hQ hI hS
  subst l1 y1 z1
  exact own_come k hZ hown hW1 X' hS hI hsub hQ (fun t kk => st.trans kk)
theorem own_eqi {t : Term} {k : Int32} {args : Array Value} {s : State} (h : (Jvm.Cond.eq t (Term.int k)).value args s none s [] = some true) : t.eval args s none [] s = some (.int k) := by
  obtain ⟨x, y, h1, h2, -, h3⟩ := cmp_v (Or.inl h)
  have h4 : y = .int k := (Option.some.inj ((Term.int_eval k).symm.trans h2)).symm
  subst h4
  obtain ⟨z, rfl⟩ := h3
  have h5 : (Jvm.Cond.eq t (Term.int k)).value args s none s [] = some (decide (z = k)) := by simp [Cond.value, h1, h2]
  rw [h1, gotT h5 h]
theorem own_fieldOf {t : Term} {C n d : String} {k : Int32} {a : Addr} {args : Array Value} {s : State} (ht : t.eval args s none [] s = some (.ref a)) (h : (Jvm.Cond.eq (Term.field t C n d) (Term.int k)).value args s none s [] = some true) : Fld s s.heap a C n d (.int k) :=
  Fld.start ((fld_at ht).symm.trans (own_eqi h))
theorem own_st1 {Ls Ls' : Array Slot} {k : Nat} {o : Slot} {v : Value} (hold : Ls[k]? = some o) (ho : One o) (hv : v.category = 1) (he : Ls.setIfInBounds k (.val v) = Ls') : storeLocals Ls k v = some Ls' := he ▸ XS.store1 hold ho hv
theorem own_catV {v : Value} (hv : v.isRef = true) : v.category = 1 := by rcases ref_cases hv with rfl | ⟨_, rfl⟩ <;> rfl
theorem own_narV {v : Value} {t : FieldType} (hv : v.isRef = true) (ht : t.isReference = true) : narrow t v = v := by
  rcases ref_cases hv with rfl | ⟨_, rfl⟩ <;> cases t <;> first | rfl | (cases ht; done)
theorem own_narC {x : Int32} (h : 0 ≤ x.toInt ∧ x.toInt ≤ 65535) : nar .char x = x := by
  have q := c_i2c x
  rw [← Int32.toInt_inj]
  show (x.toUInt32.toUInt16.toUInt32.toInt32).toInt = x.toInt
  omega
theorem own_narZ {x : Int32} (h : x = 0 ∨ x = 1) : narrow .boolean (.int x) = .int x := by rcases h with rfl | rfl <;> rfl
def own_plain (h : Heap) (x : Addr) : Prop := ∃ c : Cell, h[x]? = some c ∧ c.vm.isStatics = false
theorem own_plainE {a : Addr} {C : String} (F : Exa Z h a C) : own_plain h a := by obtain ⟨c, k, h1, -, -, h4, -⟩ := F; exact ⟨c, h1, h4⟩
theorem own_sta_keep {h' : Heap} {ws : List Addr} {C n d : String} {v : Value} (F : Sta Z h C n d v) (K : Keep h h' ws) (q : ∀ x ∈ ws, own_plain h x) : Sta Z h' C n d v := by
  obtain ⟨cf, i, k, f, st, cell, h1, h2, h3, h4, h5, h6, h7⟩ := F
  refine ⟨cf, i, k, f, st, cell, h1, h2, h3, h4, K.2.1 _ _ h5 fun y => ?_, h6, h7⟩
  obtain ⟨c, z1, z2⟩ := q _ y
  cases h5.symm.trans z1
  rw [z2] at h6; cases h6
end Own
abbrev own_F (T : State) (m : MethodId) (pc : Nat) (Ls : Array Slot) (st : List Value) : State := T.setTop (mkF m pc Ls st)
theorem own_g {p : Program} {e : Env} {s : State} {below : List Frame} {Q : own_Post} {kc kn : Nat} {S : State} (S' : State) (st : ∀ t, Steps p.tables e below S' t → Steps p.tables e below S t) (k : own_Ends p e below s Q kc kn S') : own_Ends p e below s Q kc kn S := own_pre st k
theorem own_w {a0 : Array Value} {Z : State} (hw : ∀ d ∈ tables_1, d.before a0 Z = true) (i : Nat) {d : Jvm.Cond} (h : tables_1[i]? = some d := by rfl) : d.before a0 Z = true := hw _ (List.mem_of_getElem? h)
section OwnArr
variable {p : Program} {l : Launch} {e : Env} {R : Room} {s : State} {m : MethodId} {args : Array Value} {below : List Frame} {meth : Method} {c : Code} {T : State} {locs : List Loc} {cells slots : Nat} {Z : State} {a0 : Array Value} {h h' : Heap} {Q : own_Post} {kc kn : Nat} {a b : Addr} {ty : FieldType} {n : Nat} {f : Nat → Value}
/-- in h there lies at a an array of n components of the kind ty, the i-th is f i -/
def own_A (Z : State) (h : Heap) (a : Addr) (ty : FieldType) (n : Nat) (f : Nat → Value) : Prop := n < 2 ^ 31 ∧ ∃ cl : Cell, Arr Z h a cl ty ∧ cl.slots.size = n ∧ ∀ i, i < n → cl.slots[i]? = some (f i)
theorem own_A.lt (F : own_A Z h a ty n f) : a < h.size := by obtain ⟨_, c, A, -⟩ := F; exact A.lt
theorem own_A.ext (F : own_A Z h a ty n f) (E : Ext h h') : own_A Z h' a ty n f := by obtain ⟨q, c, A, r⟩ := F; exact ⟨q, c, A.ext E, r⟩
theorem own_A.other {sl : Nat} {v : Value} (F : own_A Z h b ty n f) (W : Wr h h' a sl v) (q : b ≠ a) : own_A Z h' b ty n f := by obtain ⟨r0, c, A, r⟩ := F; exact ⟨r0, c, A.other W q, r⟩
theorem own_A.keep {ws : List Addr} (F : own_A Z h a ty n f) (K : Keep h h' ws) (q : a ∉ ws) : own_A Z h' a ty n f := by obtain ⟨r0, c, A, r⟩ := F; exact ⟨r0, c, ⟨K.2.1 a c A.1 q, A.2⟩, r⟩
theorem own_A.congr {g : Nat → Value} (F : own_A Z h a ty n f) (q : ∀ i, i < n → f i = g i) : own_A Z h a ty n g := by obtain ⟨r0, c, A, r1, r2⟩ := F; exact ⟨r0, c, A, r1, fun i hi => by rw [r2 i hi, q i hi]⟩
theorem own_clamp {j : Int32} {i : Nat} (hj : j.toInt = (i : Int)) : ¬ j < 0 ∧ j.toNatClampNeg = i := by
  refine ⟨fun q => ?_, ?_⟩
  · rw [Int32.lt_iff_toInt_lt, hj, Int32.toInt_zero] at q; omega
  · show j.toInt.toNat = i
    rw [hj]; exact Int.toNat_natCast i
theorem own_in {j : Int32} {i : Nat} {cl : Cell} (hj : j.toInt = (i : Int)) (hi : i < cl.slots.size) : ¬ (j < 0 ∨ cl.slots.size ≤ j.toNatClampNeg) := by
  obtain ⟨q1, q2⟩ := own_clamp hj
  rw [q2]
  intro q
  rcases q with q | q
  · exact q1 q
  · omega
theorem own_alen (X : Stand p l e R s m args below meth c T locs cells slots) (hx : p.tables.exec = Jvm.exec) (hZ : Z.Warmed39 s.vm) (eT : T.heap = h) (A : own_A Z h a ty n f) {pc : Nat} {Ls : Array Slot} {rest : List Value} (hd : decode c.code pc = .ok (.arraylength, 1))
    (k : own_Ends p e below s Q kc kn (T.setTop (mkF m (pc + 1) Ls (.int n.toInt32 :: rest)))) : own_Ends p e below s Q kc kn (T.setTop (mkF m pc Ls (.ref a :: rest))) := by
  obtain ⟨-, cl, Ar, rfl, -⟩ := A
  exact own_pre (X.arraylength hx (by rw [eT]; exact Ar.1) (State.isArrayOf_alike hZ.alike Ar.2.1) (g := mkF m pc Ls (.ref a :: rest)) rfl rfl hd) k
theorem own_iald (X : Stand p l e R s m args below meth c T locs cells slots) (hx : p.tables.exec = Jvm.exec) (hZ : Z.Warmed39 s.vm) (eT : T.heap = h) {g : Nat → Int32} (A : own_A Z h a .int n (fun i => .int (g i))) {pc : Nat} {Ls : Array Slot} {rest : List Value} {j : Int32} (i : Nat) (hj : j.toInt = (i : Int)) (hi : i < n) (hd : decode c.code pc = .ok (.iaload, 1))
    (k : own_Ends p e below s Q kc kn (T.setTop (mkF m (pc + 1) Ls (.int (g i) :: rest)))) : own_Ends p e below s Q kc kn (T.setTop (mkF m pc Ls (.int j :: .ref a :: rest))) := by
  obtain ⟨-, cl, Ar, rfl, hv⟩ := A
  exact own_pre (X.iaload hx (j := j) (v := .int (g i)) (by rw [eT]; exact Ar.1) (State.isArrayOf_alike hZ.alike Ar.2.1) Ar.2.2 (own_in hj hi) (by rw [(own_clamp hj).2]; exact hv i hi) (g := mkF m pc Ls (.int j :: .ref a :: rest)) rfl rfl hd) k
theorem own_cald (X : Stand p l e R s m args below meth c T locs cells slots) (hx : p.tables.exec = Jvm.exec) (hZ : Z.Warmed39 s.vm) (eT : T.heap = h) {g : Nat → Int32} (A : own_A Z h a .char n (fun i => .int (g i))) {pc : Nat} {Ls : Array Slot} {rest : List Value} {j : Int32} (i : Nat) (hj : j.toInt = (i : Int)) (hi : i < n) (hd : decode c.code pc = .ok (.caload, 1))
    (k : own_Ends p e below s Q kc kn (T.setTop (mkF m (pc + 1) Ls (.int (g i) :: rest)))) : own_Ends p e below s Q kc kn (T.setTop (mkF m pc Ls (.int j :: .ref a :: rest))) := by
  obtain ⟨-, cl, Ar, rfl, hv⟩ := A
  exact own_pre (X.caload hx (j := j) (v := .int (g i)) (by rw [eT]; exact Ar.1) (State.isArrayOf_alike hZ.alike Ar.2.1) Ar.2.2 (own_in hj hi) (by rw [(own_clamp hj).2]; exact hv i hi) (g := mkF m pc Ls (.int j :: .ref a :: rest)) rfl rfl hd) k
theorem own_bald (X : Stand p l e R s m args below meth c T locs cells slots) (hx : p.tables.exec = Jvm.exec) (hZ : Z.Warmed39 s.vm) (eT : T.heap = h) {g : Nat → Int32} (A : own_A Z h a .byte n (fun i => .int (g i))) {pc : Nat} {Ls : Array Slot} {rest : List Value} {j : Int32} (i : Nat) (hj : j.toInt = (i : Int)) (hi : i < n) (hd : decode c.code pc = .ok (.baload, 1))
    (k : own_Ends p e below s Q kc kn (T.setTop (mkF m (pc + 1) Ls (.int (g i) :: rest)))) : own_Ends p e below s Q kc kn (T.setTop (mkF m pc Ls (.int j :: .ref a :: rest))) := by
  obtain ⟨-, cl, Ar, rfl, hv⟩ := A
  exact own_pre (X.baloadBytes hx (j := j) (v := .int (g i)) (by rw [eT]; exact Ar.1) (State.isArrayOf_alike hZ.alike Ar.2.1) Ar.2.2 (own_in hj hi) (by rw [(own_clamp hj).2]; exact hv i hi) (g := mkF m pc Ls (.int j :: .ref a :: rest)) rfl rfl hd) k
theorem own_lald (X : Stand p l e R s m args below meth c T locs cells slots) (hx : p.tables.exec = Jvm.exec) (hZ : Z.Warmed39 s.vm) (eT : T.heap = h) {g : Nat → Int64} (A : own_A Z h a .long n (fun i => .long (g i))) {pc : Nat} {Ls : Array Slot} {rest : List Value} {j : Int32} (i : Nat) (hj : j.toInt = (i : Int)) (hi : i < n) (hd : decode c.code pc = .ok (.laload, 1))
    (k : own_Ends p e below s Q kc kn (T.setTop (mkF m (pc + 1) Ls (.long (g i) :: rest)))) : own_Ends p e below s Q kc kn (T.setTop (mkF m pc Ls (.int j :: .ref a :: rest))) := by
  obtain ⟨-, cl, Ar, rfl, hv⟩ := A
  exact own_pre (X.laload hx (j := j) (v := .long (g i)) (by rw [eT]; exact Ar.1) (State.isArrayOf_alike hZ.alike Ar.2.1) Ar.2.2 (own_in hj hi) (by rw [(own_clamp hj).2]; exact hv i hi) (g := mkF m pc Ls (.int j :: .ref a :: rest)) rfl rfl hd) k
theorem own_aald (X : Stand p l e R s m args below meth c T locs cells slots) (hx : p.tables.exec = Jvm.exec) (hZ : Z.Warmed39 s.vm) (eT : T.heap = h) (hty : ty.isReference = true) (A : own_A Z h a ty n f) {pc : Nat} {Ls : Array Slot} {rest : List Value} {j : Int32} (i : Nat) (hj : j.toInt = (i : Int)) (hi : i < n) (hd : decode c.code pc = .ok (.aaload, 1))
    (k : own_Ends p e below s Q kc kn (T.setTop (mkF m (pc + 1) Ls (f i :: rest)))) : own_Ends p e below s Q kc kn (T.setTop (mkF m pc Ls (.int j :: .ref a :: rest))) := by
  obtain ⟨-, cl, Ar, rfl, hv⟩ := A
  exact own_pre (X.aaload hx (j := j) (v := f i) (by rw [eT]; exact Ar.1) (State.isArrayOf_alike hZ.alike Ar.2.1) hty Ar.2.2 (own_in hj hi) (by rw [(own_clamp hj).2]; exact hv i hi) (g := mkF m pc Ls (.int j :: .ref a :: rest)) rfl rfl hd) k
/-- the array behind a store -/
theorem own_A.set {cl : Cell} {i : Nat} {v : Value} (q : n < 2 ^ 31) (Ar : Arr Z h a cl ty) (hn : cl.slots.size = n) (hv : ∀ i, i < n → cl.slots[i]? = some (f i)) (W : Wr h h' a i v) (hi : i < n) : own_A Z h' a ty n (fun k => if k = i then v else f k) := by
  refine ⟨q, _, Ar.same W, by rw [sz_set, hn], fun k hk => ?_⟩
  by_cases e : k = i
  · subst e; simp [Cell.setSlot, hn, hk]
  · have := hv k hk
    simp only [e, if_false]
    rw [← this]
    exact Array.getElem?_setIfInBounds_ne (Ne.symm e)
theorem own_iast (X : Stand p l e R s m args below meth c T locs cells slots) (hx : p.tables.exec = Jvm.exec) (hZ : Z.Warmed39 s.vm) (eT : T.heap = h) {g : Nat → Int32} (A : own_A Z h a .int n (fun i => .int (g i))) {pc : Nat} {Ls : Array Slot} {rest : List Value} {j x : Int32} (i : Nat) (hj : j.toInt = (i : Int)) (hi : i < n) (hd : decode c.code pc = .ok (.iastore, 1))
    (k : ∀ T' h', Stand p l e R s m args below meth c T' (locs ++ [⟨a, i⟩]) cells slots → T'.heap = h' → Wr h h' a i (.int x) → own_A Z h' a .int n (fun k => .int (if k = i then x else g k)) → own_Ends p e below s Q kc kn (T'.setTop (mkF m (pc + 1) Ls rest))) :
    own_Ends p e below s Q kc kn (T.setTop (mkF m pc Ls (.int x :: .int j :: .ref a :: rest))) := by
  obtain ⟨q, cl, Ar, hn, hv⟩ := A
  obtain ⟨T', h', X', e', W, st⟩ := stI X hx hZ eT Ar (j := j) (x := x) (own_in hj (by rw [hn]; exact hi)) (g := mkF m pc Ls (.int x :: .int j :: .ref a :: rest)) rfl rfl hd
  rw [(own_clamp hj).2] at X' W
  exact own_pre st (k T' h' X' e' W ((own_A.set q Ar hn hv W hi).congr fun k _ => by by_cases z : k = i <;> simp [z]))
theorem own_last (X : Stand p l e R s m args below meth c T locs cells slots) (hx : p.tables.exec = Jvm.exec) (hZ : Z.Warmed39 s.vm) (eT : T.heap = h) {g : Nat → Int64} (A : own_A Z h a .long n (fun i => .long (g i))) {pc : Nat} {Ls : Array Slot} {rest : List Value} {j : Int32} {x : Int64} (i : Nat) (hj : j.toInt = (i : Int)) (hi : i < n) (hd : decode c.code pc = .ok (.lastore, 1))
    (k : ∀ T' h', Stand p l e R s m args below meth c T' (locs ++ [⟨a, i⟩]) cells slots → T'.heap = h' → Wr h h' a i (.long x) → own_A Z h' a .long n (fun k => .long (if k = i then x else g k)) → own_Ends p e below s Q kc kn (T'.setTop (mkF m (pc + 1) Ls rest))) :
    own_Ends p e below s Q kc kn (T.setTop (mkF m pc Ls (.long x :: .int j :: .ref a :: rest))) := by
  obtain ⟨q, cl, Ar, hn, hv⟩ := A
  obtain ⟨T', h', X', e', W, st⟩ := stJ X hx hZ eT Ar (j := j) (x := x) (own_in hj (by rw [hn]; exact hi)) (g := mkF m pc Ls (.long x :: .int j :: .ref a :: rest)) rfl rfl hd
  rw [(own_clamp hj).2] at X' W
  exact own_pre st (k T' h' X' e' W ((own_A.set q Ar hn hv W hi).congr fun k _ => by by_cases z : k = i <;> simp [z]))
theorem own_cast (X : Stand p l e R s m args below meth c T locs cells slots) (hx : p.tables.exec = Jvm.exec) (hZ : Z.Warmed39 s.vm) (eT : T.heap = h) {g : Nat → Int32} (A : own_A Z h a .char n (fun i => .int (g i))) {pc : Nat} {Ls : Array Slot} {rest : List Value} {j x : Int32} (i : Nat) (hj : j.toInt = (i : Int)) (hi : i < n) (x' : Int32) (hx' : nar .char x = x') (hd : decode c.code pc = .ok (.castore, 1))
    (k : ∀ T' h', Stand p l e R s m args below meth c T' (locs ++ [⟨a, i⟩]) cells slots → T'.heap = h' → Wr h h' a i (.int x') → own_A Z h' a .char n (fun k => .int (if k = i then x' else g k)) → own_Ends p e below s Q kc kn (T'.setTop (mkF m (pc + 1) Ls rest))) :
    own_Ends p e below s Q kc kn (T.setTop (mkF m pc Ls (.int x :: .int j :: .ref a :: rest))) := by
  subst hx'
  obtain ⟨q, cl, Ar, hn, hv⟩ := A
  obtain ⟨T', h', X', e', W, st⟩ := stC X hx hZ eT Ar (j := j) (x := x) (own_in hj (by rw [hn]; exact hi)) (g := mkF m pc Ls (.int x :: .int j :: .ref a :: rest)) rfl rfl hd
  rw [(own_clamp hj).2] at X' W
  exact own_pre st (k T' h' X' e' W ((own_A.set q Ar hn hv W hi).congr fun k _ => by by_cases z : k = i <;> simp [z]))
theorem own_bast (X : Stand p l e R s m args below meth c T locs cells slots) (hx : p.tables.exec = Jvm.exec) (hZ : Z.Warmed39 s.vm) (eT : T.heap = h) {g : Nat → Int32} (A : own_A Z h a .byte n (fun i => .int (g i))) {pc : Nat} {Ls : Array Slot} {rest : List Value} {j x : Int32} (i : Nat) (hj : j.toInt = (i : Int)) (hi : i < n) (x' : Int32) (hx' : nar .byte x = x') (hd : decode c.code pc = .ok (.bastore, 1))
    (k : ∀ T' h', Stand p l e R s m args below meth c T' (locs ++ [⟨a, i⟩]) cells slots → T'.heap = h' → Wr h h' a i (.int x') → own_A Z h' a .byte n (fun k => .int (if k = i then x' else g k)) → own_Ends p e below s Q kc kn (T'.setTop (mkF m (pc + 1) Ls rest))) :
    own_Ends p e below s Q kc kn (T.setTop (mkF m pc Ls (.int x :: .int j :: .ref a :: rest))) := by
  subst hx'
  obtain ⟨q, cl, Ar, hn, hv⟩ := A
  obtain ⟨T', h', X', e', W, st⟩ := stB X hx hZ eT Ar (j := j) (x := x) (own_in hj (by rw [hn]; exact hi)) (g := mkF m pc Ls (.int x :: .int j :: .ref a :: rest)) rfl rfl hd
  rw [(own_clamp hj).2] at X' W
  exact own_pre st (k T' h' X' e' W ((own_A.set q Ar hn hv W hi).congr fun k _ => by by_cases z : k = i <;> simp [z]))
theorem own_newA (X : Stand p l e R s m args below meth c T locs cells slots) (hx : p.tables.exec = Jvm.exec) (hZ : Z.Warmed39 s.vm) {aty : ArrayType} (ty : FieldType) (hty : newarray.typeOf aty = ty) (w : (Cond.arrayClass ty).before a0 Z = true) (eT : T.heap = h) {pc : Nat} {Ls : Array Slot} {rest : List Value} {j : Int32} (hd : decode c.code pc = .ok (.newarray aty, 2))
    (n : Nat) (hj : j.toInt = (n : Int)) (cap : Nat) (hcap : n ≤ cap) (hb : cap * 8 ≤ 536870912) (hc : cells + 1 ≤ R.cells) (hl : slots + cap ≤ R.slots)
    (k : ∀ T' h' (b : Addr), Stand p l e R s m args below meth c T' locs (cells + 1) (slots + cap) → T'.heap = h' → Ext h h' → b = h.size → own_A Z h' b ty n (fun _ => defaultValue ty) → own_Ends p e below s Q kc kn (T'.setTop (mkF m (pc + 2) Ls (.ref b :: rest)))) :
    own_Ends p e below s Q kc kn (T.setTop (mkF m pc Ls (.int j :: rest))) := by
  subst hty
  obtain ⟨q1, q2⟩ := own_clamp hj
  obtain ⟨T', h', cA, X', e', E, A, st⟩ := newP X hx hZ w eT (g := mkF m pc Ls (.int j :: rest)) rfl hd rfl q1 (cap := cap) (by rw [q2]; exact hcap) hb hc hl
  refine own_pre st (k T' h' _ X' e' E rfl ⟨by omega, _, A, by rw [sz_new, q2], fun i hi => ?_⟩)
  simp [newA, q2, hi]
theorem own_lenS {t : Term} {k : Int32} {args : Array Value} {s : State} {cl : Cell} (ht : t.eval args s none [] s = some (.ref a)) (A : Arr s s.heap a cl ty) (h : (Jvm.Cond.eq (Term.length t) (Term.int k)).value args s none s [] = some true) : cl.slots.size.toInt32 = k ∧ cl.slots.size < 2 ^ 31 := by
  have h1 := own_eqi h
  have h2 : s.arrayAt? a = some cl := Arr.fin (Vm.Alike.refl _) A
  by_cases q : cl.slots.size < 2 ^ 31
  · rw [len_f ht h2 q] at h1
    exact ⟨Value.int.inj (Option.some.inj h1), q⟩
  · simp [Term.eval, ht, h2, q] at h1
theorem own_plainA (F : own_A Z h a ty n f) : own_plain h a := by obtain ⟨_, c, A, -⟩ := F; exact ⟨c, A.1, A.plain⟩
theorem own_sz {k : Int32} (h : n.toInt32 = k) (q : n < 2 ^ 31) : (n : Int) = k.toInt := by rw [← h, len_toInt q]
theorem own_sz0 (h : n.toInt32 = 0) (q : n < 2 ^ 31) : n = 0 := by
  have := own_sz h q
  rw [Int32.toInt_zero] at this; omega
end OwnArr
section OwnCp
variable {p : Program} {l : Launch} {e : Env} {R : Room} {s : State} {m : MethodId} {args : Array Value} {below : List Frame} {meth : Method} {c : Code} {T : State} {locs : List Loc} {cells slots : Nat} {Z : State} {a0 : Array Value} {h h' : Heap} {Q : own_Post} {kc kn : Nat} {a b : Addr} {ty : FieldType} {n n' : Nat} {f f' : Nat → Value}
theorem own_rgetD (f : Nat → Value) (d : Value) {n i : Nat} (hi : i < n) : ((List.range n).map f).getD i d = f i := by simp [List.getD_eq_getElem?_getD, hi]
theorem own_toArv (F : own_A Z h a ty n f) (hf : ∀ i, fits ty (f i) = true) (d : Value) : ∃ k, Arv Z h a k ty n.toInt32 ((List.range n).map f) d := by
  obtain ⟨q, cl, A, S, V⟩ := F
  have e := own_clamp (len_toInt q)
  refine ⟨cl.cls, cl, A, rfl, by rw [S, e.2], e.1, fun i hi => ?_, fun i hi => ?_⟩
  · rw [S] at hi; rw [own_rgetD f d hi]; exact V i hi
  · rw [S] at hi; rw [own_rgetD f d hi]; exact hf i
theorem own_ofArv {k : ClassId} {z : Int32} {vs : List Value} {d : Value} (F : Arv Z h a k ty z vs d) (hz : z.toNatClampNeg = n) (hn : n < 2 ^ 31) : own_A Z h a ty n (fun i => vs.getD i d) := by
  obtain ⟨c, A, -, S, -, H, -⟩ := F
  exact ⟨hn, c, A, by rw [S, hz], fun i hi => H i (by rw [S, hz]; exact hi)⟩
theorem own_cp (X : Stand p l e R s m args below meth c T locs cells slots) (hx : p.tables.exec = Jvm.exec) (hZ : Z.Warmed39 s.vm) {own : String} {index : Nat} (hown : s.vm.findClass own = some m.cls)
    (w1 : (Cond.methodLink own index Jvm.Stand.acN).before a0 Z = true) (w2 : (Cond.native Jvm.Stand.acN).before a0 Z = true) (w3 : (Cond.static Jvm.Stand.acN).before a0 Z = true) (w4 : (Cond.initialized "java/lang/System").before a0 Z = true) (eT : T.heap = h)
    (A : own_A Z h a ty n f) (B : own_A Z h b ty n' f') (hfA : ∀ i, fits ty (f i) = true) (hfB : ∀ i, fits ty (f' i) = true) (hp : refKind ty = false) {nn : Int32} (k : Nat) (hk : nn.toInt = (k : Int)) (hkn : k ≤ n) (hkn' : k ≤ n') {n0 : Nat} (N : Fr n0 locs) (ge : n0 ≤ b)
    {pc : Nat} {Ls : Array Slot} (hsz : Ls.size = c.maxLocals) {rest : List Value} (hd : decode c.code pc = .ok (.invokestatic index, 3)) (hfr : 1 ≤ R.frames) {W : Nat} (hW : (rest.map fun v => v.category).sum ≤ W) (hlo : W + 18 ≤ R.locals)
    (kk : ∀ T' h' L, Stand p l e R s m args below meth c T' L cells slots → T'.heap = h' → Fr n0 L → Keep h h' [b] → own_A Z h' b ty n' (fun i => if i < k then f i else f' i) → own_Ends p e below s Q kc kn (T'.setTop (mkF m (pc + 3) Ls rest))) :
    own_Ends p e below s Q kc kn (T.setTop (mkF m pc Ls (.int nn :: .int 0 :: .ref b :: .int 0 :: .ref a :: rest))) := by
  obtain ⟨k1, A1⟩ := own_toArv A hfA (.int 0)
  obtain ⟨k2, B1⟩ := own_toArv B hfB (.int 0)
  have e1 := own_clamp (len_toInt A.1)
  have e2 := own_clamp (len_toInt B.1)
  have e3 := own_clamp hk
  have z0 : (0 : Int32).toNatClampNeg = 0 := by decide
  obtain ⟨T', h', L, X', e', N', K, V, st⟩ := cpA X hx hZ hown w1 w2 w3 w4 eT (sp := 0) (dp := 0) (nn := nn) (us := (List.range nn.toNatClampNeg).map fun i => ((List.range n).map f).getD ((0 : Int32).toNatClampNeg + i) (.int 0)) A1 B1 (Or.inl ⟨rfl, hp⟩) (by decide) (by decide) e3.1 (by rw [z0, e1.2, e3.2]; omega) (by rw [z0, e2.2, e3.2]; omega) rfl (by rw [z0, e3.2]; simp; omega) N ge (g := mkF m pc Ls (.int nn :: .int 0 :: .ref b :: .int 0 :: .ref a :: rest)) rfl hsz rfl hd hfr (W := W) (by show 2 * 0 + _ ≤ _; simpa using hW) (by show W + (7 + 11) ≤ _; omega)
  refine own_pre st (kk T' h' L X' e' N' K ((own_ofArv V e2.2 B.1).congr fun i hi => ?_))
  rw [z0, e3.2]
  simp only [List.take_zero, List.nil_append, Nat.zero_add, List.getD_eq_getElem?_getD]
  by_cases q : i < k
  · have q2 : i < n := by omega
    rw [List.getElem?_append_left (by simpa using q)]
    simp [q, q2]
  · rw [List.getElem?_append_right (by simp; omega)]
    have q3 : k + (i - k) = i := by omega
    simp [q, List.getElem?_drop, q3, hi]
theorem own_callP (X : Stand p l e R s m args below meth c T locs cells slots) (hx : p.tables.exec = Jvm.exec) (hZ : Z.Warmed39 s.vm) {own C : String} {index : Nat} {y : MethodName} {bytes : ByteArray} {maxL : Nat} {ret : Option FieldType} {rm : Room} {Qc : own_Post} {PV : Vm → Prop} {b : Addr}
    (hown : s.vm.findClass own = some m.cls) (w1 : (Cond.methodLink own index y).before a0 Z = true) (w2 : (Cond.instanceMethod y).before a0 Z = true) (w3 : (Cond.selects y.cls y y).before a0 Z = true) (w4 : (Cond.privateMethod y).before a0 Z = true) (w5 : (Cond.code y bytes maxL ret).before a0 Z = true) (w6 : (Cond.initialized y.cls).before a0 Z = true)
    (hy : y.cls ≠ "java/lang/invoke/MethodHandle" ∧ y.cls ≠ "java/lang/invoke/VarHandle") (eT : T.heap = h) (E : Exa Z h b C) {argsL rest st0 : List Value} (hM : own_MetW l Z y bytes maxL ret [] rm (.ref b :: argsL).toArray h PV Qc) {W pc : Nat} {Ls : Array Slot}
    (hsz : Ls.size = c.maxLocals) (hlen : ∀ sig, parseMethodDescriptor y.desc = some sig → argsL.length = sig.parameters.length) (hst : st0 = argsL.reverse ++ .ref b :: rest) (hW : (rest.map fun v => v.category).sum ≤ W) (hd : decode c.code pc = .ok (.invokevirtual index, 3))
    (hf : rm.frames + 1 ≤ R.frames) (hl : W + (maxL + 11) + rm.locals ≤ R.locals) (hc : cells + rm.cells ≤ R.cells) (hs : slots + rm.slots ≤ R.slots)
    (k : own_K p l e R s m args below meth c own Z locs Q kc kn (cells + rm.cells) (slots + rm.slots) Qc (fun v => mkF m (pc + 3) Ls (v.toList ++ rest)))
    (hv : ∀ vm, s.WarmedH vm → PV vm := by exact fun _ _ => trivial) (hsub : ∀ x ∈ Qc.2, x ∈ Q.2 := by simp) :
    own_Ends p e below s Q kc kn (T.setTop (mkF m pc Ls st0)) := by
  obtain ⟨cq, q1, q2⟩ := E.cell
  obtain ⟨v, vm1, ⟨T', L', k', n'⟩, hW1, X', hS, hgr, ⟨Lc, hQ, hI, l1, y1, z1⟩, st⟩ := X.privateBackS hx (y := y) hown (mvT hZ w1) (mvT hZ w2) (mvT hZ w3) (Cond.privateMethod_at (mvP hZ w4 (args := #[]))) (mvT hZ w5) hy (own_backW (W := W) hM hZ w5 w6 hf hl hv) (g := mkF m pc Ls st0) rfl hsz (Steps.refl _) (a := b) (by rw [eT]; exact q1) q2 (argsL := argsL) (rest := rest) hlen hst (by show 2 * 0 + _ ≤ _; simpa using hW) hd (fun _ _ => ⟨rfl, eT, hc, hs⟩)
  dsimp only [Pt.U, Pt.locs, Pt.cells, Pt.slots] at X' l1 y1 z1 st hQ hI hS
  subst l1 y1 z1
  exact own_come k hZ hown hW1 X' hS hI hsub hQ (fun t kk => st.trans kk)
theorem own_selp {y y' : MethodName} (hZ : Z.Warmed39 s.vm) (hc : y'.cls = y.cls) (w : (Cond.selects y'.cls y' y').before a0 Z = true) (wi : (Cond.instanceMethod y).before a0 Z = true) (wp : (Cond.privateMethod y).before a0 Z = true) (hy : y.cls ≠ "java/lang/invoke/MethodHandle" ∧ y.cls ≠ "java/lang/invoke/VarHandle") : (Cond.selects y.cls y y).before args s = true := by
  have w' : (Cond.selects y'.cls y' y').before args s = true := mvT hZ w
  obtain ⟨c2, r2, m2, q1, -, q3, -, kP, hkP, hkPi⟩ := Cond.selects_spec w'
  have q4 := findClass_of_methodNamed q3
  refine selects_self_of_private (c := m2.cls) (k := kP) (by rw [← hc]; exact q4) hkP hkPi (Cond.privateMethod_at (mvP hZ wp (args := #[]))) (mvT hZ wi) hy
theorem own_callQ (X : Stand p l e R s m args below meth c T locs cells slots) (hx : p.tables.exec = Jvm.exec) (hZ : Z.Warmed39 s.vm) {own C : String} {index : Nat} {y y' : MethodName} {bytes : ByteArray} {maxL : Nat} {ret : Option FieldType} {rm : Room} {Qc : own_Post} {PV : Vm → Prop} {b : Addr}
    (hown : s.vm.findClass own = some m.cls) (w1 : (Cond.methodLink own index y).before a0 Z = true) (w2 : (Cond.instanceMethod y).before a0 Z = true) (w3 : (Cond.selects y'.cls y' y').before a0 Z = true) (w4 : (Cond.privateMethod y).before a0 Z = true) (w5 : (Cond.code y bytes maxL ret).before a0 Z = true) (w6 : (Cond.initialized y.cls).before a0 Z = true)
    (hyy : y'.cls = y.cls) (hy : y.cls ≠ "java/lang/invoke/MethodHandle" ∧ y.cls ≠ "java/lang/invoke/VarHandle") (eT : T.heap = h) (E : Exa Z h b C) {argsL rest st0 : List Value} (hM : own_MetW l Z y bytes maxL ret [] rm (.ref b :: argsL).toArray h PV Qc) {W pc : Nat} {Ls : Array Slot}
    (hsz : Ls.size = c.maxLocals) (hlen : ∀ sig, parseMethodDescriptor y.desc = some sig → argsL.length = sig.parameters.length) (hst : st0 = argsL.reverse ++ .ref b :: rest) (hW : (rest.map fun v => v.category).sum ≤ W) (hd : decode c.code pc = .ok (.invokevirtual index, 3))
    (hf : rm.frames + 1 ≤ R.frames) (hl : W + (maxL + 11) + rm.locals ≤ R.locals) (hc : cells + rm.cells ≤ R.cells) (hs : slots + rm.slots ≤ R.slots)
    (k : own_K p l e R s m args below meth c own Z locs Q kc kn (cells + rm.cells) (slots + rm.slots) Qc (fun v => mkF m (pc + 3) Ls (v.toList ++ rest)))
    (hv : ∀ vm, s.WarmedH vm → PV vm := by exact fun _ _ => trivial) (hsub : ∀ x ∈ Qc.2, x ∈ Q.2 := by simp) :
    own_Ends p e below s Q kc kn (T.setTop (mkF m pc Ls st0)) := by
  obtain ⟨cq, q1, q2⟩ := E.cell
  obtain ⟨v, vm1, ⟨T', L', k', n'⟩, hW1, X', hS, hgr, ⟨Lc, hQ, hI, l1, y1, z1⟩, st⟩ := X.privateBackS hx (y := y) hown (mvT hZ w1) (mvT hZ w2) (own_selp hZ hyy w3 w2 w4 hy) (Cond.privateMethod_at (mvP hZ w4 (args := #[]))) (mvT hZ w5) hy (own_backW (W := W) hM hZ w5 w6 hf hl hv) (g := mkF m pc Ls st0) rfl hsz (Steps.refl _) (a := b) (by rw [eT]; exact q1) q2 (argsL := argsL) (rest := rest) hlen hst (by show 2 * 0 + _ ≤ _; simpa using hW) hd (fun _ _ => ⟨rfl, eT, hc, hs⟩)
  dsimp only [Pt.U, Pt.locs, Pt.cells, Pt.slots] at X' l1 y1 z1 st hQ hI hS
  subst l1 y1 z1
  exact own_come k hZ hown hW1 X' hS hI hsub hQ (fun t kk => st.trans kk)
end OwnCp
def own_Lat (Z : State) (h : Heap) (x t : Addr) (n : Nat) (f : Nat → Int32) : Prop := Exa Z h x "java/lang/String" ∧ Fld Z h x "java/lang/String" "value" "[B" (.ref t) ∧ Fld Z h x "java/lang/String" "coder" "B" (.int 0) ∧ own_A Z h t .byte n (fun i => .int ((f i).toInt8.toInt32)) ∧ ∀ i, i < n → 0 ≤ (f i).toInt ∧ (f i).toInt ≤ 255
theorem own_succ {j : Int32} {k n : Nat} (hj : j.toInt = (k : Int)) (hk : k < n) (hn : n < 2 ^ 31) : (j + (1 : Int32)).toInt = ((k + 1 : Nat) : Int) := by
  have h := c_iadd j 1
  have r := rng32 (j + 1)
  simp only [Int32.reduceToInt] at h
  omega
theorem own_jlt {j nn : Int32} {k n : Nat} (hj : j.toInt = (k : Int)) (hn : nn.toInt = (n : Int)) (h : k < n) : j < nn := by rw [Int32.lt_iff_toInt_lt]; omega
theorem own_jge {j nn : Int32} {k n : Nat} (hj : j.toInt = (k : Int)) (hn : nn.toInt = (n : Int)) (h : n ≤ k) : ¬ j < nn := by rw [Int32.lt_iff_toInt_lt]; omega
theorem own_sub31 (x : Int32) : (((x - x).toUInt32 >>> ((31 : Int32) &&& 31).toUInt32).toInt32).toInt8.toInt32 = (0 : Int32) := by rw [Int32.sub_self]; decide
theorem own_gstep {k : Nat} {g g' : Nat → Int32} {B : Nat → Int32} {x : Int32} (hg : ∀ i, i < k → g i = B i) (hg' : g' = fun q => if q = k then x else g q) (hx : x = B k) : ∀ i, i < k + 1 → g' i = B i := by
  intro i hi
  rw [hg']
  by_cases q : i = k
  · simp only [q, if_true]; exact hx
  · simp only [q, if_false]; exact hg i (by omega)
theorem own_i2b (x : Int32) : narrow .byte (.int x.toInt8.toInt32) = .int x.toInt8.toInt32 := by
  show Value.int (x.toInt8.toInt32).toInt8.toInt32 = _
  simp
theorem own_c255 {x : Int32} (h : x.toInt ≤ 255) : ¬ (255 : Int32) < x := by rw [Int32.lt_iff_toInt_lt]; simp only [Int32.reduceToInt]; omega
theorem own_narB (x : Int32) : nar .byte x.toInt8.toInt32 = x.toInt8.toInt32 := by
  show (x.toInt8.toInt32).toInt8.toInt32 = _
  simp
theorem own_n32 {n : Nat} {nn : Int32} (hn : nn.toInt = (n : Int)) : n.toInt32 = nn := by
  have r := rng32 nn
  rw [← Int32.toInt_inj, len_toInt (by omega), hn]
theorem own_b8 {a b : Int32} (ha : 0 ≤ a.toInt ∧ a.toInt ≤ 255) (hb : 0 ≤ b.toInt ∧ b.toInt ≤ 255) (h : a.toInt8.toInt32 = b.toInt8.toInt32) : a = b := by
  have h1 := c_i2b a
  have h2 := c_i2b b
  rw [h] at h1
  rw [← Int32.toInt_inj]
  omega
def own_eqs (n m : Nat) (f g : Nat → Int32) : Prop := n = m ∧ ∀ i, i < n → f i = g i
theorem own_latP {Z : State} {h h' : Heap} {x t y u : Addr} {n m : Nat} {f g : Nat → Int32} (F : own_Lat Z h x t n f) (G : own_Lat Z h' y u m g) : own_eqs n m f g ↔ own_eqs n m (fun i => (f i).toInt8.toInt32) (fun i => (g i).toInt8.toInt32) := by
  constructor
  · rintro ⟨rfl, q⟩
    exact ⟨rfl, fun i hi => by show (f i).toInt8.toInt32 = (g i).toInt8.toInt32; rw [q i hi]⟩
  · rintro ⟨rfl, q⟩
    exact ⟨rfl, fun i hi => own_b8 (F.2.2.2.2 i hi) (G.2.2.2.2 i hi) (q i hi)⟩
theorem own_hrP {P P' : Prop} {r : Int32} (e : P ↔ P') (h : (r = 1 ∧ P) ∨ (r = 0 ∧ ¬ P)) : (r = 1 ∧ P') ∨ (r = 0 ∧ ¬ P') := by rw [← e]; exact h
theorem own_dec (P : Prop) : ∃ r : Int32, (r = 1 ∧ P) ∨ (r = 0 ∧ ¬ P) := by
  by_cases h : P
  · exact ⟨1, Or.inl ⟨rfl, h⟩⟩
  · exact ⟨0, Or.inr ⟨rfl, h⟩⟩
theorem own_r01 {P : Prop} {r : Int32} (h : (r = 1 ∧ P) ∨ (r = 0 ∧ ¬ P)) : r = 0 ∨ r = 1 := by rcases h with ⟨h, -⟩ | ⟨h, -⟩ <;> simp [h]
theorem own_r1 {P : Prop} {r : Int32} (h : (r = 1 ∧ P) ∨ (r = 0 ∧ ¬ P)) (hP : P) : r = 1 := by rcases h with ⟨h, -⟩ | ⟨-, h⟩; exact h; exact absurd hP h
theorem own_r0 {P : Prop} {r : Int32} (h : (r = 1 ∧ P) ∨ (r = 0 ∧ ¬ P)) (hP : ¬ P) : r = 0 := by rcases h with ⟨-, h⟩ | ⟨h, -⟩; exact absurd h hP; exact h
theorem own_Auq {Z : State} {h : Heap} {a : Addr} {ty ty' : FieldType} {n m : Nat} {f g : Nat → Value} (F : own_A Z h a ty n f) (G : own_A Z h a ty' m g) : n = m ∧ ∀ i, i < n → f i = g i := by
  obtain ⟨-, c, A, S, V⟩ := F
  obtain ⟨-, d, B, S', V'⟩ := G
  cases A.1.symm.trans B.1
  refine ⟨S.symm.trans S', fun i hi => ?_⟩
  have h1 := V i hi
  rw [V' i (by omega)] at h1
  exact (Option.some.inj h1).symm
theorem own_Latuq {Z : State} {h : Heap} {x t u : Addr} {n m : Nat} {f g : Nat → Int32} (F : own_Lat Z h x t n f) (G : own_Lat Z h x u m g) : own_eqs n m f g := by
  by_cases q : t = u
  · subst q
    obtain ⟨e, k⟩ := own_Auq F.2.2.2.1 G.2.2.2.1
    subst e
    exact ⟨rfl, fun i hi => own_b8 (F.2.2.2.2 i hi) (G.2.2.2.2 i hi) (Value.int.inj (k i hi))⟩
  · exact absurd rfl (Fld.ne F.2.1 G.2.1 fun z => q (Value.ref.inj z))
section OwnLit
variable {p : Program} {l : Launch} {e : Env} {R : Room} {s : State} {m : MethodId} {args : Array Value} {below : List Frame} {meth : Method} {c : Code} {T : State} {locs : List Loc} {cells slots : Nat} {Z : State} {a0 : Array Value} {h : Heap} {Q : own_Post} {kc kn : Nat}
theorem own_IB.ofI {v0 v1 : Vm} {Ts Ty : List String} (I : IB Z v0 Ts) (J : IB Z v1 Ty) (hm : ∃ more, v1.interned = v0.interned ++ more) : own_IB v0 v1 Ty := by
  obtain ⟨a, e1, -⟩ := I
  obtain ⟨b, e2, q2⟩ := J
  obtain ⟨d, e3⟩ := hm
  refine ⟨d, e3, fun q hq => q2 q ?_⟩
  have : a ++ d = b := by
    have h1 : Z.vm.interned ++ (a ++ d) = Z.vm.interned ++ b := by rw [← e2, e3, e1, Array.append_assoc]
    have h2 := congrArg Array.toList h1
    simp only [Array.toList_append] at h2
    have h3 := List.append_cancel_left h2
    apply Array.toList_inj.mp
    rw [Array.toList_append]; exact h3
  rw [← this]; exact Array.mem_append.mpr (Or.inr hq)
/-- the first load of a literal -/
theorem own_ldc (X : Stand p l e R s m args below meth c T locs cells slots) (hx : p.tables.exec = Jvm.exec) (hZ : Z.Warmed39 s.vm) {own text : String} {index : Nat} (hown : s.vm.findClass own = some m.cls) (w : (Cond.stringLink own index text).before a0 Z = true) (wS : ∀ a ∈ Bundle.stringAtoms, a.before a0 Z = true)
    (eT : T.heap = h) (N : Fr s.heap.size locs) (hkeep : ∀ (b : Addr) (cl : Cell), Z.heap[b]? = some cl → s.heap[b]? = some cl) {Ts : List String} (I : IB Z s.vm Ts) (hnot : text ∉ Ts) (hh : Jvm.Lit.constHeld Z own index) (hcw : Jvm.Lit.compactW.before a0 Z = true)
    {vs : List Value} {z : Int32} (ht : (∀ c ∈ text.toList, c.toNat < 256) ∧ text.toList.map (fun c => Value.int (Jvm.Lit.byteI c.toNat.toUInt16)) = vs) (hz : ¬ z < 0) (hl : z.toNatClampNeg = vs.length)
    {pc : Nat} {Ls : Array Slot} {rest : List Value} (hd : decode c.code pc = .ok (.ldc index, 2)) {n : Nat} (hn : 4 * text.toList.length ≤ n) (hbig : n ≤ 536870912) (hc : cells + 2 ≤ R.cells) (hl' : slots + (n + 4) ≤ R.slots) (hsub : ∀ x ∈ text :: Ts, x ∈ Q.2)
    (k : ∀ (a : Addr) (T' : State) (h' : Heap) (s' : State) (b : Addr) (kk : ClassId), Stand p l e R s' m args below meth c T' locs (cells + 2) (slots + (n + 4)) → Z.Warmed39 s'.vm → s'.vm.findClass own = some m.cls → T'.heap = h' → Ext h h' → s'.heap = s.heap → s'.vm = T'.vm → s.Warmed39 s'.vm → IB Z s'.vm (text :: Ts) → Lit s' own index a →
      Exa Z h' a "java/lang/String" → Fld Z h' a "java/lang/String" "coder" "B" (.int 0) → Fld Z h' a "java/lang/String" "value" "[B" (.ref b) → Arv Z h' b kk .byte z vs (.int 0) → own_Ends p e below s' Q kc kn (T'.setTop (mkF m (pc + 2) Ls (.ref a :: rest)))) :
    own_Ends p e below s Q kc kn (T.setTop (mkF m pc Ls rest)) := by
  obtain ⟨a, T', h', k1, b, kk, X', e', E', hS, hk1, hZ', hown', x1, x2, x3, x4, -, -, I', L', st⟩ := ldcSVL (s := s) (vm0 := s.vm) X hx hZ hown w wS eT (k0 := 0) ((State.WarmedH.refl s).since 0) (Nat.zero_le _) N hkeep I hnot hh hcw ht hz hl (g := mkF m pc Ls rest) rfl hd hn hbig hc hl'
  subst e'
  refine own_pre st (own_reb hS hk1 (own_IB.ofI I I' hS.1.2.2.1) hsub ?_)
  exact k a T' _ (s.setVm T'.vm) b kk X' hZ' hown' rfl E' rfl rfl hS.1 I' L' x1 x2 x3 x4
/-- a load of a literal that is booked -/
theorem own_ldcA (X : Stand p l e R s m args below meth c T locs cells slots) (hx : p.tables.exec = Jvm.exec) (hZ : Z.Warmed39 s.vm) {own text : String} {index : Nat} (hown : s.vm.findClass own = some m.cls) (w : (Cond.stringLink own index text).before a0 Z = true) {a : Addr} (L : Lit s own index a)
    {pc : Nat} {Ls : Array Slot} {rest : List Value} (hd : decode c.code pc = .ok (.ldc index, 2)) (k : own_Ends p e below s Q kc kn (T.setTop (mkF m (pc + 2) Ls (.ref a :: rest)))) : own_Ends p e below s Q kc kn (T.setTop (mkF m pc Ls rest)) :=
  own_pre (ldcAgain (s := s) (vm0 := s.vm) X hx hZ hown w L (g := mkF m pc Ls rest) rfl hd) k
end OwnLit
section OwnLS
variable {p : Program} {l : Launch} {e : Env} {R : Room} {s : State} {m : MethodId} {args : Array Value} {below : List Frame} {meth : Method} {c : Code} {T : State} {locs : List Loc} {cells slots : Nat} {Z : State} {a0 : Array Value} {h h' : Heap} {Q : own_Post} {kc kn : Nat} {vm v1 : Vm} {K : List (String × Nat × String)}
theorem own_SmonoW {c1 s1 c2 s2 : Nat} (X : Stand p l e R s m args below meth c T locs c1 s1) (h1 : c1 ≤ c2) (h2 : s1 ≤ s2) : Stand p l e R s m args below meth c T locs c2 s2 := { X with same := X.same.mono h1 h2 }
/-- the text's i-th char -/
def own_tx (t : String) (i : Nat) : Int32 := (t.toList.getD i ' ').toNat.toInt32
theorem own_Lat.ext {x t : Addr} {n : Nat} {f : Nat → Int32} (F : own_Lat Z h x t n f) (E : Ext h h') : own_Lat Z h' x t n f := ⟨F.1.ext E, F.2.1.ext E, F.2.2.1.ext E, F.2.2.2.1.ext E, F.2.2.2.2⟩
theorem own_Lat.keep {ws : List Addr} {x t : Addr} {n : Nat} {f : Nat → Int32} (F : own_Lat Z h x t n f) (k : Keep h h' ws) (q1 : x ∉ ws) (q2 : t ∉ ws) : own_Lat Z h' x t n f := ⟨F.1.keep k, F.2.1.keep k q1, F.2.2.1.keep k q1, F.2.2.2.1.keep k q2, F.2.2.2.2⟩
theorem own_Lat.congr {x t : Addr} {n n' : Nat} {f g : Nat → Int32} (F : own_Lat Z h x t n f) (hn : n = n') (hf : ∀ i, i < n → f i = g i) : own_Lat Z h x t n' g := by
  subst hn
  exact ⟨F.1, F.2.1, F.2.2.1, F.2.2.2.1.congr fun i hi => by rw [hf i hi], fun i hi => by rw [← hf i hi]; exact F.2.2.2.2 i hi⟩
/-- what is known of the literals K: those in the list of the interned texts are booked and lie in the heap -/
def own_LS (Z : State) (h : Heap) (vm : Vm) (K : List (String × Nat × String)) : Prop := ∃ Ts : List String, IB Z vm Ts ∧ (∀ x ∈ Ts, x ∈ K.map fun k => k.2.2) ∧ ∀ k ∈ K, k.2.2 ∉ Ts ∨ ∃ a t : Addr, Lit (Z.setVm vm) k.1 k.2.1 a ∧ own_Lat Z h a t k.2.2.toList.length (own_tx k.2.2)
theorem own_LS.start : own_LS Z h Z.vm K := ⟨[], IB.start, (fun x hx => by cases hx), fun k _ => Or.inl (fun q => by cases q)⟩
theorem own_LS.step (F : own_LS Z h s.vm K) (hI : own_IB s.vm v1 []) (hW : s.Warmed39 v1) : own_LS Z h v1 K := by
  obtain ⟨Ts, I, hT, hK⟩ := F
  refine ⟨Ts, own_IB.of I hI, hT, fun k hk => ?_⟩
  rcases hK k hk with q | ⟨a, t, q1, q2⟩
  · exact Or.inl q
  · exact Or.inr ⟨a, t, State.resolvedAt?_warmed39 (s := s) hW q1, q2⟩
theorem own_LS.warm (F : own_LS Z h s.vm K) (hW : s.WarmedH v1) : own_LS Z h v1 K := F.step (own_IB.same ((hW.since 0).same_table (Nat.zero_le _))) (hW.since 0).1
theorem own_LS.ext (F : own_LS Z h vm K) (E : Ext h h') : own_LS Z h' vm K := by
  obtain ⟨Ts, I, hT, hK⟩ := F
  refine ⟨Ts, I, hT, fun k hk => ?_⟩
  rcases hK k hk with q | ⟨a, t, q1, q2⟩
  · exact Or.inl q
  · exact Or.inr ⟨a, t, q1, q2.ext E⟩
theorem own_LS.keep (F : own_LS Z h vm K) (E : Keep h h' []) : own_LS Z h' vm K := by
  obtain ⟨Ts, I, hT, hK⟩ := F
  refine ⟨Ts, I, hT, fun k hk => ?_⟩
  rcases hK k hk with q | ⟨a, t, q1, q2⟩
  · exact Or.inl q
  · exact Or.inr ⟨a, t, q1, q2.keep E (fun z => by cases z) (fun z => by cases z)⟩
theorem own_LatO {x t b : Addr} {n k : Nat} {f : Nat → Int32} {C : String} (F : own_Lat Z h x t n f) (E : Exa Z h b C) (hC : "java/lang/String" ≠ C) (w : (Cond.instantiable C k).before a0 Z = true) : x ≠ b ∧ t ≠ b := by
  obtain ⟨_, cl, A, -⟩ := F.2.2.2.1
  exact ⟨ne_exa F.1 E hC, (ne_arr E w A).symm⟩
theorem own_LS.keepO {b : Addr} {k : Nat} {C : String} (F : own_LS Z h vm K) (kp : Keep h h' [b]) (E : Exa Z h b C) (hC : "java/lang/String" ≠ C) (w : (Cond.instantiable C k).before a0 Z = true) : own_LS Z h' vm K := by
  obtain ⟨Ts, I, hT, hK⟩ := F
  refine ⟨Ts, I, hT, fun k hk => ?_⟩
  rcases hK k hk with q | ⟨a, t, q1, q2⟩
  · exact Or.inl q
  · obtain ⟨n1, n2⟩ := own_LatO q2 E hC w
    exact Or.inr ⟨a, t, q1, q2.keep kp (ninS n1 nin0) (ninS n2 nin0)⟩
theorem own_LS.ofvm (F : own_LS Z h vm K) (e : v1 = vm) : own_LS Z h v1 K := e ▸ F
set_option maxRecDepth 100000 in
theorem own_byteI : ∀ n : Nat, n < 256 → Jvm.Lit.byteI n.toUInt16 = (n.toInt32).toInt8.toInt32 := by decide +kernel
theorem own_txv {text : String} (h : ∀ c ∈ text.toList, c.toNat < 256) (i : Nat) (hi : i < text.toList.length) : (text.toList.map (fun c => Value.int (Jvm.Lit.byteI c.toNat.toUInt16))).getD i (.int 0) = .int ((own_tx text i).toInt8.toInt32) := by
  have q := h (text.toList[i]) (List.getElem_mem hi)
  simp only [List.getD_eq_getElem?_getD, List.getElem?_map, List.getElem?_eq_getElem hi, Option.map_some, Option.getD_some, own_tx]
  rw [own_byteI _ q]
theorem own_txr {text : String} (h : ∀ c ∈ text.toList, c.toNat < 256) (i : Nat) (hi : i < text.toList.length) : 0 ≤ (own_tx text i).toInt ∧ (own_tx text i).toInt ≤ 255 := by
  have q := h (text.toList[i]) (List.getElem_mem hi)
  simp only [own_tx, List.getD_eq_getElem?_getD, List.getElem?_eq_getElem hi, Option.getD_some]
  have := len_toInt (n := (text.toList[i]).toNat) (by omega)
  rw [this]; omega
theorem own_frm {n0 n1 : Nat} {L : List Loc} (h : n0 ≤ n1) (N : Fr n1 L) : Fr n0 L := fun y hy => Nat.le_trans h (N y hy)
/-- a literal is loaded -/
theorem own_ldL (X : Stand p l e R s m args below meth c T locs cells slots) (hx : p.tables.exec = Jvm.exec) (hZ : Z.Warmed39 s.vm) {own text : String} {index : Nat} (hown : s.vm.findClass own = some m.cls) (w : (Cond.stringLink own index text).before a0 Z = true) (wS : ∀ a ∈ Bundle.stringAtoms, a.before a0 Z = true)
    (eT : T.heap = h) (N : Fr s.heap.size locs) (hkeep : ∀ (b : Addr) (cl : Cell), Z.heap[b]? = some cl → s.heap[b]? = some cl) (F : own_LS Z h s.vm K) (hk : (own, index, text) ∈ K) (huq : ∀ k ∈ K, k.2.2 = text → k = (own, index, text)) (hh : Jvm.Lit.constHeld Z own index) (hcw : Jvm.Lit.compactW.before a0 Z = true)
    (ht : ∀ c ∈ text.toList, c.toNat < 256) {n : Nat} (hn : text.toList.length = n) (hlen : n < 134217728) {pc : Nat} {Ls : Array Slot} {rest : List Value} (hd : decode c.code pc = .ok (.ldc index, 2)) (hc : cells + 2 ≤ R.cells) (hl' : slots + (4 * n + 4) ≤ R.slots) (hsub : ∀ x ∈ K.map (fun k => k.2.2), x ∈ Q.2)
    (k : ∀ (a t : Addr) (T' : State) (h' : Heap) (s' : State), Stand p l e R s' m args below meth c T' locs (cells + 2) (slots + (4 * n + 4)) → Z.Warmed39 s'.vm → s'.vm.findClass own = some m.cls → T'.heap = h' → Ext h h' → s'.heap = s.heap → own_LS Z h' s'.vm K → Lit s' own index a →
      own_Lat Z h' a t n (own_tx text) → own_Ends p e below s' Q kc kn (T'.setTop (mkF m (pc + 2) Ls (.ref a :: rest)))) :
    own_Ends p e below s Q kc kn (T.setTop (mkF m pc Ls rest)) := by
  subst hn
  obtain ⟨Ts, I, hT, hK⟩ := F
  rcases hK _ hk with q | ⟨a, t, q1, q2⟩
  · have e1 : ((text.toList.length.toInt32)).toInt = (text.toList.length : Int) := len_toInt (by omega)
    have e2 := own_clamp e1
    refine own_ldc X hx hZ hown w wS eT N hkeep I q hh hcw (z := text.toList.length.toInt32) ⟨ht, rfl⟩ e2.1 (by rw [e2.2]; simp) hd (n := 4 * text.toList.length) (Nat.le_refl _) (by omega) hc hl' (fun x hx => ?_) ?_
    · rcases List.mem_cons.mp hx with rfl | hx
      · exact hsub _ (List.mem_map.mpr ⟨_, hk, rfl⟩)
      · exact hsub _ (hT x hx)
    · intro a T' h' s' b kk X' hZ' hown' e' E' hhp hvm hW I' L' x1 x2 x3 x4
      have A := own_ofArv x4 e2.2 (by omega)
      have Lt : own_Lat Z h' a b text.toList.length (own_tx text) := ⟨x1, x3, x2, A.congr fun i hi => own_txv ht i hi, own_txr ht⟩
      refine k a b T' h' s' X' hZ' hown' e' E' hhp ⟨text :: Ts, I', fun x hx => ?_, fun k hk' => ?_⟩ L' Lt
      · rcases List.mem_cons.mp hx with rfl | hx
        · exact List.mem_map.mpr ⟨_, hk, rfl⟩
        · exact hT x hx
      · by_cases z : k.2.2 = text
        · have := huq k hk' z
          subst this
          exact Or.inr ⟨a, b, L', Lt⟩
        · rcases hK k hk' with y | ⟨a', t', y1, y2⟩
          · exact Or.inl fun w => by
              rcases List.mem_cons.mp w with w | w
              · exact z w
              · exact y w
          · exact Or.inr ⟨a', t', State.resolvedAt?_warmed39 (s := s) hW y1, y2.ext E'⟩
  · exact own_ldcA X hx hZ hown w q1 hd (k a t T h s (own_SmonoW X (by omega) (by omega)) hZ hown eT ⟨Nat.le_refl _, fun _ _ q => q⟩ rfl ⟨Ts, I, hT, hK⟩ q1 q2)
end OwnLS
abbrev own_K0 : List (String × Nat × String) := [("com/example/assay_runner/assayrunner/report/BuildContinuesPinLaw", 13, "")]
def own_len (x : Int32) : Int32 := ((x.toUInt32 >>> ((16 : Int32) &&& 31).toUInt32).toInt32) % (3 : Int32)
theorem own_len3 (x : Int32) : 0 ≤ (own_len x).toInt ∧ (own_len x).toInt < 3 := by
  have h := c_iushr x 16 16 (by decide) (by decide)
  have r := rng32 x
  have q := (c_irem ((x.toUInt32 >>> ((16 : Int32) &&& 31).toUInt32).toInt32) 3 3 (by decide)).1 (by rw [h]; omega)
  unfold own_len
  rw [q]; omega
def own_nx (x : Int32) : Nat := (own_len x).toInt.toNat
theorem own_lnx (x : Int32) : (own_len x).toInt = (own_nx x : Int) := by have := own_len3 x; unfold own_nx; omega
def own_B (x : Int32) : Int32 := ((x.toUInt32 >>> ((8 : Int32) &&& 31).toUInt32).toInt32) &&& (255 : Int32)
def own_f (x : Int32) (i : Nat) : Int32 := if i = 0 then x &&& (255 : Int32) else own_B x
theorem own_255 (x : Int32) : 0 ≤ (x &&& (255 : Int32)).toInt ∧ (x &&& (255 : Int32)).toInt ≤ 255 := c_and x 255 (by decide)
theorem own_fr (x : Int32) (i : Nat) : 0 ≤ (own_f x i).toInt ∧ (own_f x i).toInt ≤ 255 := by
  unfold own_f own_B; split <;> exact own_255 _
theorem own_i2cs {x : Int32} (h : 0 ≤ x.toInt ∧ x.toInt ≤ 255) : x.toUInt32.toUInt16.toUInt32.toInt32 = x := by
  have q := c_i2c x
  rw [← Int32.toInt_inj]; omega
def own_sm (x y : Int32) : Prop := own_len x = own_len y ∧ (¬ own_len x < (1 : Int32) → (x &&& (255 : Int32)) = (y &&& (255 : Int32))) ∧ (¬ own_len x < (2 : Int32) → own_B x = own_B y)
theorem own_smP (x y : Int32) : own_sm x y ↔ own_eqs (own_nx x) (own_nx y) (own_f x) (own_f y) := by
  have hx := own_lnx x
  have hy := own_lnx y
  have h3 := own_len3 x
  have e1 : own_len x = own_len y ↔ own_nx x = own_nx y := by rw [← Int32.toInt_inj]; omega
  have e2 : ¬ own_len x < (1 : Int32) ↔ 1 ≤ own_nx x := by rw [Int32.lt_iff_toInt_lt]; simp only [Int32.reduceToInt]; omega
  have e3 : ¬ own_len x < (2 : Int32) ↔ 2 ≤ own_nx x := by rw [Int32.lt_iff_toInt_lt]; simp only [Int32.reduceToInt]; omega
  unfold own_sm own_eqs
  rw [e1, e2, e3]
  constructor
  · rintro ⟨h1, h2, h4⟩
    refine ⟨h1, fun i hi => ?_⟩
    unfold own_f
    by_cases q : i = 0
    · simp only [q, if_true]; exact h2 (by omega)
    · simp only [q, if_false]; exact h4 (by omega)
  · rintro ⟨h1, h2⟩
    refine ⟨h1, fun q => ?_, fun q => ?_⟩
    · have := h2 0 (by omega)
      simpa [own_f] using this
    · have := h2 1 (by omega)
      simpa [own_f] using this
def own_cr (e1 e2 e3 em : Int32) : Int32 := if e1 = 0 then (if em = 0 then (if e3 = 0 then 0 else 1) else 0) else e2
theorem own_lt2 {i : Nat} (h : i < 2) : i = 0 ∨ i = 1 := by omega
theorem own_d1_0 : decode method_3_code 0 = .ok (.iload_n 0, 1) := by decide +kernel
theorem own_d1_1 : decode method_3_code 1 = .ok (.invokestatic 7, 3) := by decide +kernel
theorem own_d1_4 : decode method_3_code 4 = .ok (.istore_n 1, 1) := by decide +kernel
theorem own_d1_5 : decode method_3_code 5 = .ok (.iload_n 0, 1) := by decide +kernel
theorem own_d1_6 : decode method_3_code 6 = .ok (.sipush 255, 3) := by decide +kernel
theorem own_d1_9 : decode method_3_code 9 = .ok (.iand, 1) := by decide +kernel
theorem own_d1_10 : decode method_3_code 10 = .ok (.i2c, 1) := by decide +kernel
theorem own_d1_11 : decode method_3_code 11 = .ok (.istore_n 2, 1) := by decide +kernel
theorem own_d1_12 : decode method_3_code 12 = .ok (.iload_n 0, 1) := by decide +kernel
theorem own_d1_13 : decode method_3_code 13 = .ok (.bipush 8, 2) := by decide +kernel
theorem own_d1_15 : decode method_3_code 15 = .ok (.iushr, 1) := by decide +kernel
theorem own_d1_16 : decode method_3_code 16 = .ok (.sipush 255, 3) := by decide +kernel
theorem own_d1_19 : decode method_3_code 19 = .ok (.iand, 1) := by decide +kernel
theorem own_d1_20 : decode method_3_code 20 = .ok (.i2c, 1) := by decide +kernel
theorem own_d1_21 : decode method_3_code 21 = .ok (.istore_n 3, 1) := by decide +kernel
theorem own_d1_22 : decode method_3_code 22 = .ok (.iload_n 1, 1) := by decide +kernel
theorem own_d1_23 : decode method_3_code 23 = .ok (.ifCond .ne 6, 3) := by decide +kernel
theorem own_d1_26 : decode method_3_code 26 = .ok (.ldc 13, 2) := by decide +kernel
theorem own_d1_28 : decode method_3_code 28 = .ok (.areturn, 1) := by decide +kernel
theorem own_d1_29 : decode method_3_code 29 = .ok (.iload_n 1, 1) := by decide +kernel
theorem own_d1_30 : decode method_3_code 30 = .ok (.iconst 1, 1) := by decide +kernel
theorem own_d1_31 : decode method_3_code 31 = .ok (.if_icmp .ne 8, 3) := by decide +kernel
theorem own_d1_34 : decode method_3_code 34 = .ok (.iload_n 2, 1) := by decide +kernel
theorem own_d1_35 : decode method_3_code 35 = .ok (.invokestatic 15, 3) := by decide +kernel
theorem own_d1_38 : decode method_3_code 38 = .ok (.areturn, 1) := by decide +kernel
theorem own_d1_39 : decode method_3_code 39 = .ok (.iconst 2, 1) := by decide +kernel
theorem own_d1_40 : decode method_3_code 40 = .ok (.newarray .char, 2) := by decide +kernel
theorem own_d1_42 : decode method_3_code 42 = .ok (.astore 4, 2) := by decide +kernel
theorem own_d1_44 : decode method_3_code 44 = .ok (.aload 4, 2) := by decide +kernel
theorem own_d1_46 : decode method_3_code 46 = .ok (.iconst 0, 1) := by decide +kernel
theorem own_d1_47 : decode method_3_code 47 = .ok (.iload_n 2, 1) := by decide +kernel
theorem own_d1_48 : decode method_3_code 48 = .ok (.castore, 1) := by decide +kernel
theorem own_d1_49 : decode method_3_code 49 = .ok (.aload 4, 2) := by decide +kernel
theorem own_d1_51 : decode method_3_code 51 = .ok (.iconst 1, 1) := by decide +kernel
theorem own_d1_52 : decode method_3_code 52 = .ok (.iload_n 3, 1) := by decide +kernel
theorem own_d1_53 : decode method_3_code 53 = .ok (.castore, 1) := by decide +kernel
theorem own_d1_54 : decode method_3_code 54 = .ok (.new 16, 3) := by decide +kernel
theorem own_d1_57 : decode method_3_code 57 = .ok (.dup, 1) := by decide +kernel
theorem own_d1_58 : decode method_3_code 58 = .ok (.aload 4, 2) := by decide +kernel
theorem own_d1_60 : decode method_3_code 60 = .ok (.invokespecial 21, 3) := by decide +kernel
theorem own_d1_63 : decode method_3_code 63 = .ok (.areturn, 1) := by decide +kernel
theorem own_d2_0 : decode method_2_code 0 = .ok (.iload_n 0, 1) := by decide +kernel
theorem own_d2_1 : decode method_2_code 1 = .ok (.bipush 16, 2) := by decide +kernel
theorem own_d2_3 : decode method_2_code 3 = .ok (.iushr, 1) := by decide +kernel
theorem own_d2_4 : decode method_2_code 4 = .ok (.iconst 3, 1) := by decide +kernel
theorem own_d2_5 : decode method_2_code 5 = .ok (.irem, 1) := by decide +kernel
theorem own_d2_6 : decode method_2_code 6 = .ok (.ireturn, 1) := by decide +kernel
theorem own_d3_0 : decode prog_57_method_1_code 0 = .ok (.aload_n 0, 1) := by decide +kernel
theorem own_d3_1 : decode prog_57_method_1_code 1 = .ok (.invokespecial 1, 3) := by decide +kernel
theorem own_d3_4 : decode prog_57_method_1_code 4 = .ok (.aload_n 0, 1) := by decide +kernel
theorem own_d3_5 : decode prog_57_method_1_code 5 = .ok (.aload_n 1, 1) := by decide +kernel
theorem own_d3_6 : decode prog_57_method_1_code 6 = .ok (.putfield 7, 3) := by decide +kernel
theorem own_d3_9 : decode prog_57_method_1_code 9 = .ok (.aload_n 0, 1) := by decide +kernel
theorem own_d3_10 : decode prog_57_method_1_code 10 = .ok (.aload_n 2, 1) := by decide +kernel
theorem own_d3_11 : decode prog_57_method_1_code 11 = .ok (.putfield 13, 3) := by decide +kernel
theorem own_d3_14 : decode prog_57_method_1_code 14 = .ok (.aload_n 0, 1) := by decide +kernel
theorem own_d3_15 : decode prog_57_method_1_code 15 = .ok (.aload_n 3, 1) := by decide +kernel
theorem own_d3_16 : decode prog_57_method_1_code 16 = .ok (.putfield 16, 3) := by decide +kernel
theorem own_d3_19 : decode prog_57_method_1_code 19 = .ok (.return_, 1) := by decide +kernel
theorem own_d4_0 : decode jdk_30_method_1_code 0 = .ok (.aload_n 0, 1) := by decide +kernel
theorem own_d4_1 : decode jdk_30_method_1_code 1 = .ok (.invokespecial 1, 3) := by decide +kernel
theorem own_d4_4 : decode jdk_30_method_1_code 4 = .ok (.return_, 1) := by decide +kernel
theorem own_d6_0 : decode method_4_code 0 = .ok (.iload_n 0, 1) := by decide +kernel
theorem own_d6_1 : decode method_4_code 1 = .ok (.invokestatic 7, 3) := by decide +kernel
theorem own_d6_4 : decode method_4_code 4 = .ok (.istore_n 2, 1) := by decide +kernel
theorem own_d6_5 : decode method_4_code 5 = .ok (.iload_n 2, 1) := by decide +kernel
theorem own_d6_6 : decode method_4_code 6 = .ok (.iload_n 1, 1) := by decide +kernel
theorem own_d6_7 : decode method_4_code 7 = .ok (.invokestatic 7, 3) := by decide +kernel
theorem own_d6_10 : decode method_4_code 10 = .ok (.if_icmp .eq 5, 3) := by decide +kernel
theorem own_d6_13 : decode method_4_code 13 = .ok (.iconst 0, 1) := by decide +kernel
theorem own_d6_14 : decode method_4_code 14 = .ok (.ireturn, 1) := by decide +kernel
theorem own_d6_15 : decode method_4_code 15 = .ok (.iload_n 2, 1) := by decide +kernel
theorem own_d6_16 : decode method_4_code 16 = .ok (.iconst 1, 1) := by decide +kernel
theorem own_d6_17 : decode method_4_code 17 = .ok (.if_icmp .lt 18, 3) := by decide +kernel
theorem own_d6_20 : decode method_4_code 20 = .ok (.iload_n 0, 1) := by decide +kernel
theorem own_d6_21 : decode method_4_code 21 = .ok (.sipush 255, 3) := by decide +kernel
theorem own_d6_24 : decode method_4_code 24 = .ok (.iand, 1) := by decide +kernel
theorem own_d6_25 : decode method_4_code 25 = .ok (.iload_n 1, 1) := by decide +kernel
theorem own_d6_26 : decode method_4_code 26 = .ok (.sipush 255, 3) := by decide +kernel
theorem own_d6_29 : decode method_4_code 29 = .ok (.iand, 1) := by decide +kernel
theorem own_d6_30 : decode method_4_code 30 = .ok (.if_icmp .eq 5, 3) := by decide +kernel
theorem own_d6_33 : decode method_4_code 33 = .ok (.iconst 0, 1) := by decide +kernel
theorem own_d6_34 : decode method_4_code 34 = .ok (.ireturn, 1) := by decide +kernel
theorem own_d6_35 : decode method_4_code 35 = .ok (.iload_n 2, 1) := by decide +kernel
theorem own_d6_36 : decode method_4_code 36 = .ok (.iconst 2, 1) := by decide +kernel
theorem own_d6_37 : decode method_4_code 37 = .ok (.if_icmp .lt 24, 3) := by decide +kernel
theorem own_d6_40 : decode method_4_code 40 = .ok (.iload_n 0, 1) := by decide +kernel
theorem own_d6_41 : decode method_4_code 41 = .ok (.bipush 8, 2) := by decide +kernel
theorem own_d6_43 : decode method_4_code 43 = .ok (.iushr, 1) := by decide +kernel
theorem own_d6_44 : decode method_4_code 44 = .ok (.sipush 255, 3) := by decide +kernel
theorem own_d6_47 : decode method_4_code 47 = .ok (.iand, 1) := by decide +kernel
theorem own_d6_48 : decode method_4_code 48 = .ok (.iload_n 1, 1) := by decide +kernel
theorem own_d6_49 : decode method_4_code 49 = .ok (.bipush 8, 2) := by decide +kernel
theorem own_d6_51 : decode method_4_code 51 = .ok (.iushr, 1) := by decide +kernel
theorem own_d6_52 : decode method_4_code 52 = .ok (.sipush 255, 3) := by decide +kernel
theorem own_d6_55 : decode method_4_code 55 = .ok (.iand, 1) := by decide +kernel
theorem own_d6_56 : decode method_4_code 56 = .ok (.if_icmp .eq 5, 3) := by decide +kernel
theorem own_d6_59 : decode method_4_code 59 = .ok (.iconst 0, 1) := by decide +kernel
theorem own_d6_60 : decode method_4_code 60 = .ok (.ireturn, 1) := by decide +kernel
theorem own_d6_61 : decode method_4_code 61 = .ok (.iconst 1, 1) := by decide +kernel
theorem own_d6_62 : decode method_4_code 62 = .ok (.ireturn, 1) := by decide +kernel
theorem own_d7_0 : decode prog_57_method_3_code 0 = .ok (.aload_n 0, 1) := by decide +kernel
theorem own_d7_1 : decode prog_57_method_3_code 1 = .ok (.getfield 7, 3) := by decide +kernel
theorem own_d7_4 : decode prog_57_method_3_code 4 = .ok (.aload_n 1, 1) := by decide +kernel
theorem own_d7_5 : decode prog_57_method_3_code 5 = .ok (.invokevirtual 52, 3) := by decide +kernel
theorem own_d7_8 : decode prog_57_method_3_code 8 = .ok (.invokevirtual 55, 3) := by decide +kernel
theorem own_d7_11 : decode prog_57_method_3_code 11 = .ok (.ifCond .eq 18, 3) := by decide +kernel
theorem own_d7_14 : decode prog_57_method_3_code 14 = .ok (.aload_n 0, 1) := by decide +kernel
theorem own_d7_15 : decode prog_57_method_3_code 15 = .ok (.getfield 13, 3) := by decide +kernel
theorem own_d7_18 : decode prog_57_method_3_code 18 = .ok (.aload_n 1, 1) := by decide +kernel
theorem own_d7_19 : decode prog_57_method_3_code 19 = .ok (.invokevirtual 59, 3) := by decide +kernel
theorem own_d7_22 : decode prog_57_method_3_code 22 = .ok (.invokevirtual 55, 3) := by decide +kernel
theorem own_d7_25 : decode prog_57_method_3_code 25 = .ok (.istore_n 2, 1) := by decide +kernel
theorem own_d7_26 : decode prog_57_method_3_code 26 = .ok (.goto 33, 3) := by decide +kernel
theorem own_d7_29 : decode prog_57_method_3_code 29 = .ok (.aload_n 0, 1) := by decide +kernel
theorem own_d7_30 : decode prog_57_method_3_code 30 = .ok (.getfield 16, 3) := by decide +kernel
theorem own_d7_33 : decode prog_57_method_3_code 33 = .ok (.invokevirtual 61, 3) := by decide +kernel
theorem own_d7_36 : decode prog_57_method_3_code 36 = .ok (.ifCond .ne 21, 3) := by decide +kernel
theorem own_d7_39 : decode prog_57_method_3_code 39 = .ok (.aload_n 0, 1) := by decide +kernel
theorem own_d7_40 : decode prog_57_method_3_code 40 = .ok (.getfield 16, 3) := by decide +kernel
theorem own_d7_43 : decode prog_57_method_3_code 43 = .ok (.aload_n 1, 1) := by decide +kernel
theorem own_d7_44 : decode prog_57_method_3_code 44 = .ok (.invokevirtual 65, 3) := by decide +kernel
theorem own_d7_47 : decode prog_57_method_3_code 47 = .ok (.invokevirtual 55, 3) := by decide +kernel
theorem own_d7_50 : decode prog_57_method_3_code 50 = .ok (.ifCond .eq 7, 3) := by decide +kernel
theorem own_d7_53 : decode prog_57_method_3_code 53 = .ok (.iconst 1, 1) := by decide +kernel
theorem own_d7_54 : decode prog_57_method_3_code 54 = .ok (.goto 4, 3) := by decide +kernel
theorem own_d7_57 : decode prog_57_method_3_code 57 = .ok (.iconst 0, 1) := by decide +kernel
theorem own_d7_58 : decode prog_57_method_3_code 58 = .ok (.istore_n 2, 1) := by decide +kernel
theorem own_d7_59 : decode prog_57_method_3_code 59 = .ok (.iload_n 2, 1) := by decide +kernel
theorem own_d7_60 : decode prog_57_method_3_code 60 = .ok (.ireturn, 1) := by decide +kernel
theorem own_d8_0 : decode prog_57_method_10_code 0 = .ok (.aload_n 0, 1) := by decide +kernel
theorem own_d8_1 : decode prog_57_method_10_code 1 = .ok (.getfield 7, 3) := by decide +kernel
theorem own_d8_4 : decode prog_57_method_10_code 4 = .ok (.areturn, 1) := by decide +kernel
theorem own_d9_0 : decode jdk_42_method_66_code 0 = .ok (.aload_n 0, 1) := by decide +kernel
theorem own_d9_1 : decode jdk_42_method_66_code 1 = .ok (.aload_n 1, 1) := by decide +kernel
theorem own_d9_2 : decode jdk_42_method_66_code 2 = .ok (.if_acmp .ne 5, 3) := by decide +kernel
theorem own_d9_5 : decode jdk_42_method_66_code 5 = .ok (.iconst 1, 1) := by decide +kernel
theorem own_d9_6 : decode jdk_42_method_66_code 6 = .ok (.ireturn, 1) := by decide +kernel
theorem own_d9_7 : decode jdk_42_method_66_code 7 = .ok (.aload_n 1, 1) := by decide +kernel
theorem own_d9_8 : decode jdk_42_method_66_code 8 = .ok (.instanceof 10, 3) := by decide +kernel
theorem own_d9_11 : decode jdk_42_method_66_code 11 = .ok (.ifCond .eq 43, 3) := by decide +kernel
theorem own_d9_14 : decode jdk_42_method_66_code 14 = .ok (.aload_n 1, 1) := by decide +kernel
theorem own_d9_15 : decode jdk_42_method_66_code 15 = .ok (.checkcast 10, 3) := by decide +kernel
theorem own_d9_18 : decode jdk_42_method_66_code 18 = .ok (.astore_n 2, 1) := by decide +kernel
theorem own_d9_19 : decode jdk_42_method_66_code 19 = .ok (.getstatic 38, 3) := by decide +kernel
theorem own_d9_22 : decode jdk_42_method_66_code 22 = .ok (.ifCond .eq 14, 3) := by decide +kernel
theorem own_d9_25 : decode jdk_42_method_66_code 25 = .ok (.aload_n 0, 1) := by decide +kernel
theorem own_d9_26 : decode jdk_42_method_66_code 26 = .ok (.getfield 15, 3) := by decide +kernel
theorem own_d9_29 : decode jdk_42_method_66_code 29 = .ok (.aload_n 2, 1) := by decide +kernel
theorem own_d9_30 : decode jdk_42_method_66_code 30 = .ok (.getfield 15, 3) := by decide +kernel
theorem own_d9_33 : decode jdk_42_method_66_code 33 = .ok (.if_icmp .ne 21, 3) := by decide +kernel
theorem own_d9_36 : decode jdk_42_method_66_code 36 = .ok (.aload_n 0, 1) := by decide +kernel
theorem own_d9_37 : decode jdk_42_method_66_code 37 = .ok (.getfield 9, 3) := by decide +kernel
theorem own_d9_40 : decode jdk_42_method_66_code 40 = .ok (.aload_n 2, 1) := by decide +kernel
theorem own_d9_41 : decode jdk_42_method_66_code 41 = .ok (.getfield 9, 3) := by decide +kernel
theorem own_d9_44 : decode jdk_42_method_66_code 44 = .ok (.invokestatic 541, 3) := by decide +kernel
theorem own_d9_47 : decode jdk_42_method_66_code 47 = .ok (.ifCond .eq 7, 3) := by decide +kernel
theorem own_d9_50 : decode jdk_42_method_66_code 50 = .ok (.iconst 1, 1) := by decide +kernel
theorem own_d9_51 : decode jdk_42_method_66_code 51 = .ok (.goto 4, 3) := by decide +kernel
theorem own_d9_54 : decode jdk_42_method_66_code 54 = .ok (.iconst 0, 1) := by decide +kernel
theorem own_d9_55 : decode jdk_42_method_66_code 55 = .ok (.ireturn, 1) := by decide +kernel
theorem own_d10_0 : decode prog_57_method_11_code 0 = .ok (.aload_n 0, 1) := by decide +kernel
theorem own_d10_1 : decode prog_57_method_11_code 1 = .ok (.getfield 13, 3) := by decide +kernel
theorem own_d10_4 : decode prog_57_method_11_code 4 = .ok (.areturn, 1) := by decide +kernel
theorem own_d11_0 : decode jdk_42_method_139_code 0 = .ok (.getstatic 38, 3) := by decide +kernel
theorem own_d11_3 : decode jdk_42_method_139_code 3 = .ok (.ifCond .eq 23, 3) := by decide +kernel
theorem own_d11_6 : decode jdk_42_method_139_code 6 = .ok (.iload_n 0, 1) := by decide +kernel
theorem own_d11_7 : decode jdk_42_method_139_code 7 = .ok (.invokestatic 1015, 3) := by decide +kernel
theorem own_d11_10 : decode jdk_42_method_139_code 10 = .ok (.ifCond .eq 16, 3) := by decide +kernel
theorem own_d11_13 : decode jdk_42_method_139_code 13 = .ok (.new 10, 3) := by decide +kernel
theorem own_d11_16 : decode jdk_42_method_139_code 16 = .ok (.dup, 1) := by decide +kernel
theorem own_d11_17 : decode jdk_42_method_139_code 17 = .ok (.iload_n 0, 1) := by decide +kernel
theorem own_d11_18 : decode jdk_42_method_139_code 18 = .ok (.invokestatic 1018, 3) := by decide +kernel
theorem own_d11_21 : decode jdk_42_method_139_code 21 = .ok (.iconst 0, 1) := by decide +kernel
theorem own_d11_22 : decode jdk_42_method_139_code 22 = .ok (.invokespecial 209, 3) := by decide +kernel
theorem own_d11_25 : decode jdk_42_method_139_code 25 = .ok (.areturn, 1) := by decide +kernel
theorem own_d12_0 : decode jdk_43_method_3_code 0 = .ok (.iload_n 0, 1) := by decide +kernel
theorem own_d12_1 : decode jdk_43_method_3_code 1 = .ok (.sipush 255, 3) := by decide +kernel
theorem own_d12_4 : decode jdk_43_method_3_code 4 = .ok (.if_icmp .gt 7, 3) := by decide +kernel
theorem own_d12_7 : decode jdk_43_method_3_code 7 = .ok (.iconst 1, 1) := by decide +kernel
theorem own_d12_8 : decode jdk_43_method_3_code 8 = .ok (.goto 4, 3) := by decide +kernel
theorem own_d12_12 : decode jdk_43_method_3_code 12 = .ok (.ireturn, 1) := by decide +kernel
theorem own_d13_0 : decode jdk_43_method_46_code 0 = .ok (.iconst 1, 1) := by decide +kernel
theorem own_d13_1 : decode jdk_43_method_46_code 1 = .ok (.newarray .byte, 2) := by decide +kernel
theorem own_d13_3 : decode jdk_43_method_46_code 3 = .ok (.dup, 1) := by decide +kernel
theorem own_d13_4 : decode jdk_43_method_46_code 4 = .ok (.iconst 0, 1) := by decide +kernel
theorem own_d13_5 : decode jdk_43_method_46_code 5 = .ok (.iload_n 0, 1) := by decide +kernel
theorem own_d13_6 : decode jdk_43_method_46_code 6 = .ok (.i2b, 1) := by decide +kernel
theorem own_d13_7 : decode jdk_43_method_46_code 7 = .ok (.bastore, 1) := by decide +kernel
theorem own_d13_8 : decode jdk_43_method_46_code 8 = .ok (.areturn, 1) := by decide +kernel
theorem own_d14_0 : decode jdk_42_method_151_code 0 = .ok (.aload_n 0, 1) := by decide +kernel
theorem own_d14_1 : decode jdk_42_method_151_code 1 = .ok (.invokespecial 1, 3) := by decide +kernel
theorem own_d14_4 : decode jdk_42_method_151_code 4 = .ok (.aload_n 0, 1) := by decide +kernel
theorem own_d14_5 : decode jdk_42_method_151_code 5 = .ok (.aload_n 1, 1) := by decide +kernel
theorem own_d14_6 : decode jdk_42_method_151_code 6 = .ok (.putfield 9, 3) := by decide +kernel
theorem own_d14_9 : decode jdk_42_method_151_code 9 = .ok (.aload_n 0, 1) := by decide +kernel
theorem own_d14_10 : decode jdk_42_method_151_code 10 = .ok (.iload_n 2, 1) := by decide +kernel
theorem own_d14_11 : decode jdk_42_method_151_code 11 = .ok (.putfield 15, 3) := by decide +kernel
theorem own_d14_14 : decode jdk_42_method_151_code 14 = .ok (.return_, 1) := by decide +kernel
theorem own_d15_0 : decode jdk_42_method_3_code 0 = .ok (.aload_n 0, 1) := by decide +kernel
theorem own_d15_1 : decode jdk_42_method_3_code 1 = .ok (.aload_n 1, 1) := by decide +kernel
theorem own_d15_2 : decode jdk_42_method_3_code 2 = .ok (.iconst 0, 1) := by decide +kernel
theorem own_d15_3 : decode jdk_42_method_3_code 3 = .ok (.aload_n 1, 1) := by decide +kernel
theorem own_d15_4 : decode jdk_42_method_3_code 4 = .ok (.arraylength, 1) := by decide +kernel
theorem own_d15_5 : decode jdk_42_method_3_code 5 = .ok (.aconst_null, 1) := by decide +kernel
theorem own_d15_6 : decode jdk_42_method_3_code 6 = .ok (.invokespecial 27, 3) := by decide +kernel
theorem own_d15_9 : decode jdk_42_method_3_code 9 = .ok (.return_, 1) := by decide +kernel
theorem own_d16_0 : decode jdk_42_method_149_code 0 = .ok (.aload_n 0, 1) := by decide +kernel
theorem own_d16_1 : decode jdk_42_method_149_code 1 = .ok (.invokespecial 1, 3) := by decide +kernel
theorem own_d16_4 : decode jdk_42_method_149_code 4 = .ok (.iload_n 3, 1) := by decide +kernel
theorem own_d16_5 : decode jdk_42_method_149_code 5 = .ok (.ifCond .ne 22, 3) := by decide +kernel
theorem own_d16_27 : decode jdk_42_method_149_code 27 = .ok (.getstatic 38, 3) := by decide +kernel
theorem own_d16_30 : decode jdk_42_method_149_code 30 = .ok (.ifCond .eq 28, 3) := by decide +kernel
theorem own_d16_33 : decode jdk_42_method_149_code 33 = .ok (.aload_n 1, 1) := by decide +kernel
theorem own_d16_34 : decode jdk_42_method_149_code 34 = .ok (.iload_n 2, 1) := by decide +kernel
theorem own_d16_35 : decode jdk_42_method_149_code 35 = .ok (.iload_n 3, 1) := by decide +kernel
theorem own_d16_36 : decode jdk_42_method_149_code 36 = .ok (.invokestatic 177, 3) := by decide +kernel
theorem own_d16_39 : decode jdk_42_method_149_code 39 = .ok (.astore 5, 2) := by decide +kernel
theorem own_d16_41 : decode jdk_42_method_149_code 41 = .ok (.aload_n 0, 1) := by decide +kernel
theorem own_d16_42 : decode jdk_42_method_149_code 42 = .ok (.aload 5, 2) := by decide +kernel
theorem own_d16_44 : decode jdk_42_method_149_code 44 = .ok (.iload_n 3, 1) := by decide +kernel
theorem own_d16_45 : decode jdk_42_method_149_code 45 = .ok (.invokestatic 47, 3) := by decide +kernel
theorem own_d16_48 : decode jdk_42_method_149_code 48 = .ok (.putfield 15, 3) := by decide +kernel
theorem own_d16_51 : decode jdk_42_method_149_code 51 = .ok (.aload_n 0, 1) := by decide +kernel
theorem own_d16_52 : decode jdk_42_method_149_code 52 = .ok (.aload 5, 2) := by decide +kernel
theorem own_d16_54 : decode jdk_42_method_149_code 54 = .ok (.putfield 9, 3) := by decide +kernel
theorem own_d16_57 : decode jdk_42_method_149_code 57 = .ok (.return_, 1) := by decide +kernel
theorem own_d17_0 : decode jdk_52_method_16_code 0 = .ok (.iload_n 2, 1) := by decide +kernel
theorem own_d17_1 : decode jdk_52_method_16_code 1 = .ok (.newarray .byte, 2) := by decide +kernel
theorem own_d17_3 : decode jdk_52_method_16_code 3 = .ok (.astore_n 3, 1) := by decide +kernel
theorem own_d17_4 : decode jdk_52_method_16_code 4 = .ok (.aload_n 0, 1) := by decide +kernel
theorem own_d17_5 : decode jdk_52_method_16_code 5 = .ok (.iload_n 1, 1) := by decide +kernel
theorem own_d17_6 : decode jdk_52_method_16_code 6 = .ok (.aload_n 3, 1) := by decide +kernel
theorem own_d17_7 : decode jdk_52_method_16_code 7 = .ok (.iconst 0, 1) := by decide +kernel
theorem own_d17_8 : decode jdk_52_method_16_code 8 = .ok (.iload_n 2, 1) := by decide +kernel
theorem own_d17_9 : decode jdk_52_method_16_code 9 = .ok (.invokestatic 115, 3) := by decide +kernel
theorem own_d17_12 : decode jdk_52_method_16_code 12 = .ok (.istore 4, 2) := by decide +kernel
theorem own_d17_14 : decode jdk_52_method_16_code 14 = .ok (.iload 4, 2) := by decide +kernel
theorem own_d17_16 : decode jdk_52_method_16_code 16 = .ok (.iload_n 2, 1) := by decide +kernel
theorem own_d17_17 : decode jdk_52_method_16_code 17 = .ok (.if_icmp .eq 40, 3) := by decide +kernel
theorem own_d17_57 : decode jdk_52_method_16_code 57 = .ok (.aload_n 3, 1) := by decide +kernel
theorem own_d17_58 : decode jdk_52_method_16_code 58 = .ok (.areturn, 1) := by decide +kernel
theorem own_d18_0 : decode jdk_52_method_21_code 0 = .ok (.iconst 0, 1) := by decide +kernel
theorem own_d18_1 : decode jdk_52_method_21_code 1 = .ok (.istore 5, 2) := by decide +kernel
theorem own_d18_3 : decode jdk_52_method_21_code 3 = .ok (.iload 5, 2) := by decide +kernel
theorem own_d18_5 : decode jdk_52_method_21_code 5 = .ok (.iload 4, 2) := by decide +kernel
theorem own_d18_7 : decode jdk_52_method_21_code 7 = .ok (.if_icmp .ge 37, 3) := by decide +kernel
theorem own_d18_10 : decode jdk_52_method_21_code 10 = .ok (.aload_n 0, 1) := by decide +kernel
theorem own_d18_11 : decode jdk_52_method_21_code 11 = .ok (.iload_n 1, 1) := by decide +kernel
theorem own_d18_12 : decode jdk_52_method_21_code 12 = .ok (.caload, 1) := by decide +kernel
theorem own_d18_13 : decode jdk_52_method_21_code 13 = .ok (.istore 6, 2) := by decide +kernel
theorem own_d18_15 : decode jdk_52_method_21_code 15 = .ok (.iload 6, 2) := by decide +kernel
theorem own_d18_17 : decode jdk_52_method_21_code 17 = .ok (.sipush 255, 3) := by decide +kernel
theorem own_d18_20 : decode jdk_52_method_21_code 20 = .ok (.if_icmp .le 6, 3) := by decide +kernel
theorem own_d18_26 : decode jdk_52_method_21_code 26 = .ok (.aload_n 2, 1) := by decide +kernel
theorem own_d18_27 : decode jdk_52_method_21_code 27 = .ok (.iload_n 3, 1) := by decide +kernel
theorem own_d18_28 : decode jdk_52_method_21_code 28 = .ok (.iload 6, 2) := by decide +kernel
theorem own_d18_30 : decode jdk_52_method_21_code 30 = .ok (.i2b, 1) := by decide +kernel
theorem own_d18_31 : decode jdk_52_method_21_code 31 = .ok (.bastore, 1) := by decide +kernel
theorem own_d18_32 : decode jdk_52_method_21_code 32 = .ok (.iinc 1 1, 3) := by decide +kernel
theorem own_d18_35 : decode jdk_52_method_21_code 35 = .ok (.iinc 3 1, 3) := by decide +kernel
theorem own_d18_38 : decode jdk_52_method_21_code 38 = .ok (.iinc 5 1, 3) := by decide +kernel
theorem own_d18_41 : decode jdk_52_method_21_code 41 = .ok (.goto (-38), 3) := by decide +kernel
theorem own_d18_44 : decode jdk_52_method_21_code 44 = .ok (.iload 4, 2) := by decide +kernel
theorem own_d18_46 : decode jdk_52_method_21_code 46 = .ok (.ireturn, 1) := by decide +kernel
theorem own_d19_0 : decode jdk_52_method_15_code 0 = .ok (.iload_n 1, 1) := by decide +kernel
theorem own_d19_1 : decode jdk_52_method_15_code 1 = .ok (.aload_n 0, 1) := by decide +kernel
theorem own_d19_2 : decode jdk_52_method_15_code 2 = .ok (.arraylength, 1) := by decide +kernel
theorem own_d19_3 : decode jdk_52_method_15_code 3 = .ok (.isub, 1) := by decide +kernel
theorem own_d19_4 : decode jdk_52_method_15_code 4 = .ok (.bipush 31, 2) := by decide +kernel
theorem own_d19_6 : decode jdk_52_method_15_code 6 = .ok (.iushr, 1) := by decide +kernel
theorem own_d19_7 : decode jdk_52_method_15_code 7 = .ok (.i2b, 1) := by decide +kernel
theorem own_d19_8 : decode jdk_52_method_15_code 8 = .ok (.ireturn, 1) := by decide +kernel
theorem own_d20_0 : decode jdk_43_method_13_code 0 = .ok (.aload_n 0, 1) := by decide +kernel
theorem own_d20_1 : decode jdk_43_method_13_code 1 = .ok (.arraylength, 1) := by decide +kernel
theorem own_d20_2 : decode jdk_43_method_13_code 2 = .ok (.aload_n 1, 1) := by decide +kernel
theorem own_d20_3 : decode jdk_43_method_13_code 3 = .ok (.arraylength, 1) := by decide +kernel
theorem own_d20_4 : decode jdk_43_method_13_code 4 = .ok (.if_icmp .ne 30, 3) := by decide +kernel
theorem own_d20_7 : decode jdk_43_method_13_code 7 = .ok (.iconst 0, 1) := by decide +kernel
theorem own_d20_8 : decode jdk_43_method_13_code 8 = .ok (.istore_n 2, 1) := by decide +kernel
theorem own_d20_9 : decode jdk_43_method_13_code 9 = .ok (.iload_n 2, 1) := by decide +kernel
theorem own_d20_10 : decode jdk_43_method_13_code 10 = .ok (.aload_n 0, 1) := by decide +kernel
theorem own_d20_11 : decode jdk_43_method_13_code 11 = .ok (.arraylength, 1) := by decide +kernel
theorem own_d20_12 : decode jdk_43_method_13_code 12 = .ok (.if_icmp .ge 20, 3) := by decide +kernel
theorem own_d20_15 : decode jdk_43_method_13_code 15 = .ok (.aload_n 0, 1) := by decide +kernel
theorem own_d20_16 : decode jdk_43_method_13_code 16 = .ok (.iload_n 2, 1) := by decide +kernel
theorem own_d20_17 : decode jdk_43_method_13_code 17 = .ok (.baload, 1) := by decide +kernel
theorem own_d20_18 : decode jdk_43_method_13_code 18 = .ok (.aload_n 1, 1) := by decide +kernel
theorem own_d20_19 : decode jdk_43_method_13_code 19 = .ok (.iload_n 2, 1) := by decide +kernel
theorem own_d20_20 : decode jdk_43_method_13_code 20 = .ok (.baload, 1) := by decide +kernel
theorem own_d20_21 : decode jdk_43_method_13_code 21 = .ok (.if_icmp .eq 5, 3) := by decide +kernel
theorem own_d20_24 : decode jdk_43_method_13_code 24 = .ok (.iconst 0, 1) := by decide +kernel
theorem own_d20_25 : decode jdk_43_method_13_code 25 = .ok (.ireturn, 1) := by decide +kernel
theorem own_d20_26 : decode jdk_43_method_13_code 26 = .ok (.iinc 2 1, 3) := by decide +kernel
theorem own_d20_29 : decode jdk_43_method_13_code 29 = .ok (.goto (-20), 3) := by decide +kernel
theorem own_d20_32 : decode jdk_43_method_13_code 32 = .ok (.iconst 1, 1) := by decide +kernel
theorem own_d20_33 : decode jdk_43_method_13_code 33 = .ok (.ireturn, 1) := by decide +kernel
theorem own_d20_34 : decode jdk_43_method_13_code 34 = .ok (.iconst 0, 1) := by decide +kernel
theorem own_d20_35 : decode jdk_43_method_13_code 35 = .ok (.ireturn, 1) := by decide +kernel
theorem own_d21_0 : decode jdk_42_method_55_code 0 = .ok (.aload_n 0, 1) := by decide +kernel
theorem own_d21_1 : decode jdk_42_method_55_code 1 = .ok (.getfield 9, 3) := by decide +kernel
theorem own_d21_4 : decode jdk_42_method_55_code 4 = .ok (.arraylength, 1) := by decide +kernel
theorem own_d21_5 : decode jdk_42_method_55_code 5 = .ok (.ifCond .ne 7, 3) := by decide +kernel
theorem own_d21_8 : decode jdk_42_method_55_code 8 = .ok (.iconst 1, 1) := by decide +kernel
theorem own_d21_9 : decode jdk_42_method_55_code 9 = .ok (.goto 4, 3) := by decide +kernel
theorem own_d21_12 : decode jdk_42_method_55_code 12 = .ok (.iconst 0, 1) := by decide +kernel
theorem own_d21_13 : decode jdk_42_method_55_code 13 = .ok (.ireturn, 1) := by decide +kernel
theorem own_d22_0 : decode prog_57_method_12_code 0 = .ok (.aload_n 0, 1) := by decide +kernel
theorem own_d22_1 : decode prog_57_method_12_code 1 = .ok (.getfield 16, 3) := by decide +kernel
theorem own_d22_4 : decode prog_57_method_12_code 4 = .ok (.areturn, 1) := by decide +kernel
theorem own_pn0 : plainFor (⟨"com/example/assay_runner/assayrunner/report/BuildContinuesPinLaw", "len", "(I)I"⟩ : MethodName) = true := by first | exact plainFor_of_name (by first | (simp [plainName, overriddenIn]; done) | decide +kernel) | decide +kernel
theorem own_pn1 : plainFor (⟨"com/example/assay_runner/assayrunner/report/BuildContinuesPinLaw", "same", "(II)Z"⟩ : MethodName) = true := by first | exact plainFor_of_name (by first | (simp [plainName, overriddenIn]; done) | decide +kernel) | decide +kernel
theorem own_pn2 : plainFor (⟨"java/lang/StringLatin1", "canEncode", "(C)Z"⟩ : MethodName) = true := by first | exact plainFor_of_name (by first | (simp [plainName, overriddenIn]; done) | decide +kernel) | decide +kernel
theorem own_pn3 : plainFor (⟨"java/lang/StringLatin1", "toBytes", "(C)[B"⟩ : MethodName) = true := by first | exact plainFor_of_name (by first | (simp [plainName, overriddenIn]; done) | decide +kernel) | decide +kernel
theorem own_pn4 : plainFor (⟨"java/lang/String", "<init>", "([BB)V"⟩ : MethodName) = true := by first | exact plainFor_of_name (by first | (simp [plainName, overriddenIn]; done) | decide +kernel) | decide +kernel
theorem own_pn5 : plainFor (⟨"java/lang/String", "valueOf", "(C)Ljava/lang/String;"⟩ : MethodName) = true := by first | exact plainFor_of_name (by first | (simp [plainName, overriddenIn]; done) | decide +kernel) | decide +kernel
theorem own_pn6 : plainFor (⟨"java/lang/StringUTF16", "compress", "([CI[BII)I"⟩ : MethodName) = true := by first | exact plainFor_of_name (by first | (simp [plainName, overriddenIn]; done) | decide +kernel) | decide +kernel
theorem own_pn7 : plainFor (⟨"java/lang/StringUTF16", "compress", "([CII)[B"⟩ : MethodName) = true := by first | exact plainFor_of_name (by first | (simp [plainName, overriddenIn]; done) | decide +kernel) | decide +kernel
theorem own_pn8 : plainFor (⟨"java/lang/StringUTF16", "coderFromArrayLen", "([BI)B"⟩ : MethodName) = true := by first | exact plainFor_of_name (by first | (simp [plainName, overriddenIn]; done) | decide +kernel) | decide +kernel
theorem own_pn9 : plainFor (⟨"java/lang/String", "<init>", "([CIILjava/lang/Void;)V"⟩ : MethodName) = true := by first | exact plainFor_of_name (by first | (simp [plainName, overriddenIn]; done) | decide +kernel) | decide +kernel
theorem own_pn10 : plainFor (⟨"java/lang/String", "<init>", "([C)V"⟩ : MethodName) = true := by first | exact plainFor_of_name (by first | (simp [plainName, overriddenIn]; done) | decide +kernel) | decide +kernel
theorem own_pn11 : plainFor (⟨"java/lang/StringLatin1", "equals", "([B[B)Z"⟩ : MethodName) = true := by first | exact plainFor_of_name (by first | (simp [plainName, overriddenIn]; done) | decide +kernel) | decide +kernel
theorem own_pn12 : plainFor (⟨"java/lang/String", "equals", "(Ljava/lang/Object;)Z"⟩ : MethodName) = true := by first | exact plainFor_of_name (by first | (simp [plainName, overriddenIn]; done) | decide +kernel) | decide +kernel
theorem own_pn13 : plainFor (⟨"java/lang/String", "isEmpty", "()Z"⟩ : MethodName) = true := by first | exact plainFor_of_name (by first | (simp [plainName, overriddenIn]; done) | decide +kernel) | decide +kernel
theorem own_pn14 : plainFor (⟨"java/lang/Record", "<init>", "()V"⟩ : MethodName) = true := by first | exact plainFor_of_name (by first | (simp [plainName, overriddenIn]; done) | decide +kernel) | decide +kernel
theorem own_pn15 : plainFor (⟨"com/example/assay_runner/assayrunner/report/Build", "<init>", "(Ljava/lang/String;Ljava/lang/String;Ljava/lang/String;)V"⟩ : MethodName) = true := by first | exact plainFor_of_name (by first | (simp [plainName, overriddenIn]; done) | decide +kernel) | decide +kernel
theorem own_pn16 : plainFor (⟨"com/example/assay_runner/assayrunner/report/Build", "jvm", "()Ljava/lang/String;"⟩ : MethodName) = true := by first | exact plainFor_of_name (by first | (simp [plainName, overriddenIn]; done) | decide +kernel) | decide +kernel
theorem own_pn17 : plainFor (⟨"com/example/assay_runner/assayrunner/report/Build", "session", "()Ljava/lang/String;"⟩ : MethodName) = true := by first | exact plainFor_of_name (by first | (simp [plainName, overriddenIn]; done) | decide +kernel) | decide +kernel
theorem own_pn18 : plainFor (⟨"com/example/assay_runner/assayrunner/report/Build", "forkedBy", "()Ljava/lang/String;"⟩ : MethodName) = true := by first | exact plainFor_of_name (by first | (simp [plainName, overriddenIn]; done) | decide +kernel) | decide +kernel
theorem own_pn19 : plainFor (⟨"com/example/assay_runner/assayrunner/report/Build", "continues", "(Lcom/example/assay_runner/assayrunner/report/Build;)Z"⟩ : MethodName) = true := by first | exact plainFor_of_name (by first | (simp [plainName, overriddenIn]; done) | decide +kernel) | decide +kernel
theorem own_pn20 : plainFor (⟨"com/example/assay_runner/assayrunner/report/BuildContinuesPinLaw", "str", "(I)Ljava/lang/String;"⟩ : MethodName) = true := by first | exact plainFor_of_name (by first | (simp [plainName, overriddenIn]; done) | decide +kernel) | decide +kernel
theorem own_pn21 : plainFor (⟨"com/example/assay_runner/assayrunner/report/BuildContinuesPinLaw", "law", "(IIIIII)Z"⟩ : MethodName) = true := by first | exact plainFor_of_name (by first | (simp [plainName, overriddenIn]; done) | decide +kernel) | decide +kernel
theorem own_pd0 : parseMethodDescriptor "(I)I" = some ⟨[.int], some .int⟩ := by decide +kernel
theorem own_pd1 : parseMethodDescriptor "(C)Z" = some ⟨[.char], some .boolean⟩ := by decide +kernel
theorem own_pd2 : parseMethodDescriptor "(C)[B" = some ⟨[.char], some (.array .byte)⟩ := by decide +kernel
theorem own_pd3 : parseMethodDescriptor "([BB)V" = some ⟨[(.array .byte), .byte], none⟩ := by decide +kernel
theorem own_pd4 : parseMethodDescriptor "([CI[BII)I" = some ⟨[(.array .char), .int, (.array .byte), .int, .int], some .int⟩ := by decide +kernel
theorem own_pd5 : parseMethodDescriptor "([CII)[B" = some ⟨[(.array .char), .int, .int], some (.array .byte)⟩ := by decide +kernel
theorem own_pd6 : parseMethodDescriptor "([BI)B" = some ⟨[(.array .byte), .int], some .byte⟩ := by decide +kernel
theorem own_pd7 : parseMethodDescriptor "([CIILjava/lang/Void;)V" = some ⟨[(.array .char), .int, .int, (.object "java/lang/Void")], none⟩ := by decide +kernel
theorem own_pd8 : parseMethodDescriptor "([B[B)Z" = some ⟨[(.array .byte), (.array .byte)], some .boolean⟩ := by decide +kernel
theorem own_pd9 : parseMethodDescriptor "()V" = some ⟨[], none⟩ := by decide +kernel
theorem own_pd10 : parseMethodDescriptor "()Ljava/lang/String;" = some ⟨[], some (.object "java/lang/String")⟩ := by decide +kernel
theorem own_pd11 : parseMethodDescriptor "(Ljava/lang/Object;)Z" = some ⟨[(.object "java/lang/Object")], some .boolean⟩ := by decide +kernel
theorem own_pd12 : parseMethodDescriptor "()Z" = some ⟨[], some .boolean⟩ := by decide +kernel
theorem own_pd13 : parseMethodDescriptor "(C)Ljava/lang/String;" = some ⟨[.char], some (.object "java/lang/String")⟩ := by decide +kernel
theorem own_pd14 : parseMethodDescriptor "([C)V" = some ⟨[(.array .char)], none⟩ := by decide +kernel
theorem own_pd15 : parseMethodDescriptor "(I)Ljava/lang/String;" = some ⟨[.int], some (.object "java/lang/String")⟩ := by decide +kernel
theorem own_pd16 : parseMethodDescriptor "(Ljava/lang/String;Ljava/lang/String;Ljava/lang/String;)V" = some ⟨[(.object "java/lang/String"), (.object "java/lang/String"), (.object "java/lang/String")], none⟩ := by decide +kernel
theorem own_pd17 : parseMethodDescriptor "(II)Z" = some ⟨[.int, .int], some .boolean⟩ := by decide +kernel
theorem own_pd18 : parseMethodDescriptor "(Lcom/example/assay_runner/assayrunner/report/Build;)Z" = some ⟨[(.object "com/example/assay_runner/assayrunner/report/Build")], some .boolean⟩ := by decide +kernel
theorem own_ef_own_lenC (m : MethodId) (x0 : Int32) : entryFrame m #[(.int x0)] 1 = mkF m 0 #[iv x0] [] := by first | (simp [entryFrame, mkF, argsToLocals, Value.category]; done) | rfl
theorem own_ef_own_same (m : MethodId) (x0 : Int32) (x1 : Int32) : entryFrame m #[(.int x0), (.int x1)] 3 = mkF m 0 #[iv x0, iv x1, .unset] [] := by first | (simp [entryFrame, mkF, argsToLocals, Value.category]; done) | rfl
theorem own_ef_own_ce (m : MethodId) (x0 : Int32) : entryFrame m #[(.int x0)] 1 = mkF m 0 #[iv x0] [] := by first | (simp [entryFrame, mkF, argsToLocals, Value.category]; done) | rfl
theorem own_ef_own_tb (m : MethodId) (x0 : Int32) : entryFrame m #[(.int x0)] 1 = mkF m 0 #[iv x0] [] := by first | (simp [entryFrame, mkF, argsToLocals, Value.category]; done) | rfl
theorem own_ef_own_sb (m : MethodId) (x0 : Addr) (x1 : Addr) (x2 : Int32) : entryFrame m #[(.ref x0), (.ref x1), (.int x2)] 3 = mkF m 0 #[rv x0, rv x1, iv x2] [] := by first | (simp [entryFrame, mkF, argsToLocals, Value.category]; done) | rfl
theorem own_ef_own_vo (m : MethodId) (x0 : Int32) : entryFrame m #[(.int x0)] 1 = mkF m 0 #[iv x0] [] := by first | (simp [entryFrame, mkF, argsToLocals, Value.category]; done) | rfl
theorem own_ef_own_cmp2 (m : MethodId) (x0 : Addr) (x1 : Int32) (x2 : Addr) (x3 : Int32) (x4 : Int32) : entryFrame m #[(.ref x0), (.int x1), (.ref x2), (.int x3), (.int x4)] 7 = mkF m 0 #[rv x0, iv x1, rv x2, iv x3, iv x4, .unset, .unset] [] := by first | (simp [entryFrame, mkF, argsToLocals, Value.category]; done) | rfl
theorem own_ef_own_cmp1 (m : MethodId) (x0 : Addr) (x1 : Int32) (x2 : Int32) : entryFrame m #[(.ref x0), (.int x1), (.int x2)] 6 = mkF m 0 #[rv x0, iv x1, iv x2, .unset, .unset, .unset] [] := by first | (simp [entryFrame, mkF, argsToLocals, Value.category]; done) | rfl
theorem own_ef_own_cfl (m : MethodId) (x0 : Addr) (x1 : Int32) : entryFrame m #[(.ref x0), (.int x1)] 2 = mkF m 0 #[rv x0, iv x1] [] := by first | (simp [entryFrame, mkF, argsToLocals, Value.category]; done) | rfl
theorem own_ef_own_si4 (m : MethodId) (x0 : Addr) (x1 : Addr) (x2 : Int32) (x3 : Int32) : entryFrame m #[(.ref x0), (.ref x1), (.int x2), (.int x3), .null] 6 = mkF m 0 #[rv x0, rv x1, iv x2, iv x3, .val .null, .unset] [] := by first | (simp [entryFrame, mkF, argsToLocals, Value.category]; done) | rfl
theorem own_ef_own_si (m : MethodId) (x0 : Addr) (x1 : Addr) : entryFrame m #[(.ref x0), (.ref x1)] 2 = mkF m 0 #[rv x0, rv x1] [] := by first | (simp [entryFrame, mkF, argsToLocals, Value.category]; done) | rfl
theorem own_ef_own_eq2 (m : MethodId) (x0 : Addr) (x1 : Addr) : entryFrame m #[(.ref x0), (.ref x1)] 3 = mkF m 0 #[rv x0, rv x1, .unset] [] := by first | (simp [entryFrame, mkF, argsToLocals, Value.category]; done) | rfl
theorem own_ef_own_seq (m : MethodId) (x0 : Addr) (x1 : Addr) : entryFrame m #[(.ref x0), (.ref x1)] 3 = mkF m 0 #[rv x0, rv x1, .unset] [] := by first | (simp [entryFrame, mkF, argsToLocals, Value.category]; done) | rfl
theorem own_ef_own_ie (m : MethodId) (x0 : Addr) : entryFrame m #[(.ref x0)] 1 = mkF m 0 #[rv x0] [] := by first | (simp [entryFrame, mkF, argsToLocals, Value.category]; done) | rfl
theorem own_ef_own_rec (m : MethodId) (x0 : Addr) : entryFrame m #[(.ref x0)] 1 = mkF m 0 #[rv x0] [] := by first | (simp [entryFrame, mkF, argsToLocals, Value.category]; done) | rfl
theorem own_ef_own_bi (m : MethodId) (x0 : Addr) (x1 : Addr) (x2 : Addr) (x3 : Addr) : entryFrame m #[(.ref x0), (.ref x1), (.ref x2), (.ref x3)] 4 = mkF m 0 #[rv x0, rv x1, rv x2, rv x3] [] := by first | (simp [entryFrame, mkF, argsToLocals, Value.category]; done) | rfl
theorem own_ef_own_get_jvm (m : MethodId) (x0 : Addr) : entryFrame m #[(.ref x0)] 1 = mkF m 0 #[rv x0] [] := by first | (simp [entryFrame, mkF, argsToLocals, Value.category]; done) | rfl
theorem own_ef_own_get_session (m : MethodId) (x0 : Addr) : entryFrame m #[(.ref x0)] 1 = mkF m 0 #[rv x0] [] := by first | (simp [entryFrame, mkF, argsToLocals, Value.category]; done) | rfl
theorem own_ef_own_get_forkedBy (m : MethodId) (x0 : Addr) : entryFrame m #[(.ref x0)] 1 = mkF m 0 #[rv x0] [] := by first | (simp [entryFrame, mkF, argsToLocals, Value.category]; done) | rfl
theorem own_ef_own_con (m : MethodId) (x0 : Addr) (x1 : Addr) : entryFrame m #[(.ref x0), (.ref x1)] 3 = mkF m 0 #[rv x0, rv x1, .unset] [] := by first | (simp [entryFrame, mkF, argsToLocals, Value.category]; done) | rfl
theorem own_ef_own_str (m : MethodId) (x0 : Int32) : entryFrame m #[(.int x0)] 5 = mkF m 0 #[iv x0, .unset, .unset, .unset, .unset] [] := by first | (simp [entryFrame, mkF, argsToLocals, Value.category]; done) | rfl
theorem own_ef_own_law (m : MethodId) (x0 : Int32) (x1 : Int32) (x2 : Int32) (x3 : Int32) (x4 : Int32) (x5 : Int32) : entryFrame m #[(.int x0), (.int x1), (.int x2), (.int x3), (.int x4), (.int x5)] maxLocals = mkF m 0 #[iv x0, iv x1, iv x2, iv x3, iv x4, iv x5, .unset, .unset, .unset] [] := by first | (simp [entryFrame, mkF, argsToLocals, Value.category, maxLocals]; done) | rfl
theorem own_wS {a0 : Array Value} {Z : State} (hw : ∀ d ∈ tables_1, d.before a0 Z = true) : ∀ a ∈ Bundle.stringAtoms, a.before a0 Z = true := by
  intro a ha
  simp only [Bundle.stringAtoms, List.mem_cons, List.not_mem_nil, or_false] at ha
  rcases ha with rfl | rfl | rfl | rfl | rfl | rfl | rfl
  · exact (own_w hw 11)
  · exact (own_w hw 12)
  · exact (own_w hw 13)
  · exact (own_w hw 14)
  · exact (own_w hw 15)
  · exact (own_w hw 16)
  · exact (own_w hw 17)

set_option maxRecDepth 65536 in
set_option maxHeartbeats 40000000 in
theorem own_lenC (l : Launch) (Z : State) (a0 : Array Value) (hw : ∀ d ∈ tables_1, d.before a0 Z = true) (ws : List Jvm.Cond) (x : Int32) (h0 : Heap) (n0 : Nat) (Z0 : n0 ≤ h0.size)  :
    own_Met l Z (⟨"com/example/assay_runner/assayrunner/report/BuildContinuesPinLaw", "len", "(I)I"⟩ : MethodName) method_2_code 1 (some .int) ws ({ frames := 0, cells := 0, slots := 0, locals := 0 } : Room) #[(.int x)] h0 (fun v h L => v = some (.int (own_len x)) ∧ Fr n0 L ∧ h = h0) := by
  refine own_body own_pn0 (fun m => mkF m 0 #[iv x] []) (fun m => own_ef_own_lenC m x) ?_
  intro p e s m below meth c T0 hx hby hml hlk hrt hZ hown hnm X0 e0
  have hown : s.vm.findClass "com/example/assay_runner/assayrunner/report/BuildContinuesPinLaw" = some m.cls := hown
  have N0 := Fr.nil n0
  refine own_g (own_F T0 m 1 #[iv x] [(.int x)]) (fun _ z_ => XS.iloadN X0.here hx rfl (hb hby own_d2_0) rfl z_) ?_
  refine own_g (own_F T0 m 3 #[iv x] [(.int 16), (.int x)]) (fun _ z_ => XS.bipush X0.here hx rfl (hb hby own_d2_1) z_) ?_
  refine own_g (own_F T0 m 4 #[iv x] [(.int ((x.toUInt32 >>> ((16 : Int32) &&& 31).toUInt32).toInt32))]) (fun _ z_ => XS.iushr X0.here hx rfl (hb hby own_d2_3) rfl z_) ?_
  refine own_g (own_F T0 m 5 #[iv x] [(.int 3), (.int ((x.toUInt32 >>> ((16 : Int32) &&& 31).toUInt32).toInt32))]) (fun _ z_ => XS.iconst X0.here hx rfl (hb hby own_d2_4) z_) ?_
  refine own_g (own_F T0 m 6 #[iv x] [(.int (((x.toUInt32 >>> ((16 : Int32) &&& 31).toUInt32).toInt32) % (3 : Int32)))]) (fun _ z_ => iremM X0 hx rfl (hb hby own_d2_5) rfl (by decide) z_) ?_
  refine own_ret (t := .int) X0 hx hlk hrt rfl (Or.inl ⟨rfl, by simp, _, rfl⟩) (hb hby own_d2_6) (by decide) (by decide) ?_
  exact ⟨rfl, N0, e0⟩
set_option maxRecDepth 65536 in
set_option maxHeartbeats 40000000 in
theorem own_same (l : Launch) (Z : State) (a0 : Array Value) (hw : ∀ d ∈ tables_1, d.before a0 Z = true) (ws : List Jvm.Cond) (x y ro : Int32) (h0 : Heap) (n0 : Nat) (Z0 : n0 ≤ h0.size) (hr : (ro = 1 ∧ own_sm x y) ∨ (ro = 0 ∧ ¬ own_sm x y)) :
    own_Met l Z (⟨"com/example/assay_runner/assayrunner/report/BuildContinuesPinLaw", "same", "(II)Z"⟩ : MethodName) method_4_code 3 (some .boolean) ws ({ frames := 1, cells := 0, slots := 0, locals := 13 } : Room) #[(.int x), (.int y)] h0 (fun v h L => v = some (.int ro) ∧ Fr n0 L ∧ h = h0) := by
  refine own_body own_pn1 (fun m => mkF m 0 #[iv x, iv y, .unset] []) (fun m => own_ef_own_same m x y) ?_
  intro p e s m below meth c T0 hx hby hml hlk hrt hZ hown hnm X0 e0
  have hown : s.vm.findClass "com/example/assay_runner/assayrunner/report/BuildContinuesPinLaw" = some m.cls := hown
  have N0 := Fr.nil n0
  refine own_g (own_F T0 m 1 #[iv x, iv y, .unset] [(.int x)]) (fun _ z_ => XS.iloadN X0.here hx rfl (hb hby own_d6_0) rfl z_) ?_
  refine own_callS (y := (⟨"com/example/assay_runner/assayrunner/report/BuildContinuesPinLaw", "len", "(I)I"⟩ : MethodName)) X0 hx hZ hown (own_w hw 7) (own_w hw 8) (own_w hw 5) (own_w hw 9) (by decide) e0 (hM := own_lenC l Z a0 hw [] x h0 n0 Z0) (W := 0) (pc := 1) (Ls := #[iv x, iv y, .unset]) (argsL := [(.int x)]) (rest := []) (st0 := [(.int x)]) (by rw [hml]; rfl) (lenOf own_pd0 rfl) rfl (Nat.le_of_eq rfl) (hb hby own_d6_1) (by decide) (by decide) (by decide) (by decide) ?_
  intro v1 T1 L1 s X1 hZ hown hI1 hvm1 hhp1 hWw1 hQ1
  obtain ⟨rfl, Nq1, hh1⟩ := hQ1
  have N1 := Fr.app N0 Nq1
  show own_Ends p e below s _ _ _ (own_F T1 m 4 #[iv x, iv y, .unset] [(.int (own_len x))])
  refine own_g (own_F T1 m 5 #[iv x, iv y, iv (own_len x)] []) (fun _ z_ => XS.istoreN X1.here hx rfl (hb hby own_d6_4) rfl (l' := #[iv x, iv y, iv (own_len x)]) rfl z_) ?_
  refine own_g (own_F T1 m 6 #[iv x, iv y, iv (own_len x)] [(.int (own_len x))]) (fun _ z_ => XS.iloadN X1.here hx rfl (hb hby own_d6_5) rfl z_) ?_
  refine own_g (own_F T1 m 7 #[iv x, iv y, iv (own_len x)] [(.int y), (.int (own_len x))]) (fun _ z_ => XS.iloadN X1.here hx rfl (hb hby own_d6_6) rfl z_) ?_
  refine own_callS (y := (⟨"com/example/assay_runner/assayrunner/report/BuildContinuesPinLaw", "len", "(I)I"⟩ : MethodName)) X1 hx hZ hown (own_w hw 7) (own_w hw 8) (own_w hw 5) (own_w hw 9) (by decide) hh1 (hM := own_lenC l Z a0 hw [] y h0 n0 Z0) (W := 1) (pc := 7) (Ls := #[iv x, iv y, iv (own_len x)]) (argsL := [(.int y)]) (rest := [(.int (own_len x))]) (st0 := [(.int y), (.int (own_len x))]) (by rw [hml]; rfl) (lenOf own_pd0 rfl) rfl (Nat.le_of_eq rfl) (hb hby own_d6_7) (by decide) (by decide) (by decide) (by decide) ?_
  intro v2 T2 L2 s X2 hZ hown hI2 hvm2 hhp2 hWw2 hQ2
  obtain ⟨rfl, Nq2, hh2⟩ := hQ2
  have N2 := Fr.app N1 Nq2
  show own_Ends p e below s _ _ _ (own_F T2 m 10 #[iv x, iv y, iv (own_len x)] [(.int (own_len y)), (.int (own_len x))])
  by_cases c10 : (own_len x) = (own_len y)
  · -- pc 10: (own_len x) = (own_len y)
   refine own_g (own_F T2 m 15 #[iv x, iv y, iv (own_len x)] []) (fun _ z_ => XS.icmpYes X2.here hx rfl (pc0 := 10) (pc' := 15) rfl (hb hby own_d6_10) rfl (teq c10).1 (by decide) (by decide) z_) ?_
   refine own_g (own_F T2 m 16 #[iv x, iv y, iv (own_len x)] [(.int (own_len x))]) (fun _ z_ => XS.iloadN X2.here hx rfl (hb hby own_d6_15) rfl z_) ?_
   refine own_g (own_F T2 m 17 #[iv x, iv y, iv (own_len x)] [(.int 1), (.int (own_len x))]) (fun _ z_ => XS.iconst X2.here hx rfl (hb hby own_d6_16) z_) ?_
   by_cases c17 : (own_len x) < (1 : Int32)
   · -- pc 17: (own_len x) < (1 : Int32)
    refine own_g (own_F T2 m 35 #[iv x, iv y, iv (own_len x)] []) (fun _ z_ => XS.icmpYes X2.here hx rfl (pc0 := 17) (pc' := 35) rfl (hb hby own_d6_17) rfl (tlt c17).1 (by decide) (by decide) z_) ?_
    refine own_g (own_F T2 m 36 #[iv x, iv y, iv (own_len x)] [(.int (own_len x))]) (fun _ z_ => XS.iloadN X2.here hx rfl (hb hby own_d6_35) rfl z_) ?_
    refine own_g (own_F T2 m 37 #[iv x, iv y, iv (own_len x)] [(.int 2), (.int (own_len x))]) (fun _ z_ => XS.iconst X2.here hx rfl (hb hby own_d6_36) z_) ?_
    by_cases c37 : (own_len x) < (2 : Int32)
    · -- pc 37: (own_len x) < (2 : Int32)
     refine own_g (own_F T2 m 61 #[iv x, iv y, iv (own_len x)] []) (fun _ z_ => XS.icmpYes X2.here hx rfl (pc0 := 37) (pc' := 61) rfl (hb hby own_d6_37) rfl (tlt c37).1 (by decide) (by decide) z_) ?_
     refine own_g (own_F T2 m 62 #[iv x, iv y, iv (own_len x)] [(.int 1)]) (fun _ z_ => XS.iconst X2.here hx rfl (hb hby own_d6_61) z_) ?_
     refine own_ret (t := .boolean) X2 hx hlk hrt rfl (Or.inl ⟨rfl, by simp, _, rfl⟩) (hb hby own_d6_62) (by decide) (by decide) ?_
     refine ⟨congrArg (fun z => some (Value.int z)) ?_, N2, hh2⟩
     exact (own_r1 hr ⟨c10, fun z_ => absurd c17 z_, fun z_ => absurd c37 z_⟩).symm
    · -- pc 37: not (own_len x) < (2 : Int32)
     refine own_g (own_F T2 m 40 #[iv x, iv y, iv (own_len x)] []) (fun _ z_ => XS.icmpNo X2.here hx rfl (hb hby own_d6_37) rfl (flt c37).1 z_) ?_
     refine own_g (own_F T2 m 41 #[iv x, iv y, iv (own_len x)] [(.int x)]) (fun _ z_ => XS.iloadN X2.here hx rfl (hb hby own_d6_40) rfl z_) ?_
     refine own_g (own_F T2 m 43 #[iv x, iv y, iv (own_len x)] [(.int 8), (.int x)]) (fun _ z_ => XS.bipush X2.here hx rfl (hb hby own_d6_41) z_) ?_
     refine own_g (own_F T2 m 44 #[iv x, iv y, iv (own_len x)] [(.int ((x.toUInt32 >>> ((8 : Int32) &&& 31).toUInt32).toInt32))]) (fun _ z_ => XS.iushr X2.here hx rfl (hb hby own_d6_43) rfl z_) ?_
     refine own_g (own_F T2 m 47 #[iv x, iv y, iv (own_len x)] [(.int 255), (.int ((x.toUInt32 >>> ((8 : Int32) &&& 31).toUInt32).toInt32))]) (fun _ z_ => XS.sipush X2.here hx rfl (hb hby own_d6_44) z_) ?_
     refine own_g (own_F T2 m 48 #[iv x, iv y, iv (own_len x)] [(.int (((x.toUInt32 >>> ((8 : Int32) &&& 31).toUInt32).toInt32) &&& (255 : Int32)))]) (fun _ z_ => XS.iand X2.here hx rfl (hb hby own_d6_47) rfl z_) ?_
     refine own_g (own_F T2 m 49 #[iv x, iv y, iv (own_len x)] [(.int y), (.int (((x.toUInt32 >>> ((8 : Int32) &&& 31).toUInt32).toInt32) &&& (255 : Int32)))]) (fun _ z_ => XS.iloadN X2.here hx rfl (hb hby own_d6_48) rfl z_) ?_
     refine own_g (own_F T2 m 51 #[iv x, iv y, iv (own_len x)] [(.int 8), (.int y), (.int (((x.toUInt32 >>> ((8 : Int32) &&& 31).toUInt32).toInt32) &&& (255 : Int32)))]) (fun _ z_ => XS.bipush X2.here hx rfl (hb hby own_d6_49) z_) ?_
     refine own_g (own_F T2 m 52 #[iv x, iv y, iv (own_len x)] [(.int ((y.toUInt32 >>> ((8 : Int32) &&& 31).toUInt32).toInt32)), (.int (((x.toUInt32 >>> ((8 : Int32) &&& 31).toUInt32).toInt32) &&& (255 : Int32)))]) (fun _ z_ => XS.iushr X2.here hx rfl (hb hby own_d6_51) rfl z_) ?_
     refine own_g (own_F T2 m 55 #[iv x, iv y, iv (own_len x)] [(.int 255), (.int ((y.toUInt32 >>> ((8 : Int32) &&& 31).toUInt32).toInt32)), (.int (((x.toUInt32 >>> ((8 : Int32) &&& 31).toUInt32).toInt32) &&& (255 : Int32)))]) (fun _ z_ => XS.sipush X2.here hx rfl (hb hby own_d6_52) z_) ?_
     refine own_g (own_F T2 m 56 #[iv x, iv y, iv (own_len x)] [(.int (((y.toUInt32 >>> ((8 : Int32) &&& 31).toUInt32).toInt32) &&& (255 : Int32))), (.int (((x.toUInt32 >>> ((8 : Int32) &&& 31).toUInt32).toInt32) &&& (255 : Int32)))]) (fun _ z_ => XS.iand X2.here hx rfl (hb hby own_d6_55) rfl z_) ?_
     by_cases c56 : (((x.toUInt32 >>> ((8 : Int32) &&& 31).toUInt32).toInt32) &&& (255 : Int32)) = (((y.toUInt32 >>> ((8 : Int32) &&& 31).toUInt32).toInt32) &&& (255 : Int32))
     · -- pc 56: (((x.toUInt32 >>> ((8 : Int32) &&& 31).toUInt32).toInt32) &&& (255 : Int32)) = (((y.toUInt32 >>> ((8 : Int32) &&& 31).toUInt32).toInt32) &&& (255 : Int32))
      refine own_g (own_F T2 m 61 #[iv x, iv y, iv (own_len x)] []) (fun _ z_ => XS.icmpYes X2.here hx rfl (pc0 := 56) (pc' := 61) rfl (hb hby own_d6_56) rfl (teq c56).1 (by decide) (by decide) z_) ?_
      refine own_g (own_F T2 m 62 #[iv x, iv y, iv (own_len x)] [(.int 1)]) (fun _ z_ => XS.iconst X2.here hx rfl (hb hby own_d6_61) z_) ?_
      refine own_ret (t := .boolean) X2 hx hlk hrt rfl (Or.inl ⟨rfl, by simp, _, rfl⟩) (hb hby own_d6_62) (by decide) (by decide) ?_
      refine ⟨congrArg (fun z => some (Value.int z)) ?_, N2, hh2⟩
      exact (own_r1 hr ⟨c10, fun z_ => absurd c17 z_, fun z_ => c56⟩).symm
     · -- pc 56: not (((x.toUInt32 >>> ((8 : Int32) &&& 31).toUInt32).toInt32) &&& (255 : Int32)) = (((y.toUInt32 >>> ((8 : Int32) &&& 31).toUInt32).toInt32) &&& (255 : Int32))
      refine own_g (own_F T2 m 59 #[iv x, iv y, iv (own_len x)] []) (fun _ z_ => XS.icmpNo X2.here hx rfl (hb hby own_d6_56) rfl (feq c56).1 z_) ?_
      refine own_g (own_F T2 m 60 #[iv x, iv y, iv (own_len x)] [(.int 0)]) (fun _ z_ => XS.iconst X2.here hx rfl (hb hby own_d6_59) z_) ?_
      refine own_ret (t := .boolean) X2 hx hlk hrt rfl (Or.inl ⟨rfl, by simp, _, rfl⟩) (hb hby own_d6_60) (by decide) (by decide) ?_
      refine ⟨congrArg (fun z => some (Value.int z)) ?_, N2, hh2⟩
      exact (own_r0 hr fun q => c56 (q.2.2 c37)).symm
   · -- pc 17: not (own_len x) < (1 : Int32)
    refine own_g (own_F T2 m 20 #[iv x, iv y, iv (own_len x)] []) (fun _ z_ => XS.icmpNo X2.here hx rfl (hb hby own_d6_17) rfl (flt c17).1 z_) ?_
    refine own_g (own_F T2 m 21 #[iv x, iv y, iv (own_len x)] [(.int x)]) (fun _ z_ => XS.iloadN X2.here hx rfl (hb hby own_d6_20) rfl z_) ?_
    refine own_g (own_F T2 m 24 #[iv x, iv y, iv (own_len x)] [(.int 255), (.int x)]) (fun _ z_ => XS.sipush X2.here hx rfl (hb hby own_d6_21) z_) ?_
    refine own_g (own_F T2 m 25 #[iv x, iv y, iv (own_len x)] [(.int (x &&& (255 : Int32)))]) (fun _ z_ => XS.iand X2.here hx rfl (hb hby own_d6_24) rfl z_) ?_
    refine own_g (own_F T2 m 26 #[iv x, iv y, iv (own_len x)] [(.int y), (.int (x &&& (255 : Int32)))]) (fun _ z_ => XS.iloadN X2.here hx rfl (hb hby own_d6_25) rfl z_) ?_
    refine own_g (own_F T2 m 29 #[iv x, iv y, iv (own_len x)] [(.int 255), (.int y), (.int (x &&& (255 : Int32)))]) (fun _ z_ => XS.sipush X2.here hx rfl (hb hby own_d6_26) z_) ?_
    refine own_g (own_F T2 m 30 #[iv x, iv y, iv (own_len x)] [(.int (y &&& (255 : Int32))), (.int (x &&& (255 : Int32)))]) (fun _ z_ => XS.iand X2.here hx rfl (hb hby own_d6_29) rfl z_) ?_
    by_cases c30 : (x &&& (255 : Int32)) = (y &&& (255 : Int32))
    · -- pc 30: (x &&& (255 : Int32)) = (y &&& (255 : Int32))
     refine own_g (own_F T2 m 35 #[iv x, iv y, iv (own_len x)] []) (fun _ z_ => XS.icmpYes X2.here hx rfl (pc0 := 30) (pc' := 35) rfl (hb hby own_d6_30) rfl (teq c30).1 (by decide) (by decide) z_) ?_
     refine own_g (own_F T2 m 36 #[iv x, iv y, iv (own_len x)] [(.int (own_len x))]) (fun _ z_ => XS.iloadN X2.here hx rfl (hb hby own_d6_35) rfl z_) ?_
     refine own_g (own_F T2 m 37 #[iv x, iv y, iv (own_len x)] [(.int 2), (.int (own_len x))]) (fun _ z_ => XS.iconst X2.here hx rfl (hb hby own_d6_36) z_) ?_
     by_cases c37 : (own_len x) < (2 : Int32)
     · -- pc 37: (own_len x) < (2 : Int32)
      refine own_g (own_F T2 m 61 #[iv x, iv y, iv (own_len x)] []) (fun _ z_ => XS.icmpYes X2.here hx rfl (pc0 := 37) (pc' := 61) rfl (hb hby own_d6_37) rfl (tlt c37).1 (by decide) (by decide) z_) ?_
      refine own_g (own_F T2 m 62 #[iv x, iv y, iv (own_len x)] [(.int 1)]) (fun _ z_ => XS.iconst X2.here hx rfl (hb hby own_d6_61) z_) ?_
      refine own_ret (t := .boolean) X2 hx hlk hrt rfl (Or.inl ⟨rfl, by simp, _, rfl⟩) (hb hby own_d6_62) (by decide) (by decide) ?_
      refine ⟨congrArg (fun z => some (Value.int z)) ?_, N2, hh2⟩
      exact (own_r1 hr ⟨c10, fun z_ => c30, fun z_ => absurd c37 z_⟩).symm
     · -- pc 37: not (own_len x) < (2 : Int32)
      refine own_g (own_F T2 m 40 #[iv x, iv y, iv (own_len x)] []) (fun _ z_ => XS.icmpNo X2.here hx rfl (hb hby own_d6_37) rfl (flt c37).1 z_) ?_
      refine own_g (own_F T2 m 41 #[iv x, iv y, iv (own_len x)] [(.int x)]) (fun _ z_ => XS.iloadN X2.here hx rfl (hb hby own_d6_40) rfl z_) ?_
      refine own_g (own_F T2 m 43 #[iv x, iv y, iv (own_len x)] [(.int 8), (.int x)]) (fun _ z_ => XS.bipush X2.here hx rfl (hb hby own_d6_41) z_) ?_
      refine own_g (own_F T2 m 44 #[iv x, iv y, iv (own_len x)] [(.int ((x.toUInt32 >>> ((8 : Int32) &&& 31).toUInt32).toInt32))]) (fun _ z_ => XS.iushr X2.here hx rfl (hb hby own_d6_43) rfl z_) ?_
      refine own_g (own_F T2 m 47 #[iv x, iv y, iv (own_len x)] [(.int 255), (.int ((x.toUInt32 >>> ((8 : Int32) &&& 31).toUInt32).toInt32))]) (fun _ z_ => XS.sipush X2.here hx rfl (hb hby own_d6_44) z_) ?_
      refine own_g (own_F T2 m 48 #[iv x, iv y, iv (own_len x)] [(.int (((x.toUInt32 >>> ((8 : Int32) &&& 31).toUInt32).toInt32) &&& (255 : Int32)))]) (fun _ z_ => XS.iand X2.here hx rfl (hb hby own_d6_47) rfl z_) ?_
      refine own_g (own_F T2 m 49 #[iv x, iv y, iv (own_len x)] [(.int y), (.int (((x.toUInt32 >>> ((8 : Int32) &&& 31).toUInt32).toInt32) &&& (255 : Int32)))]) (fun _ z_ => XS.iloadN X2.here hx rfl (hb hby own_d6_48) rfl z_) ?_
      refine own_g (own_F T2 m 51 #[iv x, iv y, iv (own_len x)] [(.int 8), (.int y), (.int (((x.toUInt32 >>> ((8 : Int32) &&& 31).toUInt32).toInt32) &&& (255 : Int32)))]) (fun _ z_ => XS.bipush X2.here hx rfl (hb hby own_d6_49) z_) ?_
      refine own_g (own_F T2 m 52 #[iv x, iv y, iv (own_len x)] [(.int ((y.toUInt32 >>> ((8 : Int32) &&& 31).toUInt32).toInt32)), (.int (((x.toUInt32 >>> ((8 : Int32) &&& 31).toUInt32).toInt32) &&& (255 : Int32)))]) (fun _ z_ => XS.iushr X2.here hx rfl (hb hby own_d6_51) rfl z_) ?_
      refine own_g (own_F T2 m 55 #[iv x, iv y, iv (own_len x)] [(.int 255), (.int ((y.toUInt32 >>> ((8 : Int32) &&& 31).toUInt32).toInt32)), (.int (((x.toUInt32 >>> ((8 : Int32) &&& 31).toUInt32).toInt32) &&& (255 : Int32)))]) (fun _ z_ => XS.sipush X2.here hx rfl (hb hby own_d6_52) z_) ?_
      refine own_g (own_F T2 m 56 #[iv x, iv y, iv (own_len x)] [(.int (((y.toUInt32 >>> ((8 : Int32) &&& 31).toUInt32).toInt32) &&& (255 : Int32))), (.int (((x.toUInt32 >>> ((8 : Int32) &&& 31).toUInt32).toInt32) &&& (255 : Int32)))]) (fun _ z_ => XS.iand X2.here hx rfl (hb hby own_d6_55) rfl z_) ?_
      by_cases c56 : (((x.toUInt32 >>> ((8 : Int32) &&& 31).toUInt32).toInt32) &&& (255 : Int32)) = (((y.toUInt32 >>> ((8 : Int32) &&& 31).toUInt32).toInt32) &&& (255 : Int32))
      · -- pc 56: (((x.toUInt32 >>> ((8 : Int32) &&& 31).toUInt32).toInt32) &&& (255 : Int32)) = (((y.toUInt32 >>> ((8 : Int32) &&& 31).toUInt32).toInt32) &&& (255 : Int32))
       refine own_g (own_F T2 m 61 #[iv x, iv y, iv (own_len x)] []) (fun _ z_ => XS.icmpYes X2.here hx rfl (pc0 := 56) (pc' := 61) rfl (hb hby own_d6_56) rfl (teq c56).1 (by decide) (by decide) z_) ?_
       refine own_g (own_F T2 m 62 #[iv x, iv y, iv (own_len x)] [(.int 1)]) (fun _ z_ => XS.iconst X2.here hx rfl (hb hby own_d6_61) z_) ?_
       refine own_ret (t := .boolean) X2 hx hlk hrt rfl (Or.inl ⟨rfl, by simp, _, rfl⟩) (hb hby own_d6_62) (by decide) (by decide) ?_
       refine ⟨congrArg (fun z => some (Value.int z)) ?_, N2, hh2⟩
       exact (own_r1 hr ⟨c10, fun z_ => c30, fun z_ => c56⟩).symm
      · -- pc 56: not (((x.toUInt32 >>> ((8 : Int32) &&& 31).toUInt32).toInt32) &&& (255 : Int32)) = (((y.toUInt32 >>> ((8 : Int32) &&& 31).toUInt32).toInt32) &&& (255 : Int32))
       refine own_g (own_F T2 m 59 #[iv x, iv y, iv (own_len x)] []) (fun _ z_ => XS.icmpNo X2.here hx rfl (hb hby own_d6_56) rfl (feq c56).1 z_) ?_
       refine own_g (own_F T2 m 60 #[iv x, iv y, iv (own_len x)] [(.int 0)]) (fun _ z_ => XS.iconst X2.here hx rfl (hb hby own_d6_59) z_) ?_
       refine own_ret (t := .boolean) X2 hx hlk hrt rfl (Or.inl ⟨rfl, by simp, _, rfl⟩) (hb hby own_d6_60) (by decide) (by decide) ?_
       refine ⟨congrArg (fun z => some (Value.int z)) ?_, N2, hh2⟩
       exact (own_r0 hr fun q => c56 (q.2.2 c37)).symm
    · -- pc 30: not (x &&& (255 : Int32)) = (y &&& (255 : Int32))
     refine own_g (own_F T2 m 33 #[iv x, iv y, iv (own_len x)] []) (fun _ z_ => XS.icmpNo X2.here hx rfl (hb hby own_d6_30) rfl (feq c30).1 z_) ?_
     refine own_g (own_F T2 m 34 #[iv x, iv y, iv (own_len x)] [(.int 0)]) (fun _ z_ => XS.iconst X2.here hx rfl (hb hby own_d6_33) z_) ?_
     refine own_ret (t := .boolean) X2 hx hlk hrt rfl (Or.inl ⟨rfl, by simp, _, rfl⟩) (hb hby own_d6_34) (by decide) (by decide) ?_
     refine ⟨congrArg (fun z => some (Value.int z)) ?_, N2, hh2⟩
     exact (own_r0 hr fun q => c30 (q.2.1 c17)).symm
  · -- pc 10: not (own_len x) = (own_len y)
   refine own_g (own_F T2 m 13 #[iv x, iv y, iv (own_len x)] []) (fun _ z_ => XS.icmpNo X2.here hx rfl (hb hby own_d6_10) rfl (feq c10).1 z_) ?_
   refine own_g (own_F T2 m 14 #[iv x, iv y, iv (own_len x)] [(.int 0)]) (fun _ z_ => XS.iconst X2.here hx rfl (hb hby own_d6_13) z_) ?_
   refine own_ret (t := .boolean) X2 hx hlk hrt rfl (Or.inl ⟨rfl, by simp, _, rfl⟩) (hb hby own_d6_14) (by decide) (by decide) ?_
   refine ⟨congrArg (fun z => some (Value.int z)) ?_, N2, hh2⟩
   exact (own_r0 hr fun q => c10 q.1).symm
set_option maxRecDepth 65536 in
set_option maxHeartbeats 40000000 in
theorem own_ce (l : Launch) (Z : State) (a0 : Array Value) (hw : ∀ d ∈ tables_1, d.before a0 Z = true) (ws : List Jvm.Cond) (cc : Int32) (h0 : Heap) (n0 : Nat) (Z0 : n0 ≤ h0.size) (hc : 0 ≤ cc.toInt ∧ cc.toInt ≤ 255) :
    own_Met l Z (⟨"java/lang/StringLatin1", "canEncode", "(C)Z"⟩ : MethodName) jdk_43_method_3_code 1 (some .boolean) ws ({ frames := 0, cells := 0, slots := 0, locals := 0 } : Room) #[(.int cc)] h0 (fun v h L => v = some (.int (1 : Int32)) ∧ Fr n0 L ∧ h = h0) := by
  refine own_body own_pn2 (fun m => mkF m 0 #[iv cc] []) (fun m => own_ef_own_ce m cc) ?_
  intro p e s m below meth c T0 hx hby hml hlk hrt hZ hown hnm X0 e0
  have hown : s.vm.findClass "java/lang/StringLatin1" = some m.cls := hown
  have N0 := Fr.nil n0
  refine own_g (own_F T0 m 1 #[iv cc] [(.int cc)]) (fun _ z_ => XS.iloadN X0.here hx rfl (hb hby own_d12_0) rfl z_) ?_
  refine own_g (own_F T0 m 4 #[iv cc] [(.int 255), (.int cc)]) (fun _ z_ => XS.sipush X0.here hx rfl (hb hby own_d12_1) z_) ?_
  refine own_g (own_F T0 m 7 #[iv cc] []) (fun _ z_ => XS.icmpNo X0.here hx rfl (hb hby own_d12_4) rfl (flt (own_c255 hc.2)).2.2.1 z_) ?_
  refine own_g (own_F T0 m 8 #[iv cc] [(.int 1)]) (fun _ z_ => XS.iconst X0.here hx rfl (hb hby own_d12_7) z_) ?_
  refine own_g (own_F T0 m 12 #[iv cc] [(.int 1)]) (fun _ z_ => XS.goto X0.here hx rfl (pc0 := 8) (pc' := 12) rfl (hb hby own_d12_8) (by decide) (by decide) z_) ?_
  refine own_ret (t := .boolean) X0 hx hlk hrt rfl (Or.inl ⟨rfl, by simp, _, rfl⟩) (hb hby own_d12_12) (by decide) (by decide) ?_
  exact ⟨rfl, N0, e0⟩
set_option maxRecDepth 65536 in
set_option maxHeartbeats 40000000 in
theorem own_tb (l : Launch) (Z : State) (a0 : Array Value) (hw : ∀ d ∈ tables_1, d.before a0 Z = true) (ws : List Jvm.Cond) (cc : Int32) (h0 : Heap) (n0 : Nat) (Z0 : n0 ≤ h0.size)  :
    own_Met l Z (⟨"java/lang/StringLatin1", "toBytes", "(C)[B"⟩ : MethodName) jdk_43_method_46_code 1 (some (.array .byte)) ws ({ frames := 0, cells := 1, slots := 1, locals := 0 } : Room) #[(.int cc)] h0 (fun v h L => ∃ b : Addr, v = some (.ref b) ∧ Fr n0 L ∧ Keep h0 h [] ∧ n0 ≤ b ∧ h0.size ≤ b ∧ own_A Z h b .byte 1 (fun i => .int (((fun _ => cc) i).toInt8.toInt32))) := by
  refine own_body own_pn3 (fun m => mkF m 0 #[iv cc] []) (fun m => own_ef_own_tb m cc) ?_
  intro p e s m below meth c T0 hx hby hml hlk hrt hZ hown hnm X0 e0
  have hown : s.vm.findClass "java/lang/StringLatin1" = some m.cls := hown
  have N0 := Fr.nil n0
  refine own_g (own_F T0 m 1 #[iv cc] [(.int 1)]) (fun _ z_ => XS.iconst X0.here hx rfl (hb hby own_d13_0) z_) ?_
  refine own_newA X0 hx hZ .byte rfl (own_w hw 13) e0 (hb hby own_d13_1) 1 rfl 1 (by decide) (by decide) (by decide) (by decide) ?_
  intro T1 h1 b1 X1 e1 E1 g1 A1
  have sz_b1 : h0.size ≤ b1 := Nat.le_trans (Nat.le_refl h0.size) (Nat.le_of_eq g1.symm)
  have ge_b1 : n0 ≤ b1 := Nat.le_trans Z0 (Nat.le_of_eq g1.symm)
  have A1 : own_A Z h1 b1 .byte 1 (fun q_ => .int ((fun _ => (0 : Int32)) q_)) := A1
  show own_Ends p e below s _ _ _ (own_F T1 m 3 #[iv cc] [(.ref b1)])
  refine own_g (own_F T1 m 4 #[iv cc] [(.ref b1), (.ref b1)]) (fun _ z_ => XS.dup X1.here hx rfl (hb hby own_d13_3) rfl rfl z_) ?_
  refine own_g (own_F T1 m 5 #[iv cc] [(.int 0), (.ref b1), (.ref b1)]) (fun _ z_ => XS.iconst X1.here hx rfl (hb hby own_d13_4) z_) ?_
  refine own_g (own_F T1 m 6 #[iv cc] [(.int cc), (.int 0), (.ref b1), (.ref b1)]) (fun _ z_ => XS.iloadN X1.here hx rfl (hb hby own_d13_5) rfl z_) ?_
  refine own_g (own_F T1 m 7 #[iv cc] [(.int (cc.toInt8.toInt32)), (.int 0), (.ref b1), (.ref b1)]) (fun _ z_ => XS.i2b X1.here hx rfl (hb hby own_d13_6) rfl z_) ?_
  refine own_bast X1 hx hZ e1 A1 0 rfl (by decide) (cc.toInt8.toInt32) (own_narB _) (hb hby own_d13_7) ?_
  intro T2 h2 X2 e2 W2 A2
  have N2 := Fr.snoc X2 N0 ge_b1
  obtain ⟨g2, A2, q2_0⟩ : ∃ gq_ : Nat → Int32, own_A Z h2 b1 .byte 1 (fun q_ => .int (gq_ q_)) ∧ gq_ 0 = (cc.toInt8.toInt32) := ⟨_, A2, rfl⟩
  show own_Ends p e below s _ _ _ (own_F T2 m 8 #[iv cc] [(.ref b1)])
  refine own_ret (t := (.array .byte)) X2 hx hlk hrt rfl (Or.inr (Or.inr (Or.inr (Or.inr ⟨rfl, rfl, rfl⟩)))) (hb hby own_d13_8) (by decide) (by decide) ?_
  rw [e2]
  exact ⟨b1, rfl, N2, (((Keep.refl _ _).ext E1).wr W2 (Or.inr sz_b1)), ge_b1, sz_b1, (A2).congr fun i hi => by obtain rfl : i = 0 := (by omega); exact congrArg Value.int q2_0⟩
set_option maxRecDepth 65536 in
set_option maxHeartbeats 40000000 in
theorem own_sb (l : Launch) (Z : State) (a0 : Array Value) (hw : ∀ d ∈ tables_1, d.before a0 Z = true) (ws : List Jvm.Cond) (x t : Addr) (n : Nat) (f : Nat → Int32) (h0 : Heap) (n0 : Nat) (Z0 : n0 ≤ h0.size) (At : own_A Z h0 t .byte n (fun i => .int ((f i).toInt8.toInt32))) (hf : ∀ i, i < n → 0 ≤ (f i).toInt ∧ (f i).toInt ≤ 255) (E_x : Exa Z h0 x "java/lang/String") (F_v : Fld Z h0 x "java/lang/String" "value" "[B" .null) (F_c : Fld Z h0 x "java/lang/String" "coder" "B" (.int (0 : Int32))) (g_x : n0 ≤ x) (ne_xt : x ≠ t) :
    own_Met l Z (⟨"java/lang/String", "<init>", "([BB)V"⟩ : MethodName) jdk_42_method_151_code 3 none ws ({ frames := 1, cells := 0, slots := 0, locals := 12 } : Room) #[(.ref x), (.ref t), (.int 0)] h0 (fun v h L => v = none ∧ Fr n0 L ∧ Keep h0 h [x] ∧ own_Lat Z h x t n f) := by
  refine own_body own_pn4 (fun m => mkF m 0 #[rv x, rv t, iv 0] []) (fun m => own_ef_own_sb m x t (0 : Int32)) ?_
  intro p e s m below meth c T0 hx hby hml hlk hrt hZ hown hnm X0 e0
  have hown : s.vm.findClass "java/lang/String" = some m.cls := hown
  have N0 := Fr.nil n0
  refine own_g (own_F T0 m 1 #[rv x, rv t, iv 0] [(.ref x)]) (fun _ z_ => XS.aloadN X0.here hx rfl (hb hby own_d14_0) rfl rfl z_) ?_
  obtain ⟨T1, X1, e1, st1⟩ := initO X0 hx hZ hown (own_w hw 74) (own_w hw 27) (own_w hw 28) e0 (g := (mkF m 1 #[rv x, rv t, iv 0] [(.ref x)])) rfl (by rw [hml]; rfl) rfl (hb hby own_d14_1) (by decide) (W := 0) (by show 2 * 0 + _ ≤ _; exact Nat.le_of_eq rfl) (by decide)
  refine own_pre (S' := (own_F T1 m 4 #[rv x, rv t, iv 0] [])) st1 ?_
  refine own_g (own_F T1 m 5 #[rv x, rv t, iv 0] [(.ref x)]) (fun _ z_ => XS.aloadN X1.here hx rfl (hb hby own_d14_4) rfl rfl z_) ?_
  refine own_g (own_F T1 m 6 #[rv x, rv t, iv 0] [(.ref t), (.ref x)]) (fun _ z_ => XS.aloadN X1.here hx rfl (hb hby own_d14_5) rfl rfl z_) ?_
  obtain ⟨T2, h2, X2, e2, W2, st2⟩ := putF X1 hx hZ hown (host := "") (Or.inl (own_w hw 75)) Via.refl e1 F_v E_x (Or.inr ⟨(own_w hw 14), rfl, hnm⟩) (own_w hw 12) (ty := (.array .byte)) (by decide) rfl rfl (g := (mkF m 6 #[rv x, rv t, iv 0] [(.ref t), (.ref x)])) rfl rfl (hb hby own_d14_6)
  have N2 := Fr.snoc X2 N0 g_x
  have Fw2 := F_v.same W2
  refine own_pre (S' := (own_F T2 m 9 #[rv x, rv t, iv 0] [])) st2 ?_
  refine own_g (own_F T2 m 10 #[rv x, rv t, iv 0] [(.ref x)]) (fun _ z_ => XS.aloadN X2.here hx rfl (hb hby own_d14_9) rfl rfl z_) ?_
  refine own_g (own_F T2 m 11 #[rv x, rv t, iv 0] [(.int 0), (.ref x)]) (fun _ z_ => XS.iloadN X2.here hx rfl (hb hby own_d14_10) rfl z_) ?_
  obtain ⟨T3, h3, X3, e3, W3, st3⟩ := putF X2 hx hZ hown (host := "") (Or.inl (own_w hw 76)) Via.refl e2 (F_c.other W2 (Or.inr (slot_ne (C := "java/lang/String") (Or.inr (own_w hw 15)) (Or.inr (own_w hw 14)) (by decide) (t := .byte) (t' := (.array .byte)) (by decide) (by decide)))) (E_x.wr W2) (Or.inr ⟨(own_w hw 15), rfl, hnm⟩) (own_w hw 12) (ty := .byte) (by decide) rfl rfl (g := (mkF m 11 #[rv x, rv t, iv 0] [(.int 0), (.ref x)])) rfl rfl (hb hby own_d14_11)
  have N3 := Fr.snoc X3 N2 g_x
  have Fw3 := (F_c.other W2 (Or.inr (slot_ne (C := "java/lang/String") (Or.inr (own_w hw 15)) (Or.inr (own_w hw 14)) (by decide) (t := .byte) (t' := (.array .byte)) (by decide) (by decide)))).same W3
  refine own_pre (S' := (own_F T3 m 14 #[rv x, rv t, iv 0] [])) st3 ?_
  refine own_retV X3 hx hlk hrt (hb hby own_d14_14) (by decide) (by decide) ?_
  show _ ∧ Fr n0 _ ∧ Keep h0 T3.heap [x] ∧ _
  rw [e3]
  exact ⟨rfl, N3, (((Keep.refl _ _).wr W2 (Or.inl (List.mem_of_getElem? (i := 0) rfl))).wr W3 (Or.inl (List.mem_of_getElem? (i := 0) rfl))), ((E_x.wr W2).wr W3), (Fw2.other W3 (Or.inr (slot_ne (C := "java/lang/String") (Or.inr (own_w hw 14)) (Or.inr (own_w hw 15)) (by decide) (t := (.array .byte)) (t' := .byte) (by decide) (by decide)))), Fw3, ((At.other W2 (Ne.symm ne_xt)).other W3 (Ne.symm ne_xt)), hf⟩
set_option maxRecDepth 65536 in
set_option maxHeartbeats 40000000 in
theorem own_vo (l : Launch) (Z : State) (a0 : Array Value) (hw : ∀ d ∈ tables_1, d.before a0 Z = true) (ws : List Jvm.Cond) (cc zc : Int32) (h0 : Heap) (n0 : Nat) (Z0 : n0 ≤ h0.size) (hc : 0 ≤ cc.toInt ∧ cc.toInt ≤ 255) (hzc : ¬ zc = (0 : Int32)) (S_cs : Sta Z h0 "java/lang/String" "COMPACT_STRINGS" "Z" (.int zc)) :
    own_Met l Z (⟨"java/lang/String", "valueOf", "(C)Ljava/lang/String;"⟩ : MethodName) jdk_42_method_139_code 1 (some (.object "java/lang/String")) ws ({ frames := 2, cells := 2, slots := 5, locals := 27 } : Room) #[(.int cc)] h0 (fun v h L => ∃ x t : Addr, v = some (.ref x) ∧ Fr n0 L ∧ Keep h0 h [] ∧ own_Lat Z h x t 1 (fun _ => cc)) := by
  refine own_body own_pn5 (fun m => mkF m 0 #[iv cc] []) (fun m => own_ef_own_vo m cc) ?_
  intro p e s m below meth c T0 hx hby hml hlk hrt hZ hown hnm X0 e0
  have hown : s.vm.findClass "java/lang/String" = some m.cls := hown
  have N0 := Fr.nil n0
  obtain ⟨T1, X1, e1, st1⟩ := getS2 X0 hx hZ hown (host := "") (Or.inl (own_w hw 61)) Via.refl e0 S_cs (g := (mkF m 0 #[iv cc] [])) rfl (hb hby own_d11_0)
  refine own_pre (S' := (own_F T1 m 3 #[iv cc] [(.int zc)])) st1 ?_
  refine own_g (own_F T1 m 6 #[iv cc] []) (fun _ z_ => XS.ifNo X1.here hx rfl (hb hby own_d11_3) rfl ((if0 _ _).trans (feq hzc).1) z_) ?_
  refine own_g (own_F T1 m 7 #[iv cc] [(.int cc)]) (fun _ z_ => XS.iloadN X1.here hx rfl (hb hby own_d11_6) rfl z_) ?_
  refine own_callS (y := (⟨"java/lang/StringLatin1", "canEncode", "(C)Z"⟩ : MethodName)) X1 hx hZ hown (own_w hw 62) (own_w hw 63) (own_w hw 64) (own_w hw 65) (by decide) e1 (hM := own_ce l Z a0 hw [] cc h0 n0 Z0 hc) (W := 0) (pc := 7) (Ls := #[iv cc]) (argsL := [(.int cc)]) (rest := []) (st0 := [(.int cc)]) (by rw [hml]; rfl) (lenOf own_pd1 rfl) rfl (Nat.le_of_eq rfl) (hb hby own_d11_7) (by decide) (by decide) (by decide) (by decide) ?_
  intro v2 T2 L2 s X2 hZ hown hI2 hvm2 hhp2 hWw2 hQ2
  obtain ⟨rfl, Nq2, hh2⟩ := hQ2
  have N2 := Fr.app N0 Nq2
  show own_Ends p e below s _ _ _ (own_F T2 m 10 #[iv cc] [(.int 1)])
  refine own_g (own_F T2 m 13 #[iv cc] []) (fun _ z_ => XS.ifNo X2.here hx rfl (hb hby own_d11_10) rfl ((if0 _ _).trans (feq (by decide : ¬ ((1 : Int32) = (0 : Int32)))).1) z_) ?_
  obtain ⟨T3, h3, X3, e3, E3, A3, D3, -, st3⟩ := newO X2 hx hZ hown (own_w hw 66) (own_w hw 12) (own_w hw 11) hh2 (g := (mkF m 13 #[iv cc] [])) rfl (hb hby own_d11_13) (by decide) (by decide)
  obtain ⟨b3, g3⟩ : ∃ z, z = h0.size := ⟨_, rfl⟩
  rw [← g3] at A3 D3 st3
  have sz_b3 : h0.size ≤ b3 := Nat.le_trans (Nat.le_refl h0.size) (Nat.le_of_eq g3.symm)
  have ge_b3 : n0 ≤ b3 := Nat.le_trans Z0 (Nat.le_of_eq g3.symm)
  have F3_value : Fld Z h3 b3 "java/lang/String" "value" "[B" .null := D3 (Or.inr (own_w hw 14)) (ty := (.array .byte)) (by decide)
  have F3_coder : Fld Z h3 b3 "java/lang/String" "coder" "B" (.int 0) := D3 (Or.inr (own_w hw 15)) (ty := .byte) (by decide)
  refine own_pre (S' := (own_F T3 m 16 #[iv cc] [(.ref b3)])) st3 ?_
  refine own_g (own_F T3 m 17 #[iv cc] [(.ref b3), (.ref b3)]) (fun _ z_ => XS.dup X3.here hx rfl (hb hby own_d11_16) rfl rfl z_) ?_
  refine own_g (own_F T3 m 18 #[iv cc] [(.int cc), (.ref b3), (.ref b3)]) (fun _ z_ => XS.iloadN X3.here hx rfl (hb hby own_d11_17) rfl z_) ?_
  refine own_callS (y := (⟨"java/lang/StringLatin1", "toBytes", "(C)[B"⟩ : MethodName)) X3 hx hZ hown (own_w hw 67) (own_w hw 68) (own_w hw 64) (own_w hw 69) (by decide) e3 (hM := own_tb l Z a0 hw [] cc h3 n0 (Nat.le_trans Z0 E3.1)) (W := 2) (pc := 18) (Ls := #[iv cc]) (argsL := [(.int cc)]) (rest := [(.ref b3), (.ref b3)]) (st0 := [(.int cc), (.ref b3), (.ref b3)]) (by rw [hml]; rfl) (lenOf own_pd2 rfl) rfl (Nat.le_of_eq rfl) (hb hby own_d11_18) (by decide) (by decide) (by decide) (by decide) ?_
  intro v4 T4 L4 s X4 hZ hown hI4 hvm4 hhp4 hWw4 hQ4
  obtain ⟨t4, rfl, Nq4, K4, gt4, gz4, At4⟩ := hQ4
  have N4 := Fr.app N2 Nq4
  show own_Ends p e below s _ _ _ (own_F T4 m 21 #[iv cc] [(.ref t4), (.ref b3), (.ref b3)])
  have ne_xt4 : b3 ≠ t4 := Nat.ne_of_lt (Nat.lt_of_lt_of_le A3.lt gz4)
  refine own_g (own_F T4 m 22 #[iv cc] [(.int 0), (.ref t4), (.ref b3), (.ref b3)]) (fun _ z_ => XS.iconst X4.here hx rfl (hb hby own_d11_21) z_) ?_
  refine own_callI (y := (⟨"java/lang/String", "<init>", "([BB)V"⟩ : MethodName)) (b := b3) X4 hx hZ hown rfl (own_w hw 70) (own_w hw 71) (own_w hw 73) (own_w hw 11) (by decide) (rfl : T4.heap = T4.heap) (hM := own_sb l Z a0 hw [] b3 t4 1 (fun _ => cc) T4.heap n0 (Nat.le_trans (Nat.le_trans Z0 E3.1) K4.1) At4 (fun _ _ => hc) (A3.keep K4) (F3_value.keep K4 nin0) (F3_coder.keep K4 nin0) ge_b3 ne_xt4) (W := 1) (pc := 22) (Ls := #[iv cc]) (argsL := [(.ref t4), (.int 0)]) (rest := [(.ref b3)]) (st0 := [(.int 0), (.ref t4), (.ref b3), (.ref b3)]) (by rw [hml]; rfl) (lenOf own_pd3 rfl) rfl (Nat.le_of_eq rfl) (hb hby own_d11_22) (by decide) (by decide) (by decide) (by decide) ?_
  intro v5 T5 L5 s X5 hZ hown hI5 hvm5 hhp5 hWw5 hQ5
  obtain ⟨rfl, Nq5, K5, Lt5⟩ := hQ5
  have N5 := Fr.app N4 Nq5
  show own_Ends p e below s _ _ _ (own_F T5 m 25 #[iv cc] [(.ref b3)])
  refine own_ret (t := (.object "java/lang/String")) X5 hx hlk hrt rfl (Or.inr (Or.inr (Or.inr (Or.inr ⟨rfl, rfl, rfl⟩)))) (hb hby own_d11_25) (by decide) (by decide) ?_
  exact ⟨b3, t4, rfl, N5, ((((Keep.refl _ _).ext E3).trans K4 all0).trans K5 (allS (Or.inr sz_b3) all0)), Lt5⟩
set_option maxRecDepth 65536 in
set_option maxHeartbeats 40000000 in
theorem own_cmp2 (l : Launch) (Z : State) (a0 : Array Value) (hw : ∀ d ∈ tables_1, d.before a0 Z = true) (ws : List Jvm.Cond) (a b : Addr) (n : Nat) (nn : Int32) (f g : Nat → Int32) (h0 : Heap) (n0 : Nat) (Z0 : n0 ≤ h0.size) (hn : nn.toInt = (n : Int)) (hn31 : n < 2 ^ 31) (Aa : own_A Z h0 a .char n (fun i => .int (f i))) (Ab : own_A Z h0 b .byte n (fun i => .int (g i))) (hf : ∀ i, i < n → 0 ≤ (f i).toInt ∧ (f i).toInt ≤ 255) (g_b : n0 ≤ b) (ne_ab : a ≠ b) :
    own_Met l Z (⟨"java/lang/StringUTF16", "compress", "([CI[BII)I"⟩ : MethodName) jdk_52_method_21_code 7 (some .int) ws ({ frames := 0, cells := 0, slots := 0, locals := 0 } : Room) #[(.ref a), (.int 0), (.ref b), (.int 0), (.int nn)] h0 (fun v h L => v = some (.int nn) ∧ Fr n0 L ∧ Keep h0 h [b] ∧ own_A Z h b .byte n (fun i => .int ((f i).toInt8.toInt32))) := by
  refine own_body own_pn6 (fun m => mkF m 0 #[rv a, iv 0, rv b, iv 0, iv nn, .unset, .unset] []) (fun m => own_ef_own_cmp2 m a (0 : Int32) b (0 : Int32) nn) ?_
  intro p e s m below meth c T0 hx hby hml hlk hrt hZ hown hnm X0 e0
  have hown : s.vm.findClass "java/lang/StringUTF16" = some m.cls := hown
  have N0 := Fr.nil n0
  have J : ∀ (r : Nat) (k : Nat) (j : Int32) (s6 : Slot) (g : Nat → Int32) (T1 : State) (lc1 : List Loc) (hp1 : Heap) (s : State) (hZ : Z.Warmed39 s.vm) (hown : s.vm.findClass "java/lang/StringUTF16" = some m.cls) (X1 : Stand p l e ({ frames := 0, cells := 0, slots := 0, locals := 0 } : Room) s m #[(.ref a), (.int 0), (.ref b), (.int 0), (.int nn)] below meth c T1 lc1 0 0) (e1 : T1.heap = hp1) (N1 : Fr n0 lc1) (zs1 : n0 ≤ hp1.size) (zz1 : h0.size ≤ hp1.size) (K1 : Keep h0 hp1 [b]) (f1_0 : own_A Z hp1 a .char n (fun i => .int (f i))) (f1_1 : own_A Z hp1 b .byte n (fun i => .int (g i))) (hkr : k + r = n) (hj : j.toInt = (k : Int)) (hs6 : One s6) (hg : ∀ i, i < k → g i = (f i).toInt8.toInt32), own_Ends p e below s ((fun v h L _ => v = some (.int nn) ∧ Fr n0 L ∧ Keep h0 h [b] ∧ own_A Z h b .byte n (fun i => .int ((f i).toInt8.toInt32))), []) ({ frames := 0, cells := 0, slots := 0, locals := 0 } : Room).cells ({ frames := 0, cells := 0, slots := 0, locals := 0 } : Room).slots (own_F T1 m 3 #[rv a, iv j, rv b, iv j, iv nn, iv j, s6] []) := by
   intro r
   induction r with
   | zero =>
    intro k j s6 g T1 lc1 hp1 s hZ hown X1 e1 N1 zs1 zz1 K1 f1_0 f1_1 hkr hj hs6 hg
    refine own_g (own_F T1 m 5 #[rv a, iv j, rv b, iv j, iv nn, iv j, s6] [(.int j)]) (fun _ z_ => XS.iload X1.here hx rfl (hb hby own_d18_3) rfl z_) ?_
    refine own_g (own_F T1 m 7 #[rv a, iv j, rv b, iv j, iv nn, iv j, s6] [(.int nn), (.int j)]) (fun _ z_ => XS.iload X1.here hx rfl (hb hby own_d18_5) rfl z_) ?_
    refine own_g (own_F T1 m 44 #[rv a, iv j, rv b, iv j, iv nn, iv j, s6] []) (fun _ z_ => XS.icmpYes X1.here hx rfl (pc0 := 7) (pc' := 44) rfl (hb hby own_d18_7) rfl (flt (own_jge hj hn (by omega))).2.1 (by decide) (by decide) z_) ?_
    refine own_g (own_F T1 m 46 #[rv a, iv j, rv b, iv j, iv nn, iv j, s6] [(.int nn)]) (fun _ z_ => XS.iload X1.here hx rfl (hb hby own_d18_44) rfl z_) ?_
    refine own_ret (t := .int) X1 hx hlk hrt rfl (Or.inl ⟨rfl, by simp, _, rfl⟩) (hb hby own_d18_46) (by decide) (by decide) ?_
    show _ ∧ Fr n0 _ ∧ Keep h0 T1.heap [b] ∧ own_A Z T1.heap b .byte n _
    rw [e1]
    exact ⟨rfl, N1, K1, (f1_1).congr fun i hi => congrArg Value.int (hg i (by omega))⟩
   | succ r ih =>
    intro k j s6 g T1 lc1 hp1 s hZ hown X1 e1 N1 zs1 zz1 K1 f1_0 f1_1 hkr hj hs6 hg
    have hkn : k < n := by omega
    refine own_g (own_F T1 m 5 #[rv a, iv j, rv b, iv j, iv nn, iv j, s6] [(.int j)]) (fun _ z_ => XS.iload X1.here hx rfl (hb hby own_d18_3) rfl z_) ?_
    refine own_g (own_F T1 m 7 #[rv a, iv j, rv b, iv j, iv nn, iv j, s6] [(.int nn), (.int j)]) (fun _ z_ => XS.iload X1.here hx rfl (hb hby own_d18_5) rfl z_) ?_
    refine own_g (own_F T1 m 10 #[rv a, iv j, rv b, iv j, iv nn, iv j, s6] []) (fun _ z_ => XS.icmpNo X1.here hx rfl (hb hby own_d18_7) rfl (tlt (own_jlt hj hn hkn)).2.1 z_) ?_
    refine own_g (own_F T1 m 11 #[rv a, iv j, rv b, iv j, iv nn, iv j, s6] [(.ref a)]) (fun _ z_ => XS.aloadN X1.here hx rfl (hb hby own_d18_10) rfl rfl z_) ?_
    refine own_g (own_F T1 m 12 #[rv a, iv j, rv b, iv j, iv nn, iv j, s6] [(.int j), (.ref a)]) (fun _ z_ => XS.iloadN X1.here hx rfl (hb hby own_d18_11) rfl z_) ?_
    refine own_cald X1 hx hZ e1 f1_0 k hj hkn (hb hby own_d18_12) ?_
    show own_Ends p e below s _ _ _ (own_F T1 m 13 #[rv a, iv j, rv b, iv j, iv nn, iv j, s6] [(.int (f k))])
    refine own_g (own_F T1 m 15 #[rv a, iv j, rv b, iv j, iv nn, iv j, iv (f k)] []) (fun _ z_ => XS.istore X1.here hx rfl (hb hby own_d18_13) rfl (l' := #[rv a, iv j, rv b, iv j, iv nn, iv j, iv (f k)]) (own_st1 rfl hs6 rfl rfl) z_) ?_
    refine own_g (own_F T1 m 17 #[rv a, iv j, rv b, iv j, iv nn, iv j, iv (f k)] [(.int (f k))]) (fun _ z_ => XS.iload X1.here hx rfl (hb hby own_d18_15) rfl z_) ?_
    refine own_g (own_F T1 m 20 #[rv a, iv j, rv b, iv j, iv nn, iv j, iv (f k)] [(.int 255), (.int (f k))]) (fun _ z_ => XS.sipush X1.here hx rfl (hb hby own_d18_17) z_) ?_
    refine own_g (own_F T1 m 26 #[rv a, iv j, rv b, iv j, iv nn, iv j, iv (f k)] []) (fun _ z_ => XS.icmpYes X1.here hx rfl (pc0 := 20) (pc' := 26) rfl (hb hby own_d18_20) rfl (flt (own_c255 (hf k hkn).2)).2.2.2 (by decide) (by decide) z_) ?_
    refine own_g (own_F T1 m 27 #[rv a, iv j, rv b, iv j, iv nn, iv j, iv (f k)] [(.ref b)]) (fun _ z_ => XS.aloadN X1.here hx rfl (hb hby own_d18_26) rfl rfl z_) ?_
    refine own_g (own_F T1 m 28 #[rv a, iv j, rv b, iv j, iv nn, iv j, iv (f k)] [(.int j), (.ref b)]) (fun _ z_ => XS.iloadN X1.here hx rfl (hb hby own_d18_27) rfl z_) ?_
    refine own_g (own_F T1 m 30 #[rv a, iv j, rv b, iv j, iv nn, iv j, iv (f k)] [(.int (f k)), (.int j), (.ref b)]) (fun _ z_ => XS.iload X1.here hx rfl (hb hby own_d18_28) rfl z_) ?_
    refine own_g (own_F T1 m 31 #[rv a, iv j, rv b, iv j, iv nn, iv j, iv (f k)] [(.int ((f k).toInt8.toInt32)), (.int j), (.ref b)]) (fun _ z_ => XS.i2b X1.here hx rfl (hb hby own_d18_30) rfl z_) ?_
    refine own_bast X1 hx hZ e1 f1_1 k hj hkn ((f k).toInt8.toInt32) (own_narB _) (hb hby own_d18_31) ?_
    intro T2 h2 X2 e2 W2 A2
    have N2 := Fr.snoc X2 N1 g_b
    obtain ⟨g2, hg2⟩ : ∃ gq_ : Nat → Int32, gq_ = fun q_ => if q_ = k then ((f k).toInt8.toInt32) else g q_ := ⟨_, rfl⟩
    have A2 : own_A Z h2 b .byte n (fun q_ => .int (g2 q_)) := by rw [hg2]; exact A2
    show own_Ends p e below s _ _ _ (own_F T2 m 32 #[rv a, iv j, rv b, iv j, iv nn, iv j, iv (f k)] [])
    refine own_g (own_F T2 m 35 #[rv a, iv (j + (1 : Int32)), rv b, iv j, iv nn, iv j, iv (f k)] []) (fun _ z_ => XS.iinc X2.here hx rfl (hb hby own_d18_32) rfl (l' := #[rv a, iv (j + (1 : Int32)), rv b, iv j, iv nn, iv j, iv (f k)]) rfl z_) ?_
    refine own_g (own_F T2 m 38 #[rv a, iv (j + (1 : Int32)), rv b, iv (j + (1 : Int32)), iv nn, iv j, iv (f k)] []) (fun _ z_ => XS.iinc X2.here hx rfl (hb hby own_d18_35) rfl (l' := #[rv a, iv (j + (1 : Int32)), rv b, iv (j + (1 : Int32)), iv nn, iv j, iv (f k)]) rfl z_) ?_
    refine own_g (own_F T2 m 41 #[rv a, iv (j + (1 : Int32)), rv b, iv (j + (1 : Int32)), iv nn, iv (j + (1 : Int32)), iv (f k)] []) (fun _ z_ => XS.iinc X2.here hx rfl (hb hby own_d18_38) rfl (l' := #[rv a, iv (j + (1 : Int32)), rv b, iv (j + (1 : Int32)), iv nn, iv (j + (1 : Int32)), iv (f k)]) rfl z_) ?_
    refine own_g (own_F T2 m 3 #[rv a, iv (j + (1 : Int32)), rv b, iv (j + (1 : Int32)), iv nn, iv (j + (1 : Int32)), iv (f k)] []) (fun _ z_ => XS.goto X2.here hx rfl (pc0 := 41) (pc' := 3) rfl (hb hby own_d18_41) (by decide) (by decide) z_) ?_
    exact ih (k + 1) (j + (1 : Int32)) _ g2 T2 _ _ s hZ hown X2 e2 N2 (Nat.le_trans zs1 (Nat.le_of_eq W2.size.symm)) (Nat.le_trans zz1 (Nat.le_of_eq W2.size.symm)) (K1.wr W2 (Or.inl (List.mem_of_getElem? (i := 0) rfl))) (f1_0.other W2 ne_ab) A2 (by omega) (own_succ hj hkn hn31) (One.val rfl) (own_gstep hg hg2 rfl)
  refine own_g (own_F T0 m 1 #[rv a, iv 0, rv b, iv 0, iv nn, .unset, .unset] [(.int 0)]) (fun _ z_ => XS.iconst X0.here hx rfl (hb hby own_d18_0) z_) ?_
  refine own_g (own_F T0 m 3 #[rv a, iv 0, rv b, iv 0, iv nn, iv 0, .unset] []) (fun _ z_ => XS.istore X0.here hx rfl (hb hby own_d18_1) rfl (l' := #[rv a, iv 0, rv b, iv 0, iv nn, iv 0, .unset]) rfl z_) ?_
  exact J n 0 (0 : Int32) _ g T0 _ _ s hZ hown X0 e0 N0 Z0 (Nat.le_refl h0.size) (Keep.refl _ _) Aa Ab (by omega) rfl (One.u) (fun i hi => absurd hi (Nat.not_lt_zero i))
set_option maxRecDepth 65536 in
set_option maxHeartbeats 40000000 in
theorem own_cmp1 (l : Launch) (Z : State) (a0 : Array Value) (hw : ∀ d ∈ tables_1, d.before a0 Z = true) (ws : List Jvm.Cond) (a : Addr) (n : Nat) (nn : Int32) (f : Nat → Int32) (h0 : Heap) (n0 : Nat) (Z0 : n0 ≤ h0.size) (hn : nn.toInt = (n : Int)) (hn31 : n < 2 ^ 31) (hcap : n ≤ 2) (Aa : own_A Z h0 a .char n (fun i => .int (f i))) (hf : ∀ i, i < n → 0 ≤ (f i).toInt ∧ (f i).toInt ≤ 255) :
    own_Met l Z (⟨"java/lang/StringUTF16", "compress", "([CII)[B"⟩ : MethodName) jdk_52_method_16_code 6 (some (.array .byte)) ws ({ frames := 1, cells := 1, slots := 2, locals := 18 } : Room) #[(.ref a), (.int 0), (.int nn)] h0 (fun v h L => ∃ b : Addr, v = some (.ref b) ∧ Fr n0 L ∧ Keep h0 h [] ∧ n0 ≤ b ∧ h0.size ≤ b ∧ own_A Z h b .byte n (fun i => .int ((f i).toInt8.toInt32))) := by
  refine own_body own_pn7 (fun m => mkF m 0 #[rv a, iv 0, iv nn, .unset, .unset, .unset] []) (fun m => own_ef_own_cmp1 m a (0 : Int32) nn) ?_
  intro p e s m below meth c T0 hx hby hml hlk hrt hZ hown hnm X0 e0
  have hown : s.vm.findClass "java/lang/StringUTF16" = some m.cls := hown
  have N0 := Fr.nil n0
  refine own_g (own_F T0 m 1 #[rv a, iv 0, iv nn, .unset, .unset, .unset] [(.int nn)]) (fun _ z_ => XS.iloadN X0.here hx rfl (hb hby own_d17_0) rfl z_) ?_
  refine own_newA X0 hx hZ .byte rfl (own_w hw 13) e0 (hb hby own_d17_1) n hn 2 hcap (by decide) (by decide) (by decide) ?_
  intro T1 h1 b1 X1 e1 E1 g1 A1
  have sz_b1 : h0.size ≤ b1 := Nat.le_trans (Nat.le_refl h0.size) (Nat.le_of_eq g1.symm)
  have ge_b1 : n0 ≤ b1 := Nat.le_trans Z0 (Nat.le_of_eq g1.symm)
  have ne_a_b1 : a ≠ b1 := Nat.ne_of_lt (Nat.lt_of_lt_of_le Aa.lt (Nat.le_of_eq g1.symm))
  have A1 : own_A Z h1 b1 .byte n (fun q_ => .int ((fun _ => (0 : Int32)) q_)) := A1
  show own_Ends p e below s _ _ _ (own_F T1 m 3 #[rv a, iv 0, iv nn, .unset, .unset, .unset] [(.ref b1)])
  refine own_g (own_F T1 m 4 #[rv a, iv 0, iv nn, rv b1, .unset, .unset] []) (fun _ z_ => XS.astoreN X1.here hx rfl (hb hby own_d17_3) rfl rfl (l' := #[rv a, iv 0, iv nn, rv b1, .unset, .unset]) rfl z_) ?_
  refine own_g (own_F T1 m 5 #[rv a, iv 0, iv nn, rv b1, .unset, .unset] [(.ref a)]) (fun _ z_ => XS.aloadN X1.here hx rfl (hb hby own_d17_4) rfl rfl z_) ?_
  refine own_g (own_F T1 m 6 #[rv a, iv 0, iv nn, rv b1, .unset, .unset] [(.int 0), (.ref a)]) (fun _ z_ => XS.iloadN X1.here hx rfl (hb hby own_d17_5) rfl z_) ?_
  refine own_g (own_F T1 m 7 #[rv a, iv 0, iv nn, rv b1, .unset, .unset] [(.ref b1), (.int 0), (.ref a)]) (fun _ z_ => XS.aloadN X1.here hx rfl (hb hby own_d17_6) rfl rfl z_) ?_
  refine own_g (own_F T1 m 8 #[rv a, iv 0, iv nn, rv b1, .unset, .unset] [(.int 0), (.ref b1), (.int 0), (.ref a)]) (fun _ z_ => XS.iconst X1.here hx rfl (hb hby own_d17_7) z_) ?_
  refine own_g (own_F T1 m 9 #[rv a, iv 0, iv nn, rv b1, .unset, .unset] [(.int nn), (.int 0), (.ref b1), (.int 0), (.ref a)]) (fun _ z_ => XS.iloadN X1.here hx rfl (hb hby own_d17_8) rfl z_) ?_
  refine own_callS (y := (⟨"java/lang/StringUTF16", "compress", "([CI[BII)I"⟩ : MethodName)) X1 hx hZ hown (own_w hw 89) (own_w hw 90) (own_w hw 87) (own_w hw 91) (by decide) e1 (hM := own_cmp2 l Z a0 hw [] a b1 n nn f (fun _ => 0) h1 n0 (Nat.le_trans Z0 E1.1) hn hn31 (Aa.ext E1) A1 hf ge_b1 ne_a_b1) (W := 0) (pc := 9) (Ls := #[rv a, iv 0, iv nn, rv b1, .unset, .unset]) (argsL := [(.ref a), (.int 0), (.ref b1), (.int 0), (.int nn)]) (rest := []) (st0 := [(.int nn), (.int 0), (.ref b1), (.int 0), (.ref a)]) (by rw [hml]; rfl) (lenOf own_pd4 rfl) rfl (Nat.le_of_eq rfl) (hb hby own_d17_9) (by decide) (by decide) (by decide) (by decide) ?_
  intro v2 T2 L2 s X2 hZ hown hI2 hvm2 hhp2 hWw2 hQ2
  obtain ⟨rfl, Nq2, K2, Ab2⟩ := hQ2
  have N2 := Fr.app N0 Nq2
  show own_Ends p e below s _ _ _ (own_F T2 m 12 #[rv a, iv 0, iv nn, rv b1, .unset, .unset] [(.int nn)])
  refine own_g (own_F T2 m 14 #[rv a, iv 0, iv nn, rv b1, iv nn, .unset] []) (fun _ z_ => XS.istore X2.here hx rfl (hb hby own_d17_12) rfl (l' := #[rv a, iv 0, iv nn, rv b1, iv nn, .unset]) rfl z_) ?_
  refine own_g (own_F T2 m 16 #[rv a, iv 0, iv nn, rv b1, iv nn, .unset] [(.int nn)]) (fun _ z_ => XS.iload X2.here hx rfl (hb hby own_d17_14) rfl z_) ?_
  refine own_g (own_F T2 m 17 #[rv a, iv 0, iv nn, rv b1, iv nn, .unset] [(.int nn), (.int nn)]) (fun _ z_ => XS.iloadN X2.here hx rfl (hb hby own_d17_16) rfl z_) ?_
  refine own_g (own_F T2 m 57 #[rv a, iv 0, iv nn, rv b1, iv nn, .unset] []) (fun _ z_ => XS.icmpYes X2.here hx rfl (pc0 := 17) (pc' := 57) rfl (hb hby own_d17_17) rfl (teq (rfl : nn = nn)).1 (by decide) (by decide) z_) ?_
  refine own_g (own_F T2 m 58 #[rv a, iv 0, iv nn, rv b1, iv nn, .unset] [(.ref b1)]) (fun _ z_ => XS.aloadN X2.here hx rfl (hb hby own_d17_57) rfl rfl z_) ?_
  refine own_ret (t := (.array .byte)) X2 hx hlk hrt rfl (Or.inr (Or.inr (Or.inr (Or.inr ⟨rfl, rfl, rfl⟩)))) (hb hby own_d17_58) (by decide) (by decide) ?_
  exact ⟨b1, rfl, N2, (((Keep.refl _ _).ext E1).trans K2 (allS (Or.inr sz_b1) all0)), ge_b1, sz_b1, Ab2⟩
set_option maxRecDepth 65536 in
set_option maxHeartbeats 40000000 in
theorem own_cfl (l : Launch) (Z : State) (a0 : Array Value) (hw : ∀ d ∈ tables_1, d.before a0 Z = true) (ws : List Jvm.Cond) (a : Addr) (n : Nat) (nn : Int32) (g : Nat → Int32) (h0 : Heap) (n0 : Nat) (Z0 : n0 ≤ h0.size) (hn : nn.toInt = (n : Int)) (Aa : own_A Z h0 a .byte n (fun i => .int (g i))) :
    own_Met l Z (⟨"java/lang/StringUTF16", "coderFromArrayLen", "([BI)B"⟩ : MethodName) jdk_52_method_15_code 2 (some .byte) ws ({ frames := 0, cells := 0, slots := 0, locals := 0 } : Room) #[(.ref a), (.int nn)] h0 (fun v h L => v = some (.int (0 : Int32)) ∧ Fr n0 L ∧ h = h0) := by
  refine own_body own_pn8 (fun m => mkF m 0 #[rv a, iv nn] []) (fun m => own_ef_own_cfl m a nn) ?_
  intro p e s m below meth c T0 hx hby hml hlk hrt hZ hown hnm X0 e0
  have hown : s.vm.findClass "java/lang/StringUTF16" = some m.cls := hown
  have N0 := Fr.nil n0
  refine own_g (own_F T0 m 1 #[rv a, iv nn] [(.int nn)]) (fun _ z_ => XS.iloadN X0.here hx rfl (hb hby own_d19_0) rfl z_) ?_
  refine own_g (own_F T0 m 2 #[rv a, iv nn] [(.ref a), (.int nn)]) (fun _ z_ => XS.aloadN X0.here hx rfl (hb hby own_d19_1) rfl rfl z_) ?_
  refine own_alen X0 hx hZ e0 Aa (hb hby own_d19_2) ?_
  rw [own_n32 hn]
  show own_Ends p e below s _ _ _ (own_F T0 m 3 #[rv a, iv nn] [(.int nn), (.int nn)])
  refine own_g (own_F T0 m 4 #[rv a, iv nn] [(.int (nn - nn))]) (fun _ z_ => XS.isub X0.here hx rfl (hb hby own_d19_3) rfl z_) ?_
  refine own_g (own_F T0 m 6 #[rv a, iv nn] [(.int 31), (.int (nn - nn))]) (fun _ z_ => XS.bipush X0.here hx rfl (hb hby own_d19_4) z_) ?_
  refine own_g (own_F T0 m 7 #[rv a, iv nn] [(.int (((nn - nn).toUInt32 >>> ((31 : Int32) &&& 31).toUInt32).toInt32))]) (fun _ z_ => XS.iushr X0.here hx rfl (hb hby own_d19_6) rfl z_) ?_
  refine own_g (own_F T0 m 8 #[rv a, iv nn] [(.int ((((nn - nn).toUInt32 >>> ((31 : Int32) &&& 31).toUInt32).toInt32).toInt8.toInt32))]) (fun _ z_ => XS.i2b X0.here hx rfl (hb hby own_d19_7) rfl z_) ?_
  refine own_ret (t := .byte) X0 hx hlk hrt (own_i2b _) (Or.inl ⟨rfl, by simp, _, rfl⟩) (hb hby own_d19_8) (by decide) (by decide) ?_
  exact ⟨congrArg (fun z => some (Value.int z)) (own_sub31 nn), N0, e0⟩
set_option maxRecDepth 65536 in
set_option maxHeartbeats 40000000 in
theorem own_si4 (l : Launch) (Z : State) (a0 : Array Value) (hw : ∀ d ∈ tables_1, d.before a0 Z = true) (ws : List Jvm.Cond) (x a : Addr) (n : Nat) (nn zc : Int32) (f : Nat → Int32) (h0 : Heap) (n0 : Nat) (Z0 : n0 ≤ h0.size) (hn : nn.toInt = (n : Int)) (hn31 : n < 2 ^ 31) (hcap : n ≤ 2) (hn0 : ¬ nn = (0 : Int32)) (hzc : ¬ zc = (0 : Int32)) (Aa : own_A Z h0 a .char n (fun i => .int (f i))) (hf : ∀ i, i < n → 0 ≤ (f i).toInt ∧ (f i).toInt ≤ 255) (E_x : Exa Z h0 x "java/lang/String") (F_v : Fld Z h0 x "java/lang/String" "value" "[B" .null) (F_c : Fld Z h0 x "java/lang/String" "coder" "B" (.int (0 : Int32))) (S_cs : Sta Z h0 "java/lang/String" "COMPACT_STRINGS" "Z" (.int zc)) (g_x : n0 ≤ x) (ne_xa : x ≠ a) :
    own_Met l Z (⟨"java/lang/String", "<init>", "([CIILjava/lang/Void;)V"⟩ : MethodName) jdk_42_method_149_code 6 none ws ({ frames := 2, cells := 1, slots := 2, locals := 35 } : Room) #[(.ref x), (.ref a), (.int 0), (.int nn), .null] h0 (fun v h L => v = none ∧ Fr n0 L ∧ Keep h0 h [x] ∧ ∃ t : Addr, own_Lat Z h x t n f ∧ n0 ≤ t) := by
  refine own_body own_pn9 (fun m => mkF m 0 #[rv x, rv a, iv 0, iv nn, .val .null, .unset] []) (fun m => own_ef_own_si4 m x a (0 : Int32) nn) ?_
  intro p e s m below meth c T0 hx hby hml hlk hrt hZ hown hnm X0 e0
  have hown : s.vm.findClass "java/lang/String" = some m.cls := hown
  have N0 := Fr.nil n0
  refine own_g (own_F T0 m 1 #[rv x, rv a, iv 0, iv nn, .val .null, .unset] [(.ref x)]) (fun _ z_ => XS.aloadN X0.here hx rfl (hb hby own_d16_0) rfl rfl z_) ?_
  obtain ⟨T1, X1, e1, st1⟩ := initO X0 hx hZ hown (own_w hw 74) (own_w hw 27) (own_w hw 28) e0 (g := (mkF m 1 #[rv x, rv a, iv 0, iv nn, .val .null, .unset] [(.ref x)])) rfl (by rw [hml]; rfl) rfl (hb hby own_d16_1) (by decide) (W := 0) (by show 2 * 0 + _ ≤ _; exact Nat.le_of_eq rfl) (by decide)
  refine own_pre (S' := (own_F T1 m 4 #[rv x, rv a, iv 0, iv nn, .val .null, .unset] [])) st1 ?_
  refine own_g (own_F T1 m 5 #[rv x, rv a, iv 0, iv nn, .val .null, .unset] [(.int nn)]) (fun _ z_ => XS.iloadN X1.here hx rfl (hb hby own_d16_4) rfl z_) ?_
  refine own_g (own_F T1 m 27 #[rv x, rv a, iv 0, iv nn, .val .null, .unset] []) (fun _ z_ => XS.ifYes X1.here hx rfl (pc0 := 5) (pc' := 27) rfl (hb hby own_d16_5) rfl ((if0 _ _).trans (feq hn0).2) (by decide) (by decide) z_) ?_
  obtain ⟨T2, X2, e2, st2⟩ := getS2 X1 hx hZ hown (host := "") (Or.inl (own_w hw 61)) Via.refl e1 S_cs (g := (mkF m 27 #[rv x, rv a, iv 0, iv nn, .val .null, .unset] [])) rfl (hb hby own_d16_27)
  refine own_pre (S' := (own_F T2 m 30 #[rv x, rv a, iv 0, iv nn, .val .null, .unset] [(.int zc)])) st2 ?_
  refine own_g (own_F T2 m 33 #[rv x, rv a, iv 0, iv nn, .val .null, .unset] []) (fun _ z_ => XS.ifNo X2.here hx rfl (hb hby own_d16_30) rfl ((if0 _ _).trans (feq hzc).1) z_) ?_
  refine own_g (own_F T2 m 34 #[rv x, rv a, iv 0, iv nn, .val .null, .unset] [(.ref a)]) (fun _ z_ => XS.aloadN X2.here hx rfl (hb hby own_d16_33) rfl rfl z_) ?_
  refine own_g (own_F T2 m 35 #[rv x, rv a, iv 0, iv nn, .val .null, .unset] [(.int 0), (.ref a)]) (fun _ z_ => XS.iloadN X2.here hx rfl (hb hby own_d16_34) rfl z_) ?_
  refine own_g (own_F T2 m 36 #[rv x, rv a, iv 0, iv nn, .val .null, .unset] [(.int nn), (.int 0), (.ref a)]) (fun _ z_ => XS.iloadN X2.here hx rfl (hb hby own_d16_35) rfl z_) ?_
  refine own_callS (y := (⟨"java/lang/StringUTF16", "compress", "([CII)[B"⟩ : MethodName)) X2 hx hZ hown (own_w hw 85) (own_w hw 86) (own_w hw 87) (own_w hw 88) (by decide) e2 (hM := own_cmp1 l Z a0 hw [] a n nn f h0 n0 Z0 hn hn31 hcap Aa hf) (W := 0) (pc := 36) (Ls := #[rv x, rv a, iv 0, iv nn, .val .null, .unset]) (argsL := [(.ref a), (.int 0), (.int nn)]) (rest := []) (st0 := [(.int nn), (.int 0), (.ref a)]) (by rw [hml]; rfl) (lenOf own_pd5 rfl) rfl (Nat.le_of_eq rfl) (hb hby own_d16_36) (by decide) (by decide) (by decide) (by decide) ?_
  intro v3 T3 L3 s X3 hZ hown hI3 hvm3 hhp3 hWw3 hQ3
  obtain ⟨t3, rfl, Nq3, K3, gt3, gz3, At3⟩ := hQ3
  have N3 := Fr.app N0 Nq3
  show own_Ends p e below s _ _ _ (own_F T3 m 39 #[rv x, rv a, iv 0, iv nn, .val .null, .unset] [(.ref t3)])
  have ne_xt3 : x ≠ t3 := Nat.ne_of_lt (Nat.lt_of_lt_of_le E_x.lt gz3)
  refine own_g (own_F T3 m 41 #[rv x, rv a, iv 0, iv nn, .val .null, rv t3] []) (fun _ z_ => XS.astore X3.here hx rfl (hb hby own_d16_39) rfl rfl (l' := #[rv x, rv a, iv 0, iv nn, .val .null, rv t3]) rfl z_) ?_
  refine own_g (own_F T3 m 42 #[rv x, rv a, iv 0, iv nn, .val .null, rv t3] [(.ref x)]) (fun _ z_ => XS.aloadN X3.here hx rfl (hb hby own_d16_41) rfl rfl z_) ?_
  refine own_g (own_F T3 m 44 #[rv x, rv a, iv 0, iv nn, .val .null, rv t3] [(.ref t3), (.ref x)]) (fun _ z_ => XS.aload X3.here hx rfl (hb hby own_d16_42) rfl rfl z_) ?_
  refine own_g (own_F T3 m 45 #[rv x, rv a, iv 0, iv nn, .val .null, rv t3] [(.int nn), (.ref t3), (.ref x)]) (fun _ z_ => XS.iloadN X3.here hx rfl (hb hby own_d16_44) rfl z_) ?_
  refine own_callS (y := (⟨"java/lang/StringUTF16", "coderFromArrayLen", "([BI)B"⟩ : MethodName)) X3 hx hZ hown (own_w hw 92) (own_w hw 93) (own_w hw 87) (own_w hw 94) (by decide) (rfl : T3.heap = T3.heap) (hM := own_cfl l Z a0 hw [] t3 n nn _ T3.heap n0 (Nat.le_trans Z0 K3.1) hn At3) (W := 1) (pc := 45) (Ls := #[rv x, rv a, iv 0, iv nn, .val .null, rv t3]) (argsL := [(.ref t3), (.int nn)]) (rest := [(.ref x)]) (st0 := [(.int nn), (.ref t3), (.ref x)]) (by rw [hml]; rfl) (lenOf own_pd6 rfl) rfl (Nat.le_of_eq rfl) (hb hby own_d16_45) (by decide) (by decide) (by decide) (by decide) ?_
  intro v4 T4 L4 s X4 hZ hown hI4 hvm4 hhp4 hWw4 hQ4
  obtain ⟨rfl, Nq4, hh4⟩ := hQ4
  have N4 := Fr.app N3 Nq4
  show own_Ends p e below s _ _ _ (own_F T4 m 48 #[rv x, rv a, iv 0, iv nn, .val .null, rv t3] [(.int 0), (.ref x)])
  obtain ⟨T5, h5, X5, e5, W5, st5⟩ := putF X4 hx hZ hown (host := "") (Or.inl (own_w hw 76)) Via.refl hh4 (F_c.keep K3 nin0) (E_x.keep K3) (Or.inr ⟨(own_w hw 15), rfl, hnm⟩) (own_w hw 12) (ty := .byte) (by decide) rfl rfl (g := (mkF m 48 #[rv x, rv a, iv 0, iv nn, .val .null, rv t3] [(.int 0), (.ref x)])) rfl rfl (hb hby own_d16_48)
  have N5 := Fr.snoc X5 N4 g_x
  have Fw5 := (F_c.keep K3 nin0).same W5
  refine own_pre (S' := (own_F T5 m 51 #[rv x, rv a, iv 0, iv nn, .val .null, rv t3] [])) st5 ?_
  refine own_g (own_F T5 m 52 #[rv x, rv a, iv 0, iv nn, .val .null, rv t3] [(.ref x)]) (fun _ z_ => XS.aloadN X5.here hx rfl (hb hby own_d16_51) rfl rfl z_) ?_
  refine own_g (own_F T5 m 54 #[rv x, rv a, iv 0, iv nn, .val .null, rv t3] [(.ref t3), (.ref x)]) (fun _ z_ => XS.aload X5.here hx rfl (hb hby own_d16_52) rfl rfl z_) ?_
  obtain ⟨T6, h6, X6, e6, W6, st6⟩ := putF X5 hx hZ hown (host := "") (Or.inl (own_w hw 75)) Via.refl e5 ((F_v.keep K3 nin0).other W5 (Or.inr (slot_ne (C := "java/lang/String") (Or.inr (own_w hw 14)) (Or.inr (own_w hw 15)) (by decide) (t := (.array .byte)) (t' := .byte) (by decide) (by decide)))) ((E_x.keep K3).wr W5) (Or.inr ⟨(own_w hw 14), rfl, hnm⟩) (own_w hw 12) (ty := (.array .byte)) (by decide) rfl rfl (g := (mkF m 54 #[rv x, rv a, iv 0, iv nn, .val .null, rv t3] [(.ref t3), (.ref x)])) rfl rfl (hb hby own_d16_54)
  have N6 := Fr.snoc X6 N5 g_x
  have Fw6 := ((F_v.keep K3 nin0).other W5 (Or.inr (slot_ne (C := "java/lang/String") (Or.inr (own_w hw 14)) (Or.inr (own_w hw 15)) (by decide) (t := (.array .byte)) (t' := .byte) (by decide) (by decide)))).same W6
  refine own_pre (S' := (own_F T6 m 57 #[rv x, rv a, iv 0, iv nn, .val .null, rv t3] [])) st6 ?_
  refine own_retV X6 hx hlk hrt (hb hby own_d16_57) (by decide) (by decide) ?_
  show _ ∧ Fr n0 _ ∧ Keep h0 T6.heap [x] ∧ _
  rw [e6]
  exact ⟨rfl, N6, ((((Keep.refl _ _).trans K3 all0).wr W5 (Or.inl (List.mem_of_getElem? (i := 0) rfl))).wr W6 (Or.inl (List.mem_of_getElem? (i := 0) rfl))), t3, ⟨(((E_x.keep K3).wr W5).wr W6), Fw6, (Fw5.other W6 (Or.inr (slot_ne (C := "java/lang/String") (Or.inr (own_w hw 15)) (Or.inr (own_w hw 14)) (by decide) (t := .byte) (t' := (.array .byte)) (by decide) (by decide)))), ((At3.other W5 (Ne.symm ne_xt3)).other W6 (Ne.symm ne_xt3)), hf⟩, gt3⟩
set_option maxRecDepth 65536 in
set_option maxHeartbeats 40000000 in
theorem own_si (l : Launch) (Z : State) (a0 : Array Value) (hw : ∀ d ∈ tables_1, d.before a0 Z = true) (ws : List Jvm.Cond) (x a : Addr) (n : Nat) (nn zc : Int32) (f : Nat → Int32) (h0 : Heap) (n0 : Nat) (Z0 : n0 ≤ h0.size) (hn : nn.toInt = (n : Int)) (hn31 : n < 2 ^ 31) (hcap : n ≤ 2) (hn0 : ¬ nn = (0 : Int32)) (hzc : ¬ zc = (0 : Int32)) (Aa : own_A Z h0 a .char n (fun i => .int (f i))) (hf : ∀ i, i < n → 0 ≤ (f i).toInt ∧ (f i).toInt ≤ 255) (E_x : Exa Z h0 x "java/lang/String") (F_v : Fld Z h0 x "java/lang/String" "value" "[B" .null) (F_c : Fld Z h0 x "java/lang/String" "coder" "B" (.int (0 : Int32))) (S_cs : Sta Z h0 "java/lang/String" "COMPACT_STRINGS" "Z" (.int zc)) (g_x : n0 ≤ x) (ne_xa : x ≠ a) :
    own_Met l Z (⟨"java/lang/String", "<init>", "([C)V"⟩ : MethodName) jdk_42_method_3_code 2 none ws ({ frames := 3, cells := 1, slots := 2, locals := 52 } : Room) #[(.ref x), (.ref a)] h0 (fun v h L => v = none ∧ Fr n0 L ∧ Keep h0 h [x] ∧ ∃ t : Addr, own_Lat Z h x t n f ∧ n0 ≤ t) := by
  refine own_body own_pn10 (fun m => mkF m 0 #[rv x, rv a] []) (fun m => own_ef_own_si m x a) ?_
  intro p e s m below meth c T0 hx hby hml hlk hrt hZ hown hnm X0 e0
  have hown : s.vm.findClass "java/lang/String" = some m.cls := hown
  have N0 := Fr.nil n0
  refine own_g (own_F T0 m 1 #[rv x, rv a] [(.ref x)]) (fun _ z_ => XS.aloadN X0.here hx rfl (hb hby own_d15_0) rfl rfl z_) ?_
  refine own_g (own_F T0 m 2 #[rv x, rv a] [(.ref a), (.ref x)]) (fun _ z_ => XS.aloadN X0.here hx rfl (hb hby own_d15_1) rfl rfl z_) ?_
  refine own_g (own_F T0 m 3 #[rv x, rv a] [(.int 0), (.ref a), (.ref x)]) (fun _ z_ => XS.iconst X0.here hx rfl (hb hby own_d15_2) z_) ?_
  refine own_g (own_F T0 m 4 #[rv x, rv a] [(.ref a), (.int 0), (.ref a), (.ref x)]) (fun _ z_ => XS.aloadN X0.here hx rfl (hb hby own_d15_3) rfl rfl z_) ?_
  refine own_alen X0 hx hZ e0 Aa (hb hby own_d15_4) ?_
  rw [own_n32 hn]
  show own_Ends p e below s _ _ _ (own_F T0 m 5 #[rv x, rv a] [(.int nn), (.int 0), (.ref a), (.ref x)])
  refine own_g (own_F T0 m 6 #[rv x, rv a] [.null, (.int nn), (.int 0), (.ref a), (.ref x)]) (fun _ z_ => XS.aconstNull X0.here hx rfl (hb hby own_d15_5) z_) ?_
  refine own_callI (y := (⟨"java/lang/String", "<init>", "([CIILjava/lang/Void;)V"⟩ : MethodName)) (b := x) X0 hx hZ hown rfl (own_w hw 82) (own_w hw 83) (own_w hw 84) (own_w hw 11) (by decide) e0 (hM := own_si4 l Z a0 hw [] x a n nn zc f h0 n0 Z0 hn hn31 hcap hn0 hzc Aa hf E_x F_v F_c S_cs g_x ne_xa) (W := 0) (pc := 6) (Ls := #[rv x, rv a]) (argsL := [(.ref a), (.int 0), (.int nn), .null]) (rest := []) (st0 := [.null, (.int nn), (.int 0), (.ref a), (.ref x)]) (by rw [hml]; rfl) (lenOf own_pd7 rfl) rfl (Nat.le_of_eq rfl) (hb hby own_d15_6) (by decide) (by decide) (by decide) (by decide) ?_
  intro v1 T1 L1 s X1 hZ hown hI1 hvm1 hhp1 hWw1 hQ1
  obtain ⟨rfl, Nq1, K1, t1, Lt1, gt1⟩ := hQ1
  have N1 := Fr.app N0 Nq1
  show own_Ends p e below s _ _ _ (own_F T1 m 9 #[rv x, rv a] [])
  refine own_retV X1 hx hlk hrt (hb hby own_d15_9) (by decide) (by decide) ?_
  exact ⟨rfl, N1, K1, t1, Lt1, gt1⟩
set_option maxRecDepth 65536 in
set_option maxHeartbeats 40000000 in
theorem own_eq2 (l : Launch) (Z : State) (a0 : Array Value) (hw : ∀ d ∈ tables_1, d.before a0 Z = true) (ws : List Jvm.Cond) (a b : Addr) (n n2 : Nat) (nn mm ro : Int32) (f g : Nat → Int32) (h0 : Heap) (n0 : Nat) (Z0 : n0 ≤ h0.size) (hn : nn.toInt = (n : Int)) (hm : mm.toInt = (n2 : Int)) (Aa : own_A Z h0 a .byte n (fun i => .int (f i))) (Ab : own_A Z h0 b .byte n2 (fun i => .int (g i))) (hr : (ro = 1 ∧ own_eqs n n2 f g) ∨ (ro = 0 ∧ ¬ own_eqs n n2 f g)) :
    own_Met l Z (⟨"java/lang/StringLatin1", "equals", "([B[B)Z"⟩ : MethodName) jdk_43_method_13_code 3 (some .boolean) ws ({ frames := 0, cells := 0, slots := 0, locals := 0 } : Room) #[(.ref a), (.ref b)] h0 (fun v h L => v = some (.int ro) ∧ Fr n0 L ∧ h = h0) := by
  refine own_body own_pn11 (fun m => mkF m 0 #[rv a, rv b, .unset] []) (fun m => own_ef_own_eq2 m a b) ?_
  intro p e s m below meth c T0 hx hby hml hlk hrt hZ hown hnm X0 e0
  have hown : s.vm.findClass "java/lang/StringLatin1" = some m.cls := hown
  have N0 := Fr.nil n0
  have J : ∀ (r : Nat) (k : Nat) (j : Int32) (T1 : State) (lc1 : List Loc) (hp1 : Heap) (s : State) (hZ : Z.Warmed39 s.vm) (hown : s.vm.findClass "java/lang/StringLatin1" = some m.cls) (X1 : Stand p l e ({ frames := 0, cells := 0, slots := 0, locals := 0 } : Room) s m #[(.ref a), (.ref b)] below meth c T1 lc1 0 0) (e1 : T1.heap = hp1) (N1 : Fr n0 lc1) (zs1 : n0 ≤ hp1.size) (zz1 : h0.size ≤ hp1.size) (f1_0 : own_A Z hp1 a .byte n (fun i => .int (f i))) (f1_1 : own_A Z hp1 b .byte n2 (fun i => .int (g i))) (hkr : k + r = n) (hj : j.toInt = (k : Int)) (hmn : n = n2) (hq : hp1 = h0) (hg : ∀ i, i < k → f i = g i), own_Ends p e below s ((fun v h L _ => v = some (.int ro) ∧ Fr n0 L ∧ h = h0), []) ({ frames := 0, cells := 0, slots := 0, locals := 0 } : Room).cells ({ frames := 0, cells := 0, slots := 0, locals := 0 } : Room).slots (own_F T1 m 9 #[rv a, rv b, iv j] []) := by
   intro r
   induction r with
   | zero =>
    intro k j T1 lc1 hp1 s hZ hown X1 e1 N1 zs1 zz1 f1_0 f1_1 hkr hj hmn hq hg
    refine own_g (own_F T1 m 10 #[rv a, rv b, iv j] [(.int j)]) (fun _ z_ => XS.iloadN X1.here hx rfl (hb hby own_d20_9) rfl z_) ?_
    refine own_g (own_F T1 m 11 #[rv a, rv b, iv j] [(.ref a), (.int j)]) (fun _ z_ => XS.aloadN X1.here hx rfl (hb hby own_d20_10) rfl rfl z_) ?_
    refine own_alen X1 hx hZ e1 f1_0 (hb hby own_d20_11) ?_
    rw [own_n32 hn]
    show own_Ends p e below s _ _ _ (own_F T1 m 12 #[rv a, rv b, iv j] [(.int nn), (.int j)])
    refine own_g (own_F T1 m 32 #[rv a, rv b, iv j] []) (fun _ z_ => XS.icmpYes X1.here hx rfl (pc0 := 12) (pc' := 32) rfl (hb hby own_d20_12) rfl (flt (own_jge hj hn (by omega))).2.1 (by decide) (by decide) z_) ?_
    refine own_g (own_F T1 m 33 #[rv a, rv b, iv j] [(.int 1)]) (fun _ z_ => XS.iconst X1.here hx rfl (hb hby own_d20_32) z_) ?_
    refine own_ret (t := .boolean) X1 hx hlk hrt rfl (Or.inl ⟨rfl, by simp, _, rfl⟩) (hb hby own_d20_33) (by decide) (by decide) ?_
    rcases hr with ⟨rfl, -⟩ | ⟨-, hP⟩
    · exact ⟨rfl, N1, (e1.trans hq)⟩
    · exact absurd ⟨hmn, fun i hi => hg i (by omega)⟩ hP
   | succ r ih =>
    intro k j T1 lc1 hp1 s hZ hown X1 e1 N1 zs1 zz1 f1_0 f1_1 hkr hj hmn hq hg
    have hkn : k < n := by omega
    have hkm : k < n2 := by omega
    refine own_g (own_F T1 m 10 #[rv a, rv b, iv j] [(.int j)]) (fun _ z_ => XS.iloadN X1.here hx rfl (hb hby own_d20_9) rfl z_) ?_
    refine own_g (own_F T1 m 11 #[rv a, rv b, iv j] [(.ref a), (.int j)]) (fun _ z_ => XS.aloadN X1.here hx rfl (hb hby own_d20_10) rfl rfl z_) ?_
    refine own_alen X1 hx hZ e1 f1_0 (hb hby own_d20_11) ?_
    rw [own_n32 hn]
    show own_Ends p e below s _ _ _ (own_F T1 m 12 #[rv a, rv b, iv j] [(.int nn), (.int j)])
    refine own_g (own_F T1 m 15 #[rv a, rv b, iv j] []) (fun _ z_ => XS.icmpNo X1.here hx rfl (hb hby own_d20_12) rfl (tlt (own_jlt hj hn hkn)).2.1 z_) ?_
    refine own_g (own_F T1 m 16 #[rv a, rv b, iv j] [(.ref a)]) (fun _ z_ => XS.aloadN X1.here hx rfl (hb hby own_d20_15) rfl rfl z_) ?_
    refine own_g (own_F T1 m 17 #[rv a, rv b, iv j] [(.int j), (.ref a)]) (fun _ z_ => XS.iloadN X1.here hx rfl (hb hby own_d20_16) rfl z_) ?_
    refine own_bald X1 hx hZ e1 f1_0 k hj hkn (hb hby own_d20_17) ?_
    show own_Ends p e below s _ _ _ (own_F T1 m 18 #[rv a, rv b, iv j] [(.int (f k))])
    refine own_g (own_F T1 m 19 #[rv a, rv b, iv j] [(.ref b), (.int (f k))]) (fun _ z_ => XS.aloadN X1.here hx rfl (hb hby own_d20_18) rfl rfl z_) ?_
    refine own_g (own_F T1 m 20 #[rv a, rv b, iv j] [(.int j), (.ref b), (.int (f k))]) (fun _ z_ => XS.iloadN X1.here hx rfl (hb hby own_d20_19) rfl z_) ?_
    refine own_bald X1 hx hZ e1 f1_1 k hj hkm (hb hby own_d20_20) ?_
    show own_Ends p e below s _ _ _ (own_F T1 m 21 #[rv a, rv b, iv j] [(.int (g k)), (.int (f k))])
    by_cases c21 : (f k) = (g k)
    · -- pc 21: (f k) = (g k)
     refine own_g (own_F T1 m 26 #[rv a, rv b, iv j] []) (fun _ z_ => XS.icmpYes X1.here hx rfl (pc0 := 21) (pc' := 26) rfl (hb hby own_d20_21) rfl (teq c21).1 (by decide) (by decide) z_) ?_
     refine own_g (own_F T1 m 29 #[rv a, rv b, iv (j + (1 : Int32))] []) (fun _ z_ => XS.iinc X1.here hx rfl (hb hby own_d20_26) rfl (l' := #[rv a, rv b, iv (j + (1 : Int32))]) rfl z_) ?_
     refine own_g (own_F T1 m 9 #[rv a, rv b, iv (j + (1 : Int32))] []) (fun _ z_ => XS.goto X1.here hx rfl (pc0 := 29) (pc' := 9) rfl (hb hby own_d20_29) (by decide) (by decide) z_) ?_
     exact ih (k + 1) (j + (1 : Int32)) T1 _ _ s hZ hown X1 e1 N1 zs1 zz1 f1_0 f1_1 (by omega) (own_succ hj hkn Aa.1) hmn hq (fun i hi => by by_cases q : i = k; subst q; exact c21; exact hg i (by omega))
    · -- pc 21: not (f k) = (g k)
     refine own_g (own_F T1 m 24 #[rv a, rv b, iv j] []) (fun _ z_ => XS.icmpNo X1.here hx rfl (hb hby own_d20_21) rfl (feq c21).1 z_) ?_
     refine own_g (own_F T1 m 25 #[rv a, rv b, iv j] [(.int 0)]) (fun _ z_ => XS.iconst X1.here hx rfl (hb hby own_d20_24) z_) ?_
     refine own_ret (t := .boolean) X1 hx hlk hrt rfl (Or.inl ⟨rfl, by simp, _, rfl⟩) (hb hby own_d20_25) (by decide) (by decide) ?_
     rcases hr with ⟨-, hP⟩ | ⟨rfl, -⟩
     · exact absurd hP (fun q => c21 (q.2 k hkn))
     · exact ⟨rfl, N1, (e1.trans hq)⟩
  refine own_g (own_F T0 m 1 #[rv a, rv b, .unset] [(.ref a)]) (fun _ z_ => XS.aloadN X0.here hx rfl (hb hby own_d20_0) rfl rfl z_) ?_
  refine own_alen X0 hx hZ e0 Aa (hb hby own_d20_1) ?_
  rw [own_n32 hn]
  show own_Ends p e below s _ _ _ (own_F T0 m 2 #[rv a, rv b, .unset] [(.int nn)])
  refine own_g (own_F T0 m 3 #[rv a, rv b, .unset] [(.ref b), (.int nn)]) (fun _ z_ => XS.aloadN X0.here hx rfl (hb hby own_d20_2) rfl rfl z_) ?_
  refine own_alen X0 hx hZ e0 Ab (hb hby own_d20_3) ?_
  rw [own_n32 hm]
  show own_Ends p e below s _ _ _ (own_F T0 m 4 #[rv a, rv b, .unset] [(.int mm), (.int nn)])
  by_cases c4 : nn = mm
  · -- pc 4: nn = mm
   refine own_g (own_F T0 m 7 #[rv a, rv b, .unset] []) (fun _ z_ => XS.icmpNo X0.here hx rfl (hb hby own_d20_4) rfl (teq c4).2 z_) ?_
   refine own_g (own_F T0 m 8 #[rv a, rv b, .unset] [(.int 0)]) (fun _ z_ => XS.iconst X0.here hx rfl (hb hby own_d20_7) z_) ?_
   refine own_g (own_F T0 m 9 #[rv a, rv b, iv 0] []) (fun _ z_ => XS.istoreN X0.here hx rfl (hb hby own_d20_8) rfl (l' := #[rv a, rv b, iv 0]) rfl z_) ?_
   exact J n 0 (0 : Int32) T0 _ _ s hZ hown X0 e0 N0 Z0 (Nat.le_refl h0.size) Aa Ab (by omega) rfl (Int.ofNat.inj (by show (n : Int) = (n2 : Int); rw [← hn, ← hm, c4])) rfl (fun i hi => absurd hi (Nat.not_lt_zero i))
  · -- pc 4: not nn = mm
   refine own_g (own_F T0 m 34 #[rv a, rv b, .unset] []) (fun _ z_ => XS.icmpYes X0.here hx rfl (pc0 := 4) (pc' := 34) rfl (hb hby own_d20_4) rfl (feq c4).2 (by decide) (by decide) z_) ?_
   refine own_g (own_F T0 m 35 #[rv a, rv b, .unset] [(.int 0)]) (fun _ z_ => XS.iconst X0.here hx rfl (hb hby own_d20_34) z_) ?_
   refine own_ret (t := .boolean) X0 hx hlk hrt rfl (Or.inl ⟨rfl, by simp, _, rfl⟩) (hb hby own_d20_35) (by decide) (by decide) ?_
   rcases hr with ⟨-, hP⟩ | ⟨rfl, -⟩
   · exact absurd hP (fun q => c4 (Int32.toInt_inj.mp (by rw [hn, hm, q.1])))
   · exact ⟨rfl, N0, e0⟩
set_option maxRecDepth 65536 in
set_option maxHeartbeats 40000000 in
theorem own_seq (l : Launch) (Z : State) (a0 : Array Value) (hw : ∀ d ∈ tables_1, d.before a0 Z = true) (ws : List Jvm.Cond) (x y t u : Addr) (n n2 : Nat) (nn mm ro zc : Int32) (f g : Nat → Int32) (h0 : Heap) (n0 : Nat) (Z0 : n0 ≤ h0.size) (hn : nn.toInt = (n : Int)) (hm : mm.toInt = (n2 : Int)) (Lx : own_Lat Z h0 x t n f) (Ly : own_Lat Z h0 y u n2 g) (hr : (ro = 1 ∧ own_eqs n n2 f g) ∨ (ro = 0 ∧ ¬ own_eqs n n2 f g)) (hzc : ¬ zc = (0 : Int32)) (S_cs : Sta Z h0 "java/lang/String" "COMPACT_STRINGS" "Z" (.int zc)) :
    own_Met l Z (⟨"java/lang/String", "equals", "(Ljava/lang/Object;)Z"⟩ : MethodName) jdk_42_method_66_code 3 (some .boolean) ws ({ frames := 1, cells := 0, slots := 0, locals := 14 } : Room) #[(.ref x), (.ref y)] h0 (fun v h L => v = some (.int ro) ∧ Fr n0 L ∧ h = h0) := by
  refine own_body own_pn12 (fun m => mkF m 0 #[rv x, rv y, .unset] []) (fun m => own_ef_own_seq m x y) ?_
  intro p e s m below meth c T0 hx hby hml hlk hrt hZ hown hnm X0 e0
  have hown : s.vm.findClass "java/lang/String" = some m.cls := hown
  have N0 := Fr.nil n0
  refine own_g (own_F T0 m 1 #[rv x, rv y, .unset] [(.ref x)]) (fun _ z_ => XS.aloadN X0.here hx rfl (hb hby own_d9_0) rfl rfl z_) ?_
  refine own_g (own_F T0 m 2 #[rv x, rv y, .unset] [(.ref y), (.ref x)]) (fun _ z_ => XS.aloadN X0.here hx rfl (hb hby own_d9_1) rfl rfl z_) ?_
  by_cases c2 : x = y
  · -- pc 2
   refine own_g (own_F T0 m 5 #[rv x, rv y, .unset] []) (fun _ z_ => Jvm.RoadKit.acmp (g := (mkF m 2 #[rv x, rv y, .unset] [(.ref y), (.ref x)])) X0 hx rfl rfl rfl (pc0 := 2) (pc' := 5) (same := true) rfl (hb hby own_d9_2) rfl (decide_eq_true (congrArg Value.ref c2)) (by decide) (by decide) z_) ?_
   refine own_g (own_F T0 m 6 #[rv x, rv y, .unset] [(.int 1)]) (fun _ z_ => XS.iconst X0.here hx rfl (hb hby own_d9_5) z_) ?_
   refine own_ret (t := .boolean) X0 hx hlk hrt rfl (Or.inl ⟨rfl, by simp, _, rfl⟩) (hb hby own_d9_6) (by decide) (by decide) ?_
   subst c2
   exact ⟨congrArg (fun z => some (Value.int z)) (own_r1 hr (own_Latuq Lx Ly)).symm, N0, e0⟩
  · -- pc 2
   refine own_g (own_F T0 m 7 #[rv x, rv y, .unset] []) (fun _ z_ => Jvm.RoadKit.acmp (g := (mkF m 2 #[rv x, rv y, .unset] [(.ref y), (.ref x)])) X0 hx rfl rfl rfl (pc0 := 2) (pc' := 7) (same := false) rfl (hb hby own_d9_2) rfl (decide_eq_false fun q => c2 (Value.ref.inj q)) (by decide) (by decide) z_) ?_
   refine own_g (own_F T0 m 8 #[rv x, rv y, .unset] [(.ref y)]) (fun _ z_ => XS.aloadN X0.here hx rfl (hb hby own_d9_7) rfl rfl z_) ?_
   obtain ⟨T1, X1, e1, st1⟩ := instY X0 hx hZ hown (own_w hw 66) e0 (Ins.self Ly.1) (g := (mkF m 8 #[rv x, rv y, .unset] [(.ref y)])) rfl rfl (hb hby own_d9_8)
   refine own_pre (S' := (own_F T1 m 11 #[rv x, rv y, .unset] [(.int 1)])) st1 ?_
   refine own_g (own_F T1 m 14 #[rv x, rv y, .unset] []) (fun _ z_ => XS.ifNo X1.here hx rfl (hb hby own_d9_11) rfl ((if0 _ _).trans (feq (by decide : ¬ ((1 : Int32) = (0 : Int32)))).1) z_) ?_
   refine own_g (own_F T1 m 15 #[rv x, rv y, .unset] [(.ref y)]) (fun _ z_ => XS.aloadN X1.here hx rfl (hb hby own_d9_14) rfl rfl z_) ?_
   obtain ⟨T2, X2, e2, st2⟩ := castY X1 hx hZ hown (own_w hw 66) e1 (Ins.self Ly.1) (g := (mkF m 15 #[rv x, rv y, .unset] [(.ref y)])) rfl rfl (hb hby own_d9_15)
   refine own_pre (S' := (own_F T2 m 18 #[rv x, rv y, .unset] [(.ref y)])) st2 ?_
   refine own_g (own_F T2 m 19 #[rv x, rv y, rv y] []) (fun _ z_ => XS.astoreN X2.here hx rfl (hb hby own_d9_18) rfl rfl (l' := #[rv x, rv y, rv y]) rfl z_) ?_
   obtain ⟨T3, X3, e3, st3⟩ := getS2 X2 hx hZ hown (host := "") (Or.inl (own_w hw 61)) Via.refl e2 S_cs (g := (mkF m 19 #[rv x, rv y, rv y] [])) rfl (hb hby own_d9_19)
   refine own_pre (S' := (own_F T3 m 22 #[rv x, rv y, rv y] [(.int zc)])) st3 ?_
   refine own_g (own_F T3 m 25 #[rv x, rv y, rv y] []) (fun _ z_ => XS.ifNo X3.here hx rfl (hb hby own_d9_22) rfl ((if0 _ _).trans (feq hzc).1) z_) ?_
   refine own_g (own_F T3 m 26 #[rv x, rv y, rv y] [(.ref x)]) (fun _ z_ => XS.aloadN X3.here hx rfl (hb hby own_d9_25) rfl rfl z_) ?_
   obtain ⟨T4, X4, e4, st4⟩ := getF X3 hx hZ hown (host := "") (Or.inl (own_w hw 76)) Via.refl e3 Lx.2.2.1 (g := (mkF m 26 #[rv x, rv y, rv y] [(.ref x)])) rfl rfl (hb hby own_d9_26)
   refine own_pre (S' := (own_F T4 m 29 #[rv x, rv y, rv y] [(.int 0)])) st4 ?_
   refine own_g (own_F T4 m 30 #[rv x, rv y, rv y] [(.ref y), (.int 0)]) (fun _ z_ => XS.aloadN X4.here hx rfl (hb hby own_d9_29) rfl rfl z_) ?_
   obtain ⟨T5, X5, e5, st5⟩ := getF X4 hx hZ hown (host := "") (Or.inl (own_w hw 76)) Via.refl e4 Ly.2.2.1 (g := (mkF m 30 #[rv x, rv y, rv y] [(.ref y), (.int 0)])) rfl rfl (hb hby own_d9_30)
   refine own_pre (S' := (own_F T5 m 33 #[rv x, rv y, rv y] [(.int 0), (.int 0)])) st5 ?_
   refine own_g (own_F T5 m 36 #[rv x, rv y, rv y] []) (fun _ z_ => XS.icmpNo X5.here hx rfl (hb hby own_d9_33) rfl (teq (by decide : ((0 : Int32) = (0 : Int32)))).2 z_) ?_
   refine own_g (own_F T5 m 37 #[rv x, rv y, rv y] [(.ref x)]) (fun _ z_ => XS.aloadN X5.here hx rfl (hb hby own_d9_36) rfl rfl z_) ?_
   obtain ⟨T6, X6, e6, st6⟩ := getF X5 hx hZ hown (host := "") (Or.inl (own_w hw 75)) Via.refl e5 Lx.2.1 (g := (mkF m 37 #[rv x, rv y, rv y] [(.ref x)])) rfl rfl (hb hby own_d9_37)
   refine own_pre (S' := (own_F T6 m 40 #[rv x, rv y, rv y] [(.ref t)])) st6 ?_
   refine own_g (own_F T6 m 41 #[rv x, rv y, rv y] [(.ref y), (.ref t)]) (fun _ z_ => XS.aloadN X6.here hx rfl (hb hby own_d9_40) rfl rfl z_) ?_
   obtain ⟨T7, X7, e7, st7⟩ := getF X6 hx hZ hown (host := "") (Or.inl (own_w hw 75)) Via.refl e6 Ly.2.1 (g := (mkF m 41 #[rv x, rv y, rv y] [(.ref y), (.ref t)])) rfl rfl (hb hby own_d9_41)
   refine own_pre (S' := (own_F T7 m 44 #[rv x, rv y, rv y] [(.ref u), (.ref t)])) st7 ?_
   refine own_callS (y := (⟨"java/lang/StringLatin1", "equals", "([B[B)Z"⟩ : MethodName)) X7 hx hZ hown (own_w hw 95) (own_w hw 96) (own_w hw 64) (own_w hw 97) (by decide) e7 (hM := own_eq2 l Z a0 hw [] t u n n2 nn mm ro _ _ h0 n0 Z0 hn hm Lx.2.2.2.1 Ly.2.2.2.1 (own_hrP (own_latP Lx Ly) hr)) (W := 0) (pc := 44) (Ls := #[rv x, rv y, rv y]) (argsL := [(.ref t), (.ref u)]) (rest := []) (st0 := [(.ref u), (.ref t)]) (by rw [hml]; rfl) (lenOf own_pd8 rfl) rfl (Nat.le_of_eq rfl) (hb hby own_d9_44) (by decide) (by decide) (by decide) (by decide) ?_
   intro v8 T8 L8 s X8 hZ hown hI8 hvm8 hhp8 hWw8 hQ8
   obtain ⟨rfl, Nq8, hh8⟩ := hQ8
   have N8 := Fr.app N0 Nq8
   show own_Ends p e below s _ _ _ (own_F T8 m 47 #[rv x, rv y, rv y] [(.int ro)])
   by_cases c47 : ro = (0 : Int32)
   · -- pc 47: ro = (0 : Int32)
    refine own_g (own_F T8 m 54 #[rv x, rv y, rv y] []) (fun _ z_ => XS.ifYes X8.here hx rfl (pc0 := 47) (pc' := 54) rfl (hb hby own_d9_47) rfl ((if0 _ _).trans (teq c47).1) (by decide) (by decide) z_) ?_
    refine own_g (own_F T8 m 55 #[rv x, rv y, rv y] [(.int 0)]) (fun _ z_ => XS.iconst X8.here hx rfl (hb hby own_d9_54) z_) ?_
    refine own_ret (t := .boolean) X8 hx hlk hrt rfl (Or.inl ⟨rfl, by simp, _, rfl⟩) (hb hby own_d9_55) (by decide) (by decide) ?_
    exact ⟨congrArg (fun z => some (Value.int z)) c47.symm, N8, hh8⟩
   · -- pc 47: not ro = (0 : Int32)
    refine own_g (own_F T8 m 50 #[rv x, rv y, rv y] []) (fun _ z_ => XS.ifNo X8.here hx rfl (hb hby own_d9_47) rfl ((if0 _ _).trans (feq c47).1) z_) ?_
    refine own_g (own_F T8 m 51 #[rv x, rv y, rv y] [(.int 1)]) (fun _ z_ => XS.iconst X8.here hx rfl (hb hby own_d9_50) z_) ?_
    refine own_g (own_F T8 m 55 #[rv x, rv y, rv y] [(.int 1)]) (fun _ z_ => XS.goto X8.here hx rfl (pc0 := 51) (pc' := 55) rfl (hb hby own_d9_51) (by decide) (by decide) z_) ?_
    refine own_ret (t := .boolean) X8 hx hlk hrt rfl (Or.inl ⟨rfl, by simp, _, rfl⟩) (hb hby own_d9_55) (by decide) (by decide) ?_
    rcases hr with ⟨rfl, -⟩ | ⟨rfl, -⟩
    · exact ⟨rfl, N8, hh8⟩
    · exact absurd rfl c47
set_option maxRecDepth 65536 in
set_option maxHeartbeats 40000000 in
theorem own_ie (l : Launch) (Z : State) (a0 : Array Value) (hw : ∀ d ∈ tables_1, d.before a0 Z = true) (ws : List Jvm.Cond) (x t : Addr) (n : Nat) (nn ro : Int32) (f : Nat → Int32) (h0 : Heap) (n0 : Nat) (Z0 : n0 ≤ h0.size) (hn : nn.toInt = (n : Int)) (Lx : own_Lat Z h0 x t n f) (hr : (ro = 1 ∧ n = 0) ∨ (ro = 0 ∧ ¬ n = 0)) :
    own_Met l Z (⟨"java/lang/String", "isEmpty", "()Z"⟩ : MethodName) jdk_42_method_55_code 1 (some .boolean) ws ({ frames := 0, cells := 0, slots := 0, locals := 0 } : Room) #[(.ref x)] h0 (fun v h L => v = some (.int ro) ∧ Fr n0 L ∧ h = h0) := by
  refine own_body own_pn13 (fun m => mkF m 0 #[rv x] []) (fun m => own_ef_own_ie m x) ?_
  intro p e s m below meth c T0 hx hby hml hlk hrt hZ hown hnm X0 e0
  have hown : s.vm.findClass "java/lang/String" = some m.cls := hown
  have N0 := Fr.nil n0
  refine own_g (own_F T0 m 1 #[rv x] [(.ref x)]) (fun _ z_ => XS.aloadN X0.here hx rfl (hb hby own_d21_0) rfl rfl z_) ?_
  obtain ⟨T1, X1, e1, st1⟩ := getF X0 hx hZ hown (host := "") (Or.inl (own_w hw 75)) Via.refl e0 Lx.2.1 (g := (mkF m 1 #[rv x] [(.ref x)])) rfl rfl (hb hby own_d21_1)
  refine own_pre (S' := (own_F T1 m 4 #[rv x] [(.ref t)])) st1 ?_
  refine own_alen X1 hx hZ e1 Lx.2.2.2.1 (hb hby own_d21_4) ?_
  rw [own_n32 hn]
  show own_Ends p e below s _ _ _ (own_F T1 m 5 #[rv x] [(.int nn)])
  by_cases c5 : nn = (0 : Int32)
  · -- pc 5: nn = (0 : Int32)
   refine own_g (own_F T1 m 8 #[rv x] []) (fun _ z_ => XS.ifNo X1.here hx rfl (hb hby own_d21_5) rfl ((if0 _ _).trans (teq c5).2) z_) ?_
   refine own_g (own_F T1 m 9 #[rv x] [(.int 1)]) (fun _ z_ => XS.iconst X1.here hx rfl (hb hby own_d21_8) z_) ?_
   refine own_g (own_F T1 m 13 #[rv x] [(.int 1)]) (fun _ z_ => XS.goto X1.here hx rfl (pc0 := 9) (pc' := 13) rfl (hb hby own_d21_9) (by decide) (by decide) z_) ?_
   refine own_ret (t := .boolean) X1 hx hlk hrt rfl (Or.inl ⟨rfl, by simp, _, rfl⟩) (hb hby own_d21_13) (by decide) (by decide) ?_
   exact ⟨congrArg (fun z => some (Value.int z)) (own_r1 hr (by rw [c5, Int32.toInt_zero] at hn; omega)).symm, N0, e1⟩
  · -- pc 5: not nn = (0 : Int32)
   refine own_g (own_F T1 m 12 #[rv x] []) (fun _ z_ => XS.ifYes X1.here hx rfl (pc0 := 5) (pc' := 12) rfl (hb hby own_d21_5) rfl ((if0 _ _).trans (feq c5).2) (by decide) (by decide) z_) ?_
   refine own_g (own_F T1 m 13 #[rv x] [(.int 0)]) (fun _ z_ => XS.iconst X1.here hx rfl (hb hby own_d21_12) z_) ?_
   refine own_ret (t := .boolean) X1 hx hlk hrt rfl (Or.inl ⟨rfl, by simp, _, rfl⟩) (hb hby own_d21_13) (by decide) (by decide) ?_
   exact ⟨congrArg (fun z => some (Value.int z)) (own_r0 hr (fun q => c5 (by rw [← Int32.toInt_inj, hn, q]; rfl))).symm, N0, e1⟩
set_option maxRecDepth 65536 in
set_option maxHeartbeats 40000000 in
theorem own_rec (l : Launch) (Z : State) (a0 : Array Value) (hw : ∀ d ∈ tables_1, d.before a0 Z = true) (ws : List Jvm.Cond) (a : Nat) (h0 : Heap) (n0 : Nat) (Z0 : n0 ≤ h0.size)  :
    own_Met l Z (⟨"java/lang/Record", "<init>", "()V"⟩ : MethodName) jdk_30_method_1_code 1 none ws ({ frames := 1, cells := 0, slots := 0, locals := 12 } : Room) #[(.ref a)] h0 (fun v h L => v = none ∧ Fr n0 L ∧ h = h0) := by
  refine own_body own_pn14 (fun m => mkF m 0 #[rv a] []) (fun m => own_ef_own_rec m a) ?_
  intro p e s m below meth c T0 hx hby hml hlk hrt hZ hown hnm X0 e0
  have hown : s.vm.findClass "java/lang/Record" = some m.cls := hown
  have N0 := Fr.nil n0
  refine own_g (own_F T0 m 1 #[rv a] [(.ref a)]) (fun _ z_ => XS.aloadN X0.here hx rfl (hb hby own_d4_0) rfl rfl z_) ?_
  obtain ⟨T1, X1, e1, st1⟩ := initO X0 hx hZ hown (own_w hw 26) (own_w hw 27) (own_w hw 28) e0 (g := (mkF m 1 #[rv a] [(.ref a)])) rfl (by rw [hml]; rfl) rfl (hb hby own_d4_1) (by decide) (W := 0) (by show 2 * 0 + _ ≤ _; exact Nat.le_of_eq rfl) (by decide)
  refine own_pre (S' := (own_F T1 m 4 #[rv a] [])) st1 ?_
  refine own_retV X1 hx hlk hrt (hb hby own_d4_4) (by decide) (by decide) ?_
  exact ⟨rfl, N0, e1⟩
set_option maxRecDepth 65536 in
set_option maxHeartbeats 40000000 in
theorem own_bi (l : Launch) (Z : State) (a0 : Array Value) (hw : ∀ d ∈ tables_1, d.before a0 Z = true) (ws : List Jvm.Cond) (b x0 x1 x2 : Addr) (h0 : Heap) (n0 : Nat) (Z0 : n0 ≤ h0.size) (E_b : Exa Z h0 b "com/example/assay_runner/assayrunner/report/Build") (F0 : Fld Z h0 b "com/example/assay_runner/assayrunner/report/Build" "jvm" "Ljava/lang/String;" .null) (F1 : Fld Z h0 b "com/example/assay_runner/assayrunner/report/Build" "session" "Ljava/lang/String;" .null) (F2 : Fld Z h0 b "com/example/assay_runner/assayrunner/report/Build" "forkedBy" "Ljava/lang/String;" .null) (g_b : n0 ≤ b) :
    own_Met l Z (⟨"com/example/assay_runner/assayrunner/report/Build", "<init>", "(Ljava/lang/String;Ljava/lang/String;Ljava/lang/String;)V"⟩ : MethodName) prog_57_method_1_code 4 none ws ({ frames := 2, cells := 0, slots := 0, locals := 24 } : Room) #[(.ref b), (.ref x0), (.ref x1), (.ref x2)] h0 (fun v h L => v = none ∧ Fr n0 L ∧ Keep h0 h [b] ∧ Fld Z h b "com/example/assay_runner/assayrunner/report/Build" "jvm" "Ljava/lang/String;" (.ref x0) ∧ Fld Z h b "com/example/assay_runner/assayrunner/report/Build" "session" "Ljava/lang/String;" (.ref x1) ∧ Fld Z h b "com/example/assay_runner/assayrunner/report/Build" "forkedBy" "Ljava/lang/String;" (.ref x2)) := by
  refine own_body own_pn15 (fun m => mkF m 0 #[rv b, rv x0, rv x1, rv x2] []) (fun m => own_ef_own_bi m b x0 x1 x2) ?_
  intro p e s m below meth c T0 hx hby hml hlk hrt hZ hown hnm X0 e0
  have hown : s.vm.findClass "com/example/assay_runner/assayrunner/report/Build" = some m.cls := hown
  have N0 := Fr.nil n0
  refine own_g (own_F T0 m 1 #[rv b, rv x0, rv x1, rv x2] [(.ref b)]) (fun _ z_ => XS.aloadN X0.here hx rfl (hb hby own_d3_0) rfl rfl z_) ?_
  refine own_callI (y := (⟨"java/lang/Record", "<init>", "()V"⟩ : MethodName)) (b := b) X0 hx hZ hown rfl (own_w hw 21) (own_w hw 22) (own_w hw 25) (own_w hw 24) (by decide) e0 (hM := own_rec l Z a0 hw [] b h0 n0 Z0) (W := 0) (pc := 1) (Ls := #[rv b, rv x0, rv x1, rv x2]) (argsL := []) (rest := []) (st0 := [(.ref b)]) (by rw [hml]; rfl) (lenOf own_pd9 rfl) rfl (Nat.le_of_eq rfl) (hb hby own_d3_1) (by decide) (by decide) (by decide) (by decide) ?_
  intro v1 T1 L1 s X1 hZ hown hI1 hvm1 hhp1 hWw1 hQ1
  obtain ⟨rfl, Nq1, hh1⟩ := hQ1
  have N1 := Fr.app N0 Nq1
  show own_Ends p e below s _ _ _ (own_F T1 m 4 #[rv b, rv x0, rv x1, rv x2] [])
  refine own_g (own_F T1 m 5 #[rv b, rv x0, rv x1, rv x2] [(.ref b)]) (fun _ z_ => XS.aloadN X1.here hx rfl (hb hby own_d3_4) rfl rfl z_) ?_
  refine own_g (own_F T1 m 6 #[rv b, rv x0, rv x1, rv x2] [(.ref x0), (.ref b)]) (fun _ z_ => XS.aloadN X1.here hx rfl (hb hby own_d3_5) rfl rfl z_) ?_
  obtain ⟨T2, h2, X2, e2, W2, st2⟩ := putF X1 hx hZ hown (host := "") (Or.inl (own_w hw 29)) Via.refl hh1 F0 E_b (Or.inr ⟨(own_w hw 30), rfl, hnm⟩) (own_w hw 1) (ty := (.object "java/lang/String")) (by decide) rfl rfl (g := (mkF m 6 #[rv b, rv x0, rv x1, rv x2] [(.ref x0), (.ref b)])) rfl rfl (hb hby own_d3_6)
  have N2 := Fr.snoc X2 N1 g_b
  have Fw2 := F0.same W2
  refine own_pre (S' := (own_F T2 m 9 #[rv b, rv x0, rv x1, rv x2] [])) st2 ?_
  refine own_g (own_F T2 m 10 #[rv b, rv x0, rv x1, rv x2] [(.ref b)]) (fun _ z_ => XS.aloadN X2.here hx rfl (hb hby own_d3_9) rfl rfl z_) ?_
  refine own_g (own_F T2 m 11 #[rv b, rv x0, rv x1, rv x2] [(.ref x1), (.ref b)]) (fun _ z_ => XS.aloadN X2.here hx rfl (hb hby own_d3_10) rfl rfl z_) ?_
  obtain ⟨T3, h3, X3, e3, W3, st3⟩ := putF X2 hx hZ hown (host := "") (Or.inl (own_w hw 31)) Via.refl e2 (F1.other W2 (Or.inr (slot_ne (C := "com/example/assay_runner/assayrunner/report/Build") (Or.inr (own_w hw 32)) (Or.inr (own_w hw 30)) (by decide) (t := (.object "java/lang/String")) (t' := (.object "java/lang/String")) (by decide) (by decide)))) (E_b.wr W2) (Or.inr ⟨(own_w hw 32), rfl, hnm⟩) (own_w hw 1) (ty := (.object "java/lang/String")) (by decide) rfl rfl (g := (mkF m 11 #[rv b, rv x0, rv x1, rv x2] [(.ref x1), (.ref b)])) rfl rfl (hb hby own_d3_11)
  have N3 := Fr.snoc X3 N2 g_b
  have Fw3 := (F1.other W2 (Or.inr (slot_ne (C := "com/example/assay_runner/assayrunner/report/Build") (Or.inr (own_w hw 32)) (Or.inr (own_w hw 30)) (by decide) (t := (.object "java/lang/String")) (t' := (.object "java/lang/String")) (by decide) (by decide)))).same W3
  refine own_pre (S' := (own_F T3 m 14 #[rv b, rv x0, rv x1, rv x2] [])) st3 ?_
  refine own_g (own_F T3 m 15 #[rv b, rv x0, rv x1, rv x2] [(.ref b)]) (fun _ z_ => XS.aloadN X3.here hx rfl (hb hby own_d3_14) rfl rfl z_) ?_
  refine own_g (own_F T3 m 16 #[rv b, rv x0, rv x1, rv x2] [(.ref x2), (.ref b)]) (fun _ z_ => XS.aloadN X3.here hx rfl (hb hby own_d3_15) rfl rfl z_) ?_
  obtain ⟨T4, h4, X4, e4, W4, st4⟩ := putF X3 hx hZ hown (host := "") (Or.inl (own_w hw 33)) Via.refl e3 ((F2.other W2 (Or.inr (slot_ne (C := "com/example/assay_runner/assayrunner/report/Build") (Or.inr (own_w hw 34)) (Or.inr (own_w hw 30)) (by decide) (t := (.object "java/lang/String")) (t' := (.object "java/lang/String")) (by decide) (by decide)))).other W3 (Or.inr (slot_ne (C := "com/example/assay_runner/assayrunner/report/Build") (Or.inr (own_w hw 34)) (Or.inr (own_w hw 32)) (by decide) (t := (.object "java/lang/String")) (t' := (.object "java/lang/String")) (by decide) (by decide)))) ((E_b.wr W2).wr W3) (Or.inr ⟨(own_w hw 34), rfl, hnm⟩) (own_w hw 1) (ty := (.object "java/lang/String")) (by decide) rfl rfl (g := (mkF m 16 #[rv b, rv x0, rv x1, rv x2] [(.ref x2), (.ref b)])) rfl rfl (hb hby own_d3_16)
  have N4 := Fr.snoc X4 N3 g_b
  have Fw4 := ((F2.other W2 (Or.inr (slot_ne (C := "com/example/assay_runner/assayrunner/report/Build") (Or.inr (own_w hw 34)) (Or.inr (own_w hw 30)) (by decide) (t := (.object "java/lang/String")) (t' := (.object "java/lang/String")) (by decide) (by decide)))).other W3 (Or.inr (slot_ne (C := "com/example/assay_runner/assayrunner/report/Build") (Or.inr (own_w hw 34)) (Or.inr (own_w hw 32)) (by decide) (t := (.object "java/lang/String")) (t' := (.object "java/lang/String")) (by decide) (by decide)))).same W4
  refine own_pre (S' := (own_F T4 m 19 #[rv b, rv x0, rv x1, rv x2] [])) st4 ?_
  refine own_retV X4 hx hlk hrt (hb hby own_d3_19) (by decide) (by decide) ?_
  show _ ∧ Fr n0 _ ∧ Keep h0 T4.heap [b] ∧ _
  rw [e4]
  exact ⟨rfl, N4, ((((Keep.refl _ _).wr W2 (Or.inl (List.mem_of_getElem? (i := 0) rfl))).wr W3 (Or.inl (List.mem_of_getElem? (i := 0) rfl))).wr W4 (Or.inl (List.mem_of_getElem? (i := 0) rfl))), ((Fw2.other W3 (Or.inr (slot_ne (C := "com/example/assay_runner/assayrunner/report/Build") (Or.inr (own_w hw 30)) (Or.inr (own_w hw 32)) (by decide) (t := (.object "java/lang/String")) (t' := (.object "java/lang/String")) (by decide) (by decide)))).other W4 (Or.inr (slot_ne (C := "com/example/assay_runner/assayrunner/report/Build") (Or.inr (own_w hw 30)) (Or.inr (own_w hw 34)) (by decide) (t := (.object "java/lang/String")) (t' := (.object "java/lang/String")) (by decide) (by decide)))), (Fw3.other W4 (Or.inr (slot_ne (C := "com/example/assay_runner/assayrunner/report/Build") (Or.inr (own_w hw 32)) (Or.inr (own_w hw 34)) (by decide) (t := (.object "java/lang/String")) (t' := (.object "java/lang/String")) (by decide) (by decide)))), Fw4⟩
set_option maxRecDepth 65536 in
set_option maxHeartbeats 40000000 in
theorem own_get_jvm (l : Launch) (Z : State) (a0 : Array Value) (hw : ∀ d ∈ tables_1, d.before a0 Z = true) (ws : List Jvm.Cond) (b x : Addr) (h0 : Heap) (n0 : Nat) (Z0 : n0 ≤ h0.size) (Fb : Fld Z h0 b "com/example/assay_runner/assayrunner/report/Build" "jvm" "Ljava/lang/String;" (.ref x)) :
    own_Met l Z (⟨"com/example/assay_runner/assayrunner/report/Build", "jvm", "()Ljava/lang/String;"⟩ : MethodName) prog_57_method_10_code 1 (some (.object "java/lang/String")) ws ({ frames := 0, cells := 0, slots := 0, locals := 0 } : Room) #[(.ref b)] h0 (fun v h L => v = some (.ref x) ∧ Fr n0 L ∧ h = h0) := by
  refine own_body own_pn16 (fun m => mkF m 0 #[rv b] []) (fun m => own_ef_own_get_jvm m b) ?_
  intro p e s m below meth c T0 hx hby hml hlk hrt hZ hown hnm X0 e0
  have hown : s.vm.findClass "com/example/assay_runner/assayrunner/report/Build" = some m.cls := hown
  have N0 := Fr.nil n0
  refine own_g (own_F T0 m 1 #[rv b] [(.ref b)]) (fun _ z_ => XS.aloadN X0.here hx rfl (hb hby own_d8_0) rfl rfl z_) ?_
  obtain ⟨T1, X1, e1, st1⟩ := getF X0 hx hZ hown (host := "") (Or.inl (own_w hw 29)) Via.refl e0 Fb (g := (mkF m 1 #[rv b] [(.ref b)])) rfl rfl (hb hby own_d8_1)
  refine own_pre (S' := (own_F T1 m 4 #[rv b] [(.ref x)])) st1 ?_
  refine own_ret (t := (.object "java/lang/String")) X1 hx hlk hrt rfl (Or.inr (Or.inr (Or.inr (Or.inr ⟨rfl, rfl, rfl⟩)))) (hb hby own_d8_4) (by decide) (by decide) ?_
  exact ⟨rfl, N0, e1⟩
set_option maxRecDepth 65536 in
set_option maxHeartbeats 40000000 in
theorem own_get_session (l : Launch) (Z : State) (a0 : Array Value) (hw : ∀ d ∈ tables_1, d.before a0 Z = true) (ws : List Jvm.Cond) (b x : Addr) (h0 : Heap) (n0 : Nat) (Z0 : n0 ≤ h0.size) (Fb : Fld Z h0 b "com/example/assay_runner/assayrunner/report/Build" "session" "Ljava/lang/String;" (.ref x)) :
    own_Met l Z (⟨"com/example/assay_runner/assayrunner/report/Build", "session", "()Ljava/lang/String;"⟩ : MethodName) prog_57_method_11_code 1 (some (.object "java/lang/String")) ws ({ frames := 0, cells := 0, slots := 0, locals := 0 } : Room) #[(.ref b)] h0 (fun v h L => v = some (.ref x) ∧ Fr n0 L ∧ h = h0) := by
  refine own_body own_pn17 (fun m => mkF m 0 #[rv b] []) (fun m => own_ef_own_get_session m b) ?_
  intro p e s m below meth c T0 hx hby hml hlk hrt hZ hown hnm X0 e0
  have hown : s.vm.findClass "com/example/assay_runner/assayrunner/report/Build" = some m.cls := hown
  have N0 := Fr.nil n0
  refine own_g (own_F T0 m 1 #[rv b] [(.ref b)]) (fun _ z_ => XS.aloadN X0.here hx rfl (hb hby own_d10_0) rfl rfl z_) ?_
  obtain ⟨T1, X1, e1, st1⟩ := getF X0 hx hZ hown (host := "") (Or.inl (own_w hw 31)) Via.refl e0 Fb (g := (mkF m 1 #[rv b] [(.ref b)])) rfl rfl (hb hby own_d10_1)
  refine own_pre (S' := (own_F T1 m 4 #[rv b] [(.ref x)])) st1 ?_
  refine own_ret (t := (.object "java/lang/String")) X1 hx hlk hrt rfl (Or.inr (Or.inr (Or.inr (Or.inr ⟨rfl, rfl, rfl⟩)))) (hb hby own_d10_4) (by decide) (by decide) ?_
  exact ⟨rfl, N0, e1⟩
set_option maxRecDepth 65536 in
set_option maxHeartbeats 40000000 in
theorem own_get_forkedBy (l : Launch) (Z : State) (a0 : Array Value) (hw : ∀ d ∈ tables_1, d.before a0 Z = true) (ws : List Jvm.Cond) (b x : Addr) (h0 : Heap) (n0 : Nat) (Z0 : n0 ≤ h0.size) (Fb : Fld Z h0 b "com/example/assay_runner/assayrunner/report/Build" "forkedBy" "Ljava/lang/String;" (.ref x)) :
    own_Met l Z (⟨"com/example/assay_runner/assayrunner/report/Build", "forkedBy", "()Ljava/lang/String;"⟩ : MethodName) prog_57_method_12_code 1 (some (.object "java/lang/String")) ws ({ frames := 0, cells := 0, slots := 0, locals := 0 } : Room) #[(.ref b)] h0 (fun v h L => v = some (.ref x) ∧ Fr n0 L ∧ h = h0) := by
  refine own_body own_pn18 (fun m => mkF m 0 #[rv b] []) (fun m => own_ef_own_get_forkedBy m b) ?_
  intro p e s m below meth c T0 hx hby hml hlk hrt hZ hown hnm X0 e0
  have hown : s.vm.findClass "com/example/assay_runner/assayrunner/report/Build" = some m.cls := hown
  have N0 := Fr.nil n0
  refine own_g (own_F T0 m 1 #[rv b] [(.ref b)]) (fun _ z_ => XS.aloadN X0.here hx rfl (hb hby own_d22_0) rfl rfl z_) ?_
  obtain ⟨T1, X1, e1, st1⟩ := getF X0 hx hZ hown (host := "") (Or.inl (own_w hw 33)) Via.refl e0 Fb (g := (mkF m 1 #[rv b] [(.ref b)])) rfl rfl (hb hby own_d22_1)
  refine own_pre (S' := (own_F T1 m 4 #[rv b] [(.ref x)])) st1 ?_
  refine own_ret (t := (.object "java/lang/String")) X1 hx hlk hrt rfl (Or.inr (Or.inr (Or.inr (Or.inr ⟨rfl, rfl, rfl⟩)))) (hb hby own_d22_4) (by decide) (by decide) ?_
  exact ⟨rfl, N0, e1⟩
set_option maxRecDepth 65536 in
set_option maxHeartbeats 40000000 in
theorem own_con (l : Launch) (Z : State) (a0 : Array Value) (hw : ∀ d ∈ tables_1, d.before a0 Z = true) (ws : List Jvm.Cond) (b d xb0 xd0 xb1 xd1 xb2 xd2 tb0 td0 tb1 td1 tb2 td2 : Addr) (nb0 nd0 nb1 nd1 nb2 nd2 : Nat) (mb0 md0 mb1 md1 mb2 md2 zc e0r e1r e2r emr : Int32) (fb0 fd0 fb1 fd1 fb2 fd2 : Nat → Int32) (h0 : Heap) (n0 : Nat) (Z0 : n0 ≤ h0.size) (hb0 : mb0.toInt = (nb0 : Int)) (hd0 : md0.toInt = (nd0 : Int)) (Lb0 : own_Lat Z h0 xb0 tb0 nb0 fb0) (Ld0 : own_Lat Z h0 xd0 td0 nd0 fd0) (hr0 : (e0r = 1 ∧ own_eqs nb0 nd0 fb0 fd0) ∨ (e0r = 0 ∧ ¬ own_eqs nb0 nd0 fb0 fd0)) (hb1 : mb1.toInt = (nb1 : Int)) (hd1 : md1.toInt = (nd1 : Int)) (Lb1 : own_Lat Z h0 xb1 tb1 nb1 fb1) (Ld1 : own_Lat Z h0 xd1 td1 nd1 fd1) (hr1 : (e1r = 1 ∧ own_eqs nb1 nd1 fb1 fd1) ∨ (e1r = 0 ∧ ¬ own_eqs nb1 nd1 fb1 fd1)) (hb2 : mb2.toInt = (nb2 : Int)) (hd2 : md2.toInt = (nd2 : Int)) (Lb2 : own_Lat Z h0 xb2 tb2 nb2 fb2) (Ld2 : own_Lat Z h0 xd2 td2 nd2 fd2) (hr2 : (e2r = 1 ∧ own_eqs nb2 nd2 fb2 fd2) ∨ (e2r = 0 ∧ ¬ own_eqs nb2 nd2 fb2 fd2)) (E_b : Exa Z h0 b "com/example/assay_runner/assayrunner/report/Build") (Fb0 : Fld Z h0 b "com/example/assay_runner/assayrunner/report/Build" "jvm" "Ljava/lang/String;" (.ref xb0)) (Fb1 : Fld Z h0 b "com/example/assay_runner/assayrunner/report/Build" "session" "Ljava/lang/String;" (.ref xb1)) (Fb2 : Fld Z h0 b "com/example/assay_runner/assayrunner/report/Build" "forkedBy" "Ljava/lang/String;" (.ref xb2)) (E_d : Exa Z h0 d "com/example/assay_runner/assayrunner/report/Build") (Fd0 : Fld Z h0 d "com/example/assay_runner/assayrunner/report/Build" "jvm" "Ljava/lang/String;" (.ref xd0)) (Fd1 : Fld Z h0 d "com/example/assay_runner/assayrunner/report/Build" "session" "Ljava/lang/String;" (.ref xd1)) (Fd2 : Fld Z h0 d "com/example/assay_runner/assayrunner/report/Build" "forkedBy" "Ljava/lang/String;" (.ref xd2)) (hem : (emr = 1 ∧ nb2 = 0) ∨ (emr = 0 ∧ ¬ nb2 = 0)) (hzc : ¬ zc = (0 : Int32)) (S_cs : Sta Z h0 "java/lang/String" "COMPACT_STRINGS" "Z" (.int zc)) :
    own_Met l Z (⟨"com/example/assay_runner/assayrunner/report/Build", "continues", "(Lcom/example/assay_runner/assayrunner/report/Build;)Z"⟩ : MethodName) prog_57_method_3_code 3 (some .boolean) ws ({ frames := 2, cells := 0, slots := 0, locals := 28 } : Room) #[(.ref b), (.ref d)] h0 (fun v h L => v = some (.int (own_cr e0r e1r e2r emr)) ∧ Fr n0 L ∧ h = h0) := by
  refine own_body own_pn19 (fun m => mkF m 0 #[rv b, rv d, .unset] []) (fun m => own_ef_own_con m b d) ?_
  intro p e s m below meth c T0 hx hby hml hlk hrt hZ hown hnm X0 e0
  have hown : s.vm.findClass "com/example/assay_runner/assayrunner/report/Build" = some m.cls := hown
  have N0 := Fr.nil n0
  refine own_g (own_F T0 m 1 #[rv b, rv d, .unset] [(.ref b)]) (fun _ z_ => XS.aloadN X0.here hx rfl (hb hby own_d7_0) rfl rfl z_) ?_
  obtain ⟨T1, X1, e1, st1⟩ := getF X0 hx hZ hown (host := "") (Or.inl (own_w hw 29)) Via.refl e0 Fb0 (g := (mkF m 1 #[rv b, rv d, .unset] [(.ref b)])) rfl rfl (hb hby own_d7_1)
  refine own_pre (S' := (own_F T1 m 4 #[rv b, rv d, .unset] [(.ref xb0)])) st1 ?_
  refine own_g (own_F T1 m 5 #[rv b, rv d, .unset] [(.ref d), (.ref xb0)]) (fun _ z_ => XS.aloadN X1.here hx rfl (hb hby own_d7_4) rfl rfl z_) ?_
  refine own_callV (C := "com/example/assay_runner/assayrunner/report/Build") (y := (⟨"com/example/assay_runner/assayrunner/report/Build", "jvm", "()Ljava/lang/String;"⟩ : MethodName)) (b := d) X1 hx hZ hown (own_w hw 43) (own_w hw 44) (own_w hw 46) (own_w hw 45) (own_w hw 47) (own_w hw 2) (by decide) e1 E_d (hM := own_get_jvm l Z a0 hw [] d xd0 h0 n0 Z0 Fd0) (W := 1) (pc := 5) (Ls := #[rv b, rv d, .unset]) (argsL := []) (rest := [(.ref xb0)]) (st0 := [(.ref d), (.ref xb0)]) (by rw [hml]; rfl) (lenOf own_pd10 rfl) rfl (Nat.le_of_eq rfl) (hb hby own_d7_5) (by decide) (by decide) (by decide) (by decide) ?_
  intro v2 T2 L2 s X2 hZ hown hI2 hvm2 hhp2 hWw2 hQ2
  obtain ⟨rfl, Nq2, hh2⟩ := hQ2
  have N2 := Fr.app N0 Nq2
  show own_Ends p e below s _ _ _ (own_F T2 m 8 #[rv b, rv d, .unset] [(.ref xd0), (.ref xb0)])
  refine own_callV (C := "java/lang/String") (y := (⟨"java/lang/String", "equals", "(Ljava/lang/Object;)Z"⟩ : MethodName)) (b := xb0) X2 hx hZ hown (own_w hw 48) (own_w hw 49) (own_w hw 51) (own_w hw 50) (own_w hw 52) (own_w hw 11) (by decide) hh2 Lb0.1 (hM := own_seq l Z a0 hw [] xb0 xd0 tb0 td0 nb0 nd0 mb0 md0 e0r zc fb0 fd0 h0 n0 Z0 hb0 hd0 ⟨Lb0.1, Lb0.2.1, Lb0.2.2.1, Lb0.2.2.2.1, Lb0.2.2.2.2⟩ ⟨Ld0.1, Ld0.2.1, Ld0.2.2.1, Ld0.2.2.2.1, Ld0.2.2.2.2⟩ hr0 hzc S_cs) (W := 0) (pc := 8) (Ls := #[rv b, rv d, .unset]) (argsL := [(.ref xd0)]) (rest := []) (st0 := [(.ref xd0), (.ref xb0)]) (by rw [hml]; rfl) (lenOf own_pd11 rfl) rfl (Nat.le_of_eq rfl) (hb hby own_d7_8) (by decide) (by decide) (by decide) (by decide) ?_
  intro v3 T3 L3 s X3 hZ hown hI3 hvm3 hhp3 hWw3 hQ3
  obtain ⟨rfl, Nq3, hh3⟩ := hQ3
  have N3 := Fr.app N2 Nq3
  show own_Ends p e below s _ _ _ (own_F T3 m 11 #[rv b, rv d, .unset] [(.int e0r)])
  by_cases c11 : e0r = (0 : Int32)
  · -- pc 11: e0r = (0 : Int32)
   refine own_g (own_F T3 m 29 #[rv b, rv d, .unset] []) (fun _ z_ => XS.ifYes X3.here hx rfl (pc0 := 11) (pc' := 29) rfl (hb hby own_d7_11) rfl ((if0 _ _).trans (teq c11).1) (by decide) (by decide) z_) ?_
   refine own_g (own_F T3 m 30 #[rv b, rv d, .unset] [(.ref b)]) (fun _ z_ => XS.aloadN X3.here hx rfl (hb hby own_d7_29) rfl rfl z_) ?_
   obtain ⟨T4, X4, e4, st4⟩ := getF X3 hx hZ hown (host := "") (Or.inl (own_w hw 33)) Via.refl hh3 Fb2 (g := (mkF m 30 #[rv b, rv d, .unset] [(.ref b)])) rfl rfl (hb hby own_d7_30)
   refine own_pre (S' := (own_F T4 m 33 #[rv b, rv d, .unset] [(.ref xb2)])) st4 ?_
   refine own_callV (C := "java/lang/String") (y := (⟨"java/lang/String", "isEmpty", "()Z"⟩ : MethodName)) (b := xb2) X4 hx hZ hown (own_w hw 98) (own_w hw 99) (own_w hw 101) (own_w hw 100) (own_w hw 102) (own_w hw 11) (by decide) e4 Lb2.1 (hM := own_ie l Z a0 hw [] xb2 tb2 nb2 mb2 emr fb2 h0 n0 Z0 hb2 ⟨Lb2.1, Lb2.2.1, Lb2.2.2.1, Lb2.2.2.2.1, Lb2.2.2.2.2⟩ hem) (W := 0) (pc := 33) (Ls := #[rv b, rv d, .unset]) (argsL := []) (rest := []) (st0 := [(.ref xb2)]) (by rw [hml]; rfl) (lenOf own_pd12 rfl) rfl (Nat.le_of_eq rfl) (hb hby own_d7_33) (by decide) (by decide) (by decide) (by decide) ?_
   intro v5 T5 L5 s X5 hZ hown hI5 hvm5 hhp5 hWw5 hQ5
   obtain ⟨rfl, Nq5, hh5⟩ := hQ5
   have N5 := Fr.app N3 Nq5
   show own_Ends p e below s _ _ _ (own_F T5 m 36 #[rv b, rv d, .unset] [(.int emr)])
   by_cases c36 : emr = (0 : Int32)
   · -- pc 36: emr = (0 : Int32)
    refine own_g (own_F T5 m 39 #[rv b, rv d, .unset] []) (fun _ z_ => XS.ifNo X5.here hx rfl (hb hby own_d7_36) rfl ((if0 _ _).trans (teq c36).2) z_) ?_
    refine own_g (own_F T5 m 40 #[rv b, rv d, .unset] [(.ref b)]) (fun _ z_ => XS.aloadN X5.here hx rfl (hb hby own_d7_39) rfl rfl z_) ?_
    obtain ⟨T6, X6, e6, st6⟩ := getF X5 hx hZ hown (host := "") (Or.inl (own_w hw 33)) Via.refl hh5 Fb2 (g := (mkF m 40 #[rv b, rv d, .unset] [(.ref b)])) rfl rfl (hb hby own_d7_40)
    refine own_pre (S' := (own_F T6 m 43 #[rv b, rv d, .unset] [(.ref xb2)])) st6 ?_
    refine own_g (own_F T6 m 44 #[rv b, rv d, .unset] [(.ref d), (.ref xb2)]) (fun _ z_ => XS.aloadN X6.here hx rfl (hb hby own_d7_43) rfl rfl z_) ?_
    refine own_callV (C := "com/example/assay_runner/assayrunner/report/Build") (y := (⟨"com/example/assay_runner/assayrunner/report/Build", "forkedBy", "()Ljava/lang/String;"⟩ : MethodName)) (b := d) X6 hx hZ hown (own_w hw 103) (own_w hw 104) (own_w hw 106) (own_w hw 105) (own_w hw 107) (own_w hw 2) (by decide) e6 E_d (hM := own_get_forkedBy l Z a0 hw [] d xd2 h0 n0 Z0 Fd2) (W := 1) (pc := 44) (Ls := #[rv b, rv d, .unset]) (argsL := []) (rest := [(.ref xb2)]) (st0 := [(.ref d), (.ref xb2)]) (by rw [hml]; rfl) (lenOf own_pd10 rfl) rfl (Nat.le_of_eq rfl) (hb hby own_d7_44) (by decide) (by decide) (by decide) (by decide) ?_
    intro v7 T7 L7 s X7 hZ hown hI7 hvm7 hhp7 hWw7 hQ7
    obtain ⟨rfl, Nq7, hh7⟩ := hQ7
    have N7 := Fr.app N5 Nq7
    show own_Ends p e below s _ _ _ (own_F T7 m 47 #[rv b, rv d, .unset] [(.ref xd2), (.ref xb2)])
    refine own_callV (C := "java/lang/String") (y := (⟨"java/lang/String", "equals", "(Ljava/lang/Object;)Z"⟩ : MethodName)) (b := xb2) X7 hx hZ hown (own_w hw 48) (own_w hw 49) (own_w hw 51) (own_w hw 50) (own_w hw 52) (own_w hw 11) (by decide) hh7 Lb2.1 (hM := own_seq l Z a0 hw [] xb2 xd2 tb2 td2 nb2 nd2 mb2 md2 e2r zc fb2 fd2 h0 n0 Z0 hb2 hd2 ⟨Lb2.1, Lb2.2.1, Lb2.2.2.1, Lb2.2.2.2.1, Lb2.2.2.2.2⟩ ⟨Ld2.1, Ld2.2.1, Ld2.2.2.1, Ld2.2.2.2.1, Ld2.2.2.2.2⟩ hr2 hzc S_cs) (W := 0) (pc := 47) (Ls := #[rv b, rv d, .unset]) (argsL := [(.ref xd2)]) (rest := []) (st0 := [(.ref xd2), (.ref xb2)]) (by rw [hml]; rfl) (lenOf own_pd11 rfl) rfl (Nat.le_of_eq rfl) (hb hby own_d7_47) (by decide) (by decide) (by decide) (by decide) ?_
    intro v8 T8 L8 s X8 hZ hown hI8 hvm8 hhp8 hWw8 hQ8
    obtain ⟨rfl, Nq8, hh8⟩ := hQ8
    have N8 := Fr.app N7 Nq8
    show own_Ends p e below s _ _ _ (own_F T8 m 50 #[rv b, rv d, .unset] [(.int e2r)])
    by_cases c50 : e2r = (0 : Int32)
    · -- pc 50: e2r = (0 : Int32)
     refine own_g (own_F T8 m 57 #[rv b, rv d, .unset] []) (fun _ z_ => XS.ifYes X8.here hx rfl (pc0 := 50) (pc' := 57) rfl (hb hby own_d7_50) rfl ((if0 _ _).trans (teq c50).1) (by decide) (by decide) z_) ?_
     refine own_g (own_F T8 m 58 #[rv b, rv d, .unset] [(.int 0)]) (fun _ z_ => XS.iconst X8.here hx rfl (hb hby own_d7_57) z_) ?_
     refine own_g (own_F T8 m 59 #[rv b, rv d, iv 0] []) (fun _ z_ => XS.istoreN X8.here hx rfl (hb hby own_d7_58) rfl (l' := #[rv b, rv d, iv 0]) rfl z_) ?_
     refine own_g (own_F T8 m 60 #[rv b, rv d, iv 0] [(.int 0)]) (fun _ z_ => XS.iloadN X8.here hx rfl (hb hby own_d7_59) rfl z_) ?_
     refine own_ret (t := .boolean) X8 hx hlk hrt rfl (Or.inl ⟨rfl, by simp, _, rfl⟩) (hb hby own_d7_60) (by decide) (by decide) ?_
     refine ⟨?_, N8, hh8⟩
     simp only [own_cr, c11, c36, c50, if_true, if_false]
    · -- pc 50: not e2r = (0 : Int32)
     refine own_g (own_F T8 m 53 #[rv b, rv d, .unset] []) (fun _ z_ => XS.ifNo X8.here hx rfl (hb hby own_d7_50) rfl ((if0 _ _).trans (feq c50).1) z_) ?_
     refine own_g (own_F T8 m 54 #[rv b, rv d, .unset] [(.int 1)]) (fun _ z_ => XS.iconst X8.here hx rfl (hb hby own_d7_53) z_) ?_
     refine own_g (own_F T8 m 58 #[rv b, rv d, .unset] [(.int 1)]) (fun _ z_ => XS.goto X8.here hx rfl (pc0 := 54) (pc' := 58) rfl (hb hby own_d7_54) (by decide) (by decide) z_) ?_
     refine own_g (own_F T8 m 59 #[rv b, rv d, iv 1] []) (fun _ z_ => XS.istoreN X8.here hx rfl (hb hby own_d7_58) rfl (l' := #[rv b, rv d, iv 1]) rfl z_) ?_
     refine own_g (own_F T8 m 60 #[rv b, rv d, iv 1] [(.int 1)]) (fun _ z_ => XS.iloadN X8.here hx rfl (hb hby own_d7_59) rfl z_) ?_
     refine own_ret (t := .boolean) X8 hx hlk hrt rfl (Or.inl ⟨rfl, by simp, _, rfl⟩) (hb hby own_d7_60) (by decide) (by decide) ?_
     refine ⟨?_, N8, hh8⟩
     simp only [own_cr, c11, c36, c50, if_true, if_false]
   · -- pc 36: not emr = (0 : Int32)
    refine own_g (own_F T5 m 57 #[rv b, rv d, .unset] []) (fun _ z_ => XS.ifYes X5.here hx rfl (pc0 := 36) (pc' := 57) rfl (hb hby own_d7_36) rfl ((if0 _ _).trans (feq c36).2) (by decide) (by decide) z_) ?_
    refine own_g (own_F T5 m 58 #[rv b, rv d, .unset] [(.int 0)]) (fun _ z_ => XS.iconst X5.here hx rfl (hb hby own_d7_57) z_) ?_
    refine own_g (own_F T5 m 59 #[rv b, rv d, iv 0] []) (fun _ z_ => XS.istoreN X5.here hx rfl (hb hby own_d7_58) rfl (l' := #[rv b, rv d, iv 0]) rfl z_) ?_
    refine own_g (own_F T5 m 60 #[rv b, rv d, iv 0] [(.int 0)]) (fun _ z_ => XS.iloadN X5.here hx rfl (hb hby own_d7_59) rfl z_) ?_
    refine own_ret (t := .boolean) X5 hx hlk hrt rfl (Or.inl ⟨rfl, by simp, _, rfl⟩) (hb hby own_d7_60) (by decide) (by decide) ?_
    refine ⟨?_, N5, hh5⟩
    simp only [own_cr, c11, c36, if_true, if_false]
  · -- pc 11: not e0r = (0 : Int32)
   refine own_g (own_F T3 m 14 #[rv b, rv d, .unset] []) (fun _ z_ => XS.ifNo X3.here hx rfl (hb hby own_d7_11) rfl ((if0 _ _).trans (feq c11).1) z_) ?_
   refine own_g (own_F T3 m 15 #[rv b, rv d, .unset] [(.ref b)]) (fun _ z_ => XS.aloadN X3.here hx rfl (hb hby own_d7_14) rfl rfl z_) ?_
   obtain ⟨T9, X9, e9, st9⟩ := getF X3 hx hZ hown (host := "") (Or.inl (own_w hw 31)) Via.refl hh3 Fb1 (g := (mkF m 15 #[rv b, rv d, .unset] [(.ref b)])) rfl rfl (hb hby own_d7_15)
   refine own_pre (S' := (own_F T9 m 18 #[rv b, rv d, .unset] [(.ref xb1)])) st9 ?_
   refine own_g (own_F T9 m 19 #[rv b, rv d, .unset] [(.ref d), (.ref xb1)]) (fun _ z_ => XS.aloadN X9.here hx rfl (hb hby own_d7_18) rfl rfl z_) ?_
   refine own_callV (C := "com/example/assay_runner/assayrunner/report/Build") (y := (⟨"com/example/assay_runner/assayrunner/report/Build", "session", "()Ljava/lang/String;"⟩ : MethodName)) (b := d) X9 hx hZ hown (own_w hw 53) (own_w hw 54) (own_w hw 56) (own_w hw 55) (own_w hw 57) (own_w hw 2) (by decide) e9 E_d (hM := own_get_session l Z a0 hw [] d xd1 h0 n0 Z0 Fd1) (W := 1) (pc := 19) (Ls := #[rv b, rv d, .unset]) (argsL := []) (rest := [(.ref xb1)]) (st0 := [(.ref d), (.ref xb1)]) (by rw [hml]; rfl) (lenOf own_pd10 rfl) rfl (Nat.le_of_eq rfl) (hb hby own_d7_19) (by decide) (by decide) (by decide) (by decide) ?_
   intro v10 T10 L10 s X10 hZ hown hI10 hvm10 hhp10 hWw10 hQ10
   obtain ⟨rfl, Nq10, hh10⟩ := hQ10
   have N10 := Fr.app N3 Nq10
   show own_Ends p e below s _ _ _ (own_F T10 m 22 #[rv b, rv d, .unset] [(.ref xd1), (.ref xb1)])
   refine own_callV (C := "java/lang/String") (y := (⟨"java/lang/String", "equals", "(Ljava/lang/Object;)Z"⟩ : MethodName)) (b := xb1) X10 hx hZ hown (own_w hw 48) (own_w hw 49) (own_w hw 51) (own_w hw 50) (own_w hw 52) (own_w hw 11) (by decide) hh10 Lb1.1 (hM := own_seq l Z a0 hw [] xb1 xd1 tb1 td1 nb1 nd1 mb1 md1 e1r zc fb1 fd1 h0 n0 Z0 hb1 hd1 ⟨Lb1.1, Lb1.2.1, Lb1.2.2.1, Lb1.2.2.2.1, Lb1.2.2.2.2⟩ ⟨Ld1.1, Ld1.2.1, Ld1.2.2.1, Ld1.2.2.2.1, Ld1.2.2.2.2⟩ hr1 hzc S_cs) (W := 0) (pc := 22) (Ls := #[rv b, rv d, .unset]) (argsL := [(.ref xd1)]) (rest := []) (st0 := [(.ref xd1), (.ref xb1)]) (by rw [hml]; rfl) (lenOf own_pd11 rfl) rfl (Nat.le_of_eq rfl) (hb hby own_d7_22) (by decide) (by decide) (by decide) (by decide) ?_
   intro v11 T11 L11 s X11 hZ hown hI11 hvm11 hhp11 hWw11 hQ11
   obtain ⟨rfl, Nq11, hh11⟩ := hQ11
   have N11 := Fr.app N10 Nq11
   show own_Ends p e below s _ _ _ (own_F T11 m 25 #[rv b, rv d, .unset] [(.int e1r)])
   refine own_g (own_F T11 m 26 #[rv b, rv d, iv e1r] []) (fun _ z_ => XS.istoreN X11.here hx rfl (hb hby own_d7_25) rfl (l' := #[rv b, rv d, iv e1r]) rfl z_) ?_
   refine own_g (own_F T11 m 59 #[rv b, rv d, iv e1r] []) (fun _ z_ => XS.goto X11.here hx rfl (pc0 := 26) (pc' := 59) rfl (hb hby own_d7_26) (by decide) (by decide) z_) ?_
   refine own_g (own_F T11 m 60 #[rv b, rv d, iv e1r] [(.int e1r)]) (fun _ z_ => XS.iloadN X11.here hx rfl (hb hby own_d7_59) rfl z_) ?_
   refine own_ret (t := .boolean) X11 hx hlk hrt (own_narZ (own_r01 hr1)) (Or.inl ⟨rfl, by simp, _, rfl⟩) (hb hby own_d7_60) (by decide) (by decide) ?_
   refine ⟨?_, N11, hh11⟩
   simp only [own_cr, c11, if_true, if_false]
set_option maxRecDepth 65536 in
set_option maxHeartbeats 40000000 in
theorem own_str (l : Launch) (Z : State) (a0 : Array Value) (hw : ∀ d ∈ tables_1, d.before a0 Z = true) (ws : List Jvm.Cond) (x zc : Int32) (h0 : Heap) (n0 : Nat) (Z0 : n0 ≤ h0.size) (hn0 : n0 = h0.size) (hzc : ¬ zc = (0 : Int32)) (S_cs : Sta Z h0 "java/lang/String" "COMPACT_STRINGS" "Z" (.int zc)) (hkp : ∀ (b : Addr) (cl : Cell), Z.heap[b]? = some cl → h0[b]? = some cl) (hh : Jvm.Lit.constHeld Z "com/example/assay_runner/assayrunner/report/BuildContinuesPinLaw" 13) (hcw : Jvm.Lit.compactW.before a0 Z = true) :
    own_MetW l Z (⟨"com/example/assay_runner/assayrunner/report/BuildContinuesPinLaw", "str", "(I)Ljava/lang/String;"⟩ : MethodName) method_3_code 5 (some (.object "java/lang/String")) ws ({ frames := 4, cells := 3, slots := 8, locals := 66 } : Room) #[(.int x)] h0 (fun vm => own_LS Z h0 vm own_K0) ((fun v h L vm => ∃ a t : Addr, v = some (.ref a) ∧ Fr n0 L ∧ Keep h0 h [] ∧ own_Lat Z h a t (own_nx x) (own_f x) ∧ own_LS Z h vm own_K0), ([""] : List String)) := by
  refine own_bodyW own_pn20 (fun m => mkF m 0 #[iv x, .unset, .unset, .unset, .unset] []) (fun m => own_ef_own_str m x) ?_
  intro p e s m below meth c T0 hx hby hml hlk hrt hZ hown hnm X0 e0 LS0 SH0
  have hown : s.vm.findClass "com/example/assay_runner/assayrunner/report/BuildContinuesPinLaw" = some m.cls := hown
  have N0 := Fr.nil n0
  refine own_g (own_F T0 m 1 #[iv x, .unset, .unset, .unset, .unset] [(.int x)]) (fun _ z_ => XS.iloadN X0.here hx rfl (hb hby own_d1_0) rfl z_) ?_
  refine own_callS (y := (⟨"com/example/assay_runner/assayrunner/report/BuildContinuesPinLaw", "len", "(I)I"⟩ : MethodName)) X0 hx hZ hown (own_w hw 7) (own_w hw 8) (own_w hw 5) (own_w hw 9) (by decide) e0 (hM := own_lenC l Z a0 hw [] x h0 n0 Z0) (W := 0) (pc := 1) (Ls := #[iv x, .unset, .unset, .unset, .unset]) (argsL := [(.int x)]) (rest := []) (st0 := [(.int x)]) (by rw [hml]; rfl) (lenOf own_pd0 rfl) rfl (Nat.le_of_eq rfl) (hb hby own_d1_1) (by decide) (by decide) (by decide) (by decide) ?_
  intro v1 T1 L1 s X1 hZ hown hI1 hvm1 hhp1 hWw1 hQ1
  have LS1 := own_LS.step LS0 hI1 hWw1
  have SH1 : s.heap = h0 := hhp1.trans SH0
  obtain ⟨rfl, Nq1, hh1⟩ := hQ1
  have N1 := Fr.app N0 Nq1
  show own_Ends p e below s _ _ _ (own_F T1 m 4 #[iv x, .unset, .unset, .unset, .unset] [(.int (own_len x))])
  refine own_g (own_F T1 m 5 #[iv x, iv (own_len x), .unset, .unset, .unset] []) (fun _ z_ => XS.istoreN X1.here hx rfl (hb hby own_d1_4) rfl (l' := #[iv x, iv (own_len x), .unset, .unset, .unset]) rfl z_) ?_
  refine own_g (own_F T1 m 6 #[iv x, iv (own_len x), .unset, .unset, .unset] [(.int x)]) (fun _ z_ => XS.iloadN X1.here hx rfl (hb hby own_d1_5) rfl z_) ?_
  refine own_g (own_F T1 m 9 #[iv x, iv (own_len x), .unset, .unset, .unset] [(.int 255), (.int x)]) (fun _ z_ => XS.sipush X1.here hx rfl (hb hby own_d1_6) z_) ?_
  refine own_g (own_F T1 m 10 #[iv x, iv (own_len x), .unset, .unset, .unset] [(.int (x &&& (255 : Int32)))]) (fun _ z_ => XS.iand X1.here hx rfl (hb hby own_d1_9) rfl z_) ?_
  refine own_g (own_F T1 m 11 #[iv x, iv (own_len x), .unset, .unset, .unset] [(.int ((x &&& (255 : Int32)).toUInt32.toUInt16.toUInt32.toInt32))]) (fun _ z_ => XS.i2c X1.here hx rfl (hb hby own_d1_10) rfl z_) ?_
  generalize gc0 : ((x &&& (255 : Int32)).toUInt32.toUInt16.toUInt32.toInt32) = c0
  have hc0 : c0 = own_f x 0 := by rw [← gc0]; exact own_i2cs (own_fr x 0)
  have rc0 : 0 ≤ c0.toInt ∧ c0.toInt ≤ 255 := by rw [hc0]; exact own_fr x 0
  refine own_g (own_F T1 m 12 #[iv x, iv (own_len x), iv c0, .unset, .unset] []) (fun _ z_ => XS.istoreN X1.here hx rfl (hb hby own_d1_11) rfl (l' := #[iv x, iv (own_len x), iv c0, .unset, .unset]) rfl z_) ?_
  refine own_g (own_F T1 m 13 #[iv x, iv (own_len x), iv c0, .unset, .unset] [(.int x)]) (fun _ z_ => XS.iloadN X1.here hx rfl (hb hby own_d1_12) rfl z_) ?_
  refine own_g (own_F T1 m 15 #[iv x, iv (own_len x), iv c0, .unset, .unset] [(.int 8), (.int x)]) (fun _ z_ => XS.bipush X1.here hx rfl (hb hby own_d1_13) z_) ?_
  refine own_g (own_F T1 m 16 #[iv x, iv (own_len x), iv c0, .unset, .unset] [(.int ((x.toUInt32 >>> ((8 : Int32) &&& 31).toUInt32).toInt32))]) (fun _ z_ => XS.iushr X1.here hx rfl (hb hby own_d1_15) rfl z_) ?_
  refine own_g (own_F T1 m 19 #[iv x, iv (own_len x), iv c0, .unset, .unset] [(.int 255), (.int ((x.toUInt32 >>> ((8 : Int32) &&& 31).toUInt32).toInt32))]) (fun _ z_ => XS.sipush X1.here hx rfl (hb hby own_d1_16) z_) ?_
  refine own_g (own_F T1 m 20 #[iv x, iv (own_len x), iv c0, .unset, .unset] [(.int (((x.toUInt32 >>> ((8 : Int32) &&& 31).toUInt32).toInt32) &&& (255 : Int32)))]) (fun _ z_ => XS.iand X1.here hx rfl (hb hby own_d1_19) rfl z_) ?_
  refine own_g (own_F T1 m 21 #[iv x, iv (own_len x), iv c0, .unset, .unset] [(.int ((((x.toUInt32 >>> ((8 : Int32) &&& 31).toUInt32).toInt32) &&& (255 : Int32)).toUInt32.toUInt16.toUInt32.toInt32))]) (fun _ z_ => XS.i2c X1.here hx rfl (hb hby own_d1_20) rfl z_) ?_
  generalize gc1 : ((((x.toUInt32 >>> ((8 : Int32) &&& 31).toUInt32).toInt32) &&& (255 : Int32)).toUInt32.toUInt16.toUInt32.toInt32) = c1
  have hc1 : c1 = own_f x 1 := by rw [← gc1]; exact own_i2cs (own_fr x 1)
  have rc1 : 0 ≤ c1.toInt ∧ c1.toInt ≤ 255 := by rw [hc1]; exact own_fr x 1
  refine own_g (own_F T1 m 22 #[iv x, iv (own_len x), iv c0, iv c1, .unset] []) (fun _ z_ => XS.istoreN X1.here hx rfl (hb hby own_d1_21) rfl (l' := #[iv x, iv (own_len x), iv c0, iv c1, .unset]) rfl z_) ?_
  refine own_g (own_F T1 m 23 #[iv x, iv (own_len x), iv c0, iv c1, .unset] [(.int (own_len x))]) (fun _ z_ => XS.iloadN X1.here hx rfl (hb hby own_d1_22) rfl z_) ?_
  by_cases c23 : (own_len x) = (0 : Int32)
  · -- pc 23: (own_len x) = (0 : Int32)
   refine own_g (own_F T1 m 26 #[iv x, iv (own_len x), iv c0, iv c1, .unset] []) (fun _ z_ => XS.ifNo X1.here hx rfl (hb hby own_d1_23) rfl ((if0 _ _).trans (teq c23).2) z_) ?_
   refine own_ldL X1 hx hZ hown (own_w hw 10) (own_wS hw) hh1 (by rw [SH1, ← hn0]; exact N1) (fun b_ c_ q_ => by rw [SH1]; exact hkp b_ c_ q_) LS1 (List.mem_of_getElem? (i := 0) rfl) (fun k_ hk_ _ => List.mem_singleton.mp hk_) hh hcw (by simp) (n := 0) (by rfl) (by decide) (hb hby own_d1_26) (by decide) (by decide) (fun _ z_ => z_) ?_
   intro a2 t2 T2 h2 s X2 hZ hown e2 E2 hp2 LS2 Li2 La2
   show own_Ends p e below s _ _ _ (own_F T2 m 28 #[iv x, iv (own_len x), iv c0, iv c1, .unset] [(.ref a2)])
   refine own_ret (t := (.object "java/lang/String")) X2 hx hlk hrt rfl (Or.inr (Or.inr (Or.inr (Or.inr ⟨rfl, rfl, rfl⟩)))) (hb hby own_d1_28) (by decide) (by decide) ?_
   rw [e2]
   exact ⟨a2, t2, rfl, N1, ((Keep.refl _ _).ext E2), ((La2.congr (show 0 = own_nx x by have := own_lnx x; rw [c23, Int32.toInt_zero] at this; omega) (fun i hi => absurd hi (Nat.not_lt_zero i)))), own_LS.warm LS2 X2.warmed⟩
  · -- pc 23: not (own_len x) = (0 : Int32)
   refine own_g (own_F T1 m 29 #[iv x, iv (own_len x), iv c0, iv c1, .unset] []) (fun _ z_ => XS.ifYes X1.here hx rfl (pc0 := 23) (pc' := 29) rfl (hb hby own_d1_23) rfl ((if0 _ _).trans (feq c23).2) (by decide) (by decide) z_) ?_
   refine own_g (own_F T1 m 30 #[iv x, iv (own_len x), iv c0, iv c1, .unset] [(.int (own_len x))]) (fun _ z_ => XS.iloadN X1.here hx rfl (hb hby own_d1_29) rfl z_) ?_
   refine own_g (own_F T1 m 31 #[iv x, iv (own_len x), iv c0, iv c1, .unset] [(.int 1), (.int (own_len x))]) (fun _ z_ => XS.iconst X1.here hx rfl (hb hby own_d1_30) z_) ?_
   by_cases c31 : (own_len x) = (1 : Int32)
   · -- pc 31: (own_len x) = (1 : Int32)
    refine own_g (own_F T1 m 34 #[iv x, iv (own_len x), iv c0, iv c1, .unset] []) (fun _ z_ => XS.icmpNo X1.here hx rfl (hb hby own_d1_31) rfl (teq c31).2 z_) ?_
    refine own_g (own_F T1 m 35 #[iv x, iv (own_len x), iv c0, iv c1, .unset] [(.int c0)]) (fun _ z_ => XS.iloadN X1.here hx rfl (hb hby own_d1_34) rfl z_) ?_
    refine own_callS (y := (⟨"java/lang/String", "valueOf", "(C)Ljava/lang/String;"⟩ : MethodName)) X1 hx hZ hown (own_w hw 58) (own_w hw 59) (own_w hw 11) (own_w hw 60) (by decide) hh1 (hM := own_vo l Z a0 hw [] c0 zc h0 n0 Z0 rc0 hzc S_cs) (W := 0) (pc := 35) (Ls := #[iv x, iv (own_len x), iv c0, iv c1, .unset]) (argsL := [(.int c0)]) (rest := []) (st0 := [(.int c0)]) (by rw [hml]; rfl) (lenOf own_pd13 rfl) rfl (Nat.le_of_eq rfl) (hb hby own_d1_35) (by decide) (by decide) (by decide) (by decide) ?_
    intro v3 T3 L3 s X3 hZ hown hI3 hvm3 hhp3 hWw3 hQ3
    have LS3 := own_LS.step LS1 hI3 hWw3
    have SH3 : s.heap = h0 := hhp3.trans SH1
    obtain ⟨x3, t3, rfl, Nq3, K3, La3⟩ := hQ3
    have N3 := Fr.app N1 Nq3
    show own_Ends p e below s _ _ _ (own_F T3 m 38 #[iv x, iv (own_len x), iv c0, iv c1, .unset] [(.ref x3)])
    refine own_ret (t := (.object "java/lang/String")) X3 hx hlk hrt rfl (Or.inr (Or.inr (Or.inr (Or.inr ⟨rfl, rfl, rfl⟩)))) (hb hby own_d1_38) (by decide) (by decide) ?_
    exact ⟨x3, t3, rfl, N3, ((Keep.refl _ _).trans K3 all0), ((La3.congr (show 1 = own_nx x by have := own_lnx x; rw [c31] at this; simp only [Int32.reduceToInt] at this; omega) (fun i hi => by obtain rfl : i = 0 := (by omega); exact hc0))), own_LS.warm (LS3.keep ((Keep.refl _ _).trans K3 all0)) X3.warmed⟩
   · -- pc 31: not (own_len x) = (1 : Int32)
    refine own_g (own_F T1 m 39 #[iv x, iv (own_len x), iv c0, iv c1, .unset] []) (fun _ z_ => XS.icmpYes X1.here hx rfl (pc0 := 31) (pc' := 39) rfl (hb hby own_d1_31) rfl (feq c31).2 (by decide) (by decide) z_) ?_
    refine own_g (own_F T1 m 40 #[iv x, iv (own_len x), iv c0, iv c1, .unset] [(.int 2)]) (fun _ z_ => XS.iconst X1.here hx rfl (hb hby own_d1_39) z_) ?_
    refine own_newA X1 hx hZ .char rfl (own_w hw 77) hh1 (hb hby own_d1_40) 2 rfl 2 (by decide) (by decide) (by decide) (by decide) ?_
    intro T4 h4 b4 X4 e4 E4 g4 A4
    have sz_b4 : h0.size ≤ b4 := Nat.le_trans (Nat.le_refl h0.size) (Nat.le_of_eq g4.symm)
    have ge_b4 : n0 ≤ b4 := Nat.le_trans Z0 (Nat.le_of_eq g4.symm)
    have A4 : own_A Z h4 b4 .char 2 (fun q_ => .int ((fun _ => (0 : Int32)) q_)) := A4
    show own_Ends p e below s _ _ _ (own_F T4 m 42 #[iv x, iv (own_len x), iv c0, iv c1, .unset] [(.ref b4)])
    refine own_g (own_F T4 m 44 #[iv x, iv (own_len x), iv c0, iv c1, rv b4] []) (fun _ z_ => XS.astore X4.here hx rfl (hb hby own_d1_42) rfl rfl (l' := #[iv x, iv (own_len x), iv c0, iv c1, rv b4]) rfl z_) ?_
    refine own_g (own_F T4 m 46 #[iv x, iv (own_len x), iv c0, iv c1, rv b4] [(.ref b4)]) (fun _ z_ => XS.aload X4.here hx rfl (hb hby own_d1_44) rfl rfl z_) ?_
    refine own_g (own_F T4 m 47 #[iv x, iv (own_len x), iv c0, iv c1, rv b4] [(.int 0), (.ref b4)]) (fun _ z_ => XS.iconst X4.here hx rfl (hb hby own_d1_46) z_) ?_
    refine own_g (own_F T4 m 48 #[iv x, iv (own_len x), iv c0, iv c1, rv b4] [(.int c0), (.int 0), (.ref b4)]) (fun _ z_ => XS.iloadN X4.here hx rfl (hb hby own_d1_47) rfl z_) ?_
    refine own_cast X4 hx hZ e4 A4 0 rfl (by decide) c0 (own_narC ⟨rc0.1, by omega⟩) (hb hby own_d1_48) ?_
    intro T5 h5 X5 e5 W5 A5
    have N5 := Fr.snoc X5 N1 ge_b4
    obtain ⟨g5, A5, q5_0, q5_1⟩ : ∃ gq_ : Nat → Int32, own_A Z h5 b4 .char 2 (fun q_ => .int (gq_ q_)) ∧ gq_ 0 = c0 ∧ gq_ 1 = (0 : Int32) := ⟨_, A5, rfl, (show ite _ _ _ = _ from (if_neg (by decide)).trans rfl)⟩
    show own_Ends p e below s _ _ _ (own_F T5 m 49 #[iv x, iv (own_len x), iv c0, iv c1, rv b4] [])
    refine own_g (own_F T5 m 51 #[iv x, iv (own_len x), iv c0, iv c1, rv b4] [(.ref b4)]) (fun _ z_ => XS.aload X5.here hx rfl (hb hby own_d1_49) rfl rfl z_) ?_
    refine own_g (own_F T5 m 52 #[iv x, iv (own_len x), iv c0, iv c1, rv b4] [(.int 1), (.ref b4)]) (fun _ z_ => XS.iconst X5.here hx rfl (hb hby own_d1_51) z_) ?_
    refine own_g (own_F T5 m 53 #[iv x, iv (own_len x), iv c0, iv c1, rv b4] [(.int c1), (.int 1), (.ref b4)]) (fun _ z_ => XS.iloadN X5.here hx rfl (hb hby own_d1_52) rfl z_) ?_
    refine own_cast X5 hx hZ e5 A5 1 rfl (by decide) c1 (own_narC ⟨rc1.1, by omega⟩) (hb hby own_d1_53) ?_
    intro T6 h6 X6 e6 W6 A6
    have N6 := Fr.snoc X6 N5 ge_b4
    obtain ⟨g6, A6, q6_0, q6_1⟩ : ∃ gq_ : Nat → Int32, own_A Z h6 b4 .char 2 (fun q_ => .int (gq_ q_)) ∧ gq_ 0 = c0 ∧ gq_ 1 = c1 := ⟨_, A6, (show ite _ _ _ = _ from (if_neg (by decide)).trans q5_0), rfl⟩
    show own_Ends p e below s _ _ _ (own_F T6 m 54 #[iv x, iv (own_len x), iv c0, iv c1, rv b4] [])
    obtain ⟨T7, h7, X7, e7, E7, A7, D7, -, st7⟩ := newO X6 hx hZ hown (own_w hw 78) (own_w hw 12) (own_w hw 11) e6 (g := (mkF m 54 #[iv x, iv (own_len x), iv c0, iv c1, rv b4] [])) rfl (hb hby own_d1_54) (by decide) (by decide)
    obtain ⟨b7, g7⟩ : ∃ z, z = h6.size := ⟨_, rfl⟩
    rw [← g7] at A7 D7 st7
    have sz_b7 : h0.size ≤ b7 := Nat.le_trans (Nat.le_trans (Nat.le_trans (Nat.le_trans (Nat.le_refl h0.size) E4.1) (Nat.le_of_eq W5.size.symm)) (Nat.le_of_eq W6.size.symm)) (Nat.le_of_eq g7.symm)
    have ge_b7 : n0 ≤ b7 := Nat.le_trans (Nat.le_trans (Nat.le_trans (Nat.le_trans Z0 E4.1) (Nat.le_of_eq W5.size.symm)) (Nat.le_of_eq W6.size.symm)) (Nat.le_of_eq g7.symm)
    have ne_b4_b7 : b4 ≠ b7 := Nat.ne_of_lt (Nat.lt_of_lt_of_le A6.lt (Nat.le_of_eq g7.symm))
    have F7_value : Fld Z h7 b7 "java/lang/String" "value" "[B" .null := D7 (Or.inr (own_w hw 14)) (ty := (.array .byte)) (by decide)
    have F7_coder : Fld Z h7 b7 "java/lang/String" "coder" "B" (.int 0) := D7 (Or.inr (own_w hw 15)) (ty := .byte) (by decide)
    refine own_pre (S' := (own_F T7 m 57 #[iv x, iv (own_len x), iv c0, iv c1, rv b4] [(.ref b7)])) st7 ?_
    refine own_g (own_F T7 m 58 #[iv x, iv (own_len x), iv c0, iv c1, rv b4] [(.ref b7), (.ref b7)]) (fun _ z_ => XS.dup X7.here hx rfl (hb hby own_d1_57) rfl rfl z_) ?_
    refine own_g (own_F T7 m 60 #[iv x, iv (own_len x), iv c0, iv c1, rv b4] [(.ref b4), (.ref b7), (.ref b7)]) (fun _ z_ => XS.aload X7.here hx rfl (hb hby own_d1_58) rfl rfl z_) ?_
    have hf2 : ∀ i, i < 2 → g6 i = own_f x i := fun i hi => by rcases own_lt2 hi with rfl | rfl; exact q6_0.trans hc0; exact q6_1.trans hc1
    refine own_callI (y := (⟨"java/lang/String", "<init>", "([C)V"⟩ : MethodName)) (b := b7) X7 hx hZ hown rfl (own_w hw 79) (own_w hw 80) (own_w hw 81) (own_w hw 11) (by decide) e7 (hM := own_si l Z a0 hw [] b7 b4 2 2 zc g6 h7 n0 (Nat.le_trans (Nat.le_trans (Nat.le_trans (Nat.le_trans Z0 E4.1) (Nat.le_of_eq W5.size.symm)) (Nat.le_of_eq W6.size.symm)) E7.1) rfl (by decide) (by decide) (by decide) hzc (A6.ext E7) (fun i hi => by rw [hf2 i hi]; exact own_fr x i) A7 F7_value F7_coder ((((S_cs.ext E4).wr W5).wr W6).ext E7) ge_b7 (Ne.symm ne_b4_b7)) (W := 1) (pc := 60) (Ls := #[iv x, iv (own_len x), iv c0, iv c1, rv b4]) (argsL := [(.ref b4)]) (rest := [(.ref b7)]) (st0 := [(.ref b4), (.ref b7), (.ref b7)]) (by rw [hml]; rfl) (lenOf own_pd14 rfl) rfl (Nat.le_of_eq rfl) (hb hby own_d1_60) (by decide) (by decide) (by decide) (by decide) ?_
    intro v8 T8 L8 s X8 hZ hown hI8 hvm8 hhp8 hWw8 hQ8
    have LS8 := own_LS.step LS1 hI8 hWw8
    have SH8 : s.heap = h0 := hhp8.trans SH1
    obtain ⟨rfl, Nq8, K8, t8, La8, -⟩ := hQ8
    have N8 := Fr.app N6 Nq8
    show own_Ends p e below s _ _ _ (own_F T8 m 63 #[iv x, iv (own_len x), iv c0, iv c1, rv b4] [(.ref b7)])
    refine own_ret (t := (.object "java/lang/String")) X8 hx hlk hrt rfl (Or.inr (Or.inr (Or.inr (Or.inr ⟨rfl, rfl, rfl⟩)))) (hb hby own_d1_63) (by decide) (by decide) ?_
    exact ⟨b7, t8, rfl, N8, ((((((Keep.refl _ _).ext E4).wr W5 (Or.inr sz_b4)).wr W6 (Or.inr sz_b4)).ext E7).trans K8 (allS (Or.inr sz_b7) all0)), ((La8.congr (show 2 = own_nx x by have h1 := own_lnx x; have h2 := own_len3 x; rw [← Int32.toInt_inj] at c23 c31; simp only [Int32.reduceToInt] at c23 c31; omega) hf2)), own_LS.warm (LS8.keep ((((((Keep.refl _ _).ext E4).wr W5 (Or.inr sz_b4)).wr W6 (Or.inr sz_b4)).ext E7).trans K8 (allS (Or.inr sz_b7) all0))) X8.warmed⟩
set_option maxRecDepth 65536 in
set_option maxHeartbeats 40000000 in
theorem own_law (l : Launch) (Z : State) (a0 : Array Value) (hw : ∀ d ∈ tables_1, d.before a0 Z = true) (ws : List Jvm.Cond) (i0 i1 i2 i3 i4 i5 zc : Int32) (h0 : Heap) (n0 : Nat) (Z0 : n0 ≤ h0.size) (hzc : ¬ zc = (0 : Int32)) (S_cs : Sta Z h0 "java/lang/String" "COMPACT_STRINGS" "Z" (.int zc)) (hkp : ∀ (b : Addr) (cl : Cell), Z.heap[b]? = some cl → h0[b]? = some cl) (hh : Jvm.Lit.constHeld Z "com/example/assay_runner/assayrunner/report/BuildContinuesPinLaw" 13) (hcw : Jvm.Lit.compactW.before a0 Z = true) :
    own_MetW l Z x code maxLocals ret ws room_1 #[(.int i0), (.int i1), (.int i2), (.int i3), (.int i4), (.int i5)] h0 (fun vm => own_LS Z h0 vm own_K0) ((fun v h L vm => v = some (.int 1) ∧ Fr n0 L), ([""] : List String)) := by
  refine own_bodyW own_pn21 (fun m => mkF m 0 #[iv i0, iv i1, iv i2, iv i3, iv i4, iv i5, .unset, .unset, .unset] []) (fun m => own_ef_own_law m i0 i1 i2 i3 i4 i5) ?_
  intro p e s m below meth c T0 hx hby hml hlk hrt hZ hown hnm X0 e0 LS0 SH0
  have hown : s.vm.findClass "com/example/assay_runner/assayrunner/report/BuildContinuesPinLaw" = some m.cls := hown
  have N0 := Fr.nil n0
  obtain ⟨T1, h1, X1, e1, E1, A1, D1, -, st1⟩ := newO X0 hx hZ hown (own_w hw 0) (own_w hw 1) (own_w hw 2) e0 (g := (mkF m 0 #[iv i0, iv i1, iv i2, iv i3, iv i4, iv i5, .unset, .unset, .unset] [])) rfl (hb hby at_0) (by decide) (by decide)
  obtain ⟨b1, g1⟩ : ∃ z, z = h0.size := ⟨_, rfl⟩
  rw [← g1] at A1 D1 st1
  have sz_b1 : h0.size ≤ b1 := Nat.le_trans (Nat.le_refl h0.size) (Nat.le_of_eq g1.symm)
  have ge_b1 : n0 ≤ b1 := Nat.le_trans Z0 (Nat.le_of_eq g1.symm)
  have F1_jvm : Fld Z h1 b1 "com/example/assay_runner/assayrunner/report/Build" "jvm" "Ljava/lang/String;" .null := D1 (Or.inr (own_w hw 30)) (ty := (.object "java/lang/String")) (by decide)
  have F1_session : Fld Z h1 b1 "com/example/assay_runner/assayrunner/report/Build" "session" "Ljava/lang/String;" .null := D1 (Or.inr (own_w hw 32)) (ty := (.object "java/lang/String")) (by decide)
  have F1_forkedBy : Fld Z h1 b1 "com/example/assay_runner/assayrunner/report/Build" "forkedBy" "Ljava/lang/String;" .null := D1 (Or.inr (own_w hw 34)) (ty := (.object "java/lang/String")) (by decide)
  refine own_pre (S' := (own_F T1 m 3 #[iv i0, iv i1, iv i2, iv i3, iv i4, iv i5, .unset, .unset, .unset] [(.ref b1)])) st1 ?_
  refine own_g (own_F T1 m 4 #[iv i0, iv i1, iv i2, iv i3, iv i4, iv i5, .unset, .unset, .unset] [(.ref b1), (.ref b1)]) (fun _ z_ => XS.dup X1.here hx rfl (hb hby at_3) rfl rfl z_) ?_
  refine own_g (own_F T1 m 5 #[iv i0, iv i1, iv i2, iv i3, iv i4, iv i5, .unset, .unset, .unset] [(.int i0), (.ref b1), (.ref b1)]) (fun _ z_ => XS.iloadN X1.here hx rfl (hb hby at_4) rfl z_) ?_
  refine own_callS (y := (⟨"com/example/assay_runner/assayrunner/report/BuildContinuesPinLaw", "str", "(I)Ljava/lang/String;"⟩ : MethodName)) X1 hx hZ hown (own_w hw 3) (own_w hw 4) (own_w hw 5) (own_w hw 6) (by decide) e1 (hM := own_str l Z a0 hw [] i0 zc h1 h1.size (Nat.le_refl _) rfl hzc (S_cs.ext E1) (fun b_ c_ q_ => (((Keep.refl _ _).ext E1)).2.1 b_ c_ (hkp b_ c_ q_) nin0) hh hcw) (hv := fun _ hq_ => own_LS.warm (LS0.ext E1) hq_) (hsub := fun _ z_ => z_) (W := 2) (pc := 5) (Ls := #[iv i0, iv i1, iv i2, iv i3, iv i4, iv i5, .unset, .unset, .unset]) (argsL := [(.int i0)]) (rest := [(.ref b1), (.ref b1)]) (st0 := [(.int i0), (.ref b1), (.ref b1)]) (by rw [hml]; rfl) (lenOf own_pd15 rfl) rfl (Nat.le_of_eq rfl) (hb hby at_5) (by decide) (by decide) (by decide) (by decide) ?_
  intro v2 T2 L2 s X2 hZ hown hI2 hvm2 hhp2 hWw2 hQ2
  obtain ⟨x2, t2, rfl, Nr2, K2, La2, LS2⟩ := hQ2
  have Nq2 := own_frm (Nat.le_trans Z0 E1.1) Nr2
  have N2 := Fr.app N0 Nq2
  show own_Ends p e below s _ _ _ (own_F T2 m 8 #[iv i0, iv i1, iv i2, iv i3, iv i4, iv i5, .unset, .unset, .unset] [(.ref x2), (.ref b1), (.ref b1)])
  have no2_b1 := own_LatO La2 (A1.keep K2) (by decide) (own_w hw 1)
  refine own_g (own_F T2 m 9 #[iv i0, iv i1, iv i2, iv i3, iv i4, iv i5, .unset, .unset, .unset] [(.int i1), (.ref x2), (.ref b1), (.ref b1)]) (fun _ z_ => XS.iloadN X2.here hx rfl (hb hby at_8) rfl z_) ?_
  refine own_callS (y := (⟨"com/example/assay_runner/assayrunner/report/BuildContinuesPinLaw", "str", "(I)Ljava/lang/String;"⟩ : MethodName)) X2 hx hZ hown (own_w hw 3) (own_w hw 4) (own_w hw 5) (own_w hw 6) (by decide) (rfl : T2.heap = T2.heap) (hM := own_str l Z a0 hw [] i1 zc T2.heap T2.heap.size (Nat.le_refl _) rfl hzc (own_sta_keep (S_cs.ext E1) K2 all0) (fun b_ c_ q_ => ((((Keep.refl _ _).ext E1).trans K2 all0)).2.1 b_ c_ (hkp b_ c_ q_) nin0) hh hcw) (hv := fun _ hq_ => own_LS.warm (own_LS.ofvm LS2 hvm2) hq_) (hsub := fun _ z_ => z_) (W := 3) (pc := 9) (Ls := #[iv i0, iv i1, iv i2, iv i3, iv i4, iv i5, .unset, .unset, .unset]) (argsL := [(.int i1)]) (rest := [(.ref x2), (.ref b1), (.ref b1)]) (st0 := [(.int i1), (.ref x2), (.ref b1), (.ref b1)]) (by rw [hml]; rfl) (lenOf own_pd15 rfl) rfl (Nat.le_of_eq rfl) (hb hby at_9) (by decide) (by decide) (by decide) (by decide) ?_
  intro v3 T3 L3 s X3 hZ hown hI3 hvm3 hhp3 hWw3 hQ3
  obtain ⟨x3, t3, rfl, Nr3, K3, La3, LS3⟩ := hQ3
  have Nq3 := own_frm (Nat.le_trans (Nat.le_trans Z0 E1.1) K2.1) Nr3
  have N3 := Fr.app N2 Nq3
  show own_Ends p e below s _ _ _ (own_F T3 m 12 #[iv i0, iv i1, iv i2, iv i3, iv i4, iv i5, .unset, .unset, .unset] [(.ref x3), (.ref x2), (.ref b1), (.ref b1)])
  have no3_b1 := own_LatO La3 ((A1.keep K2).keep K3) (by decide) (own_w hw 1)
  refine own_g (own_F T3 m 13 #[iv i0, iv i1, iv i2, iv i3, iv i4, iv i5, .unset, .unset, .unset] [(.int i2), (.ref x3), (.ref x2), (.ref b1), (.ref b1)]) (fun _ z_ => XS.iloadN X3.here hx rfl (hb hby at_12) rfl z_) ?_
  refine own_callS (y := (⟨"com/example/assay_runner/assayrunner/report/BuildContinuesPinLaw", "str", "(I)Ljava/lang/String;"⟩ : MethodName)) X3 hx hZ hown (own_w hw 3) (own_w hw 4) (own_w hw 5) (own_w hw 6) (by decide) (rfl : T3.heap = T3.heap) (hM := own_str l Z a0 hw [] i2 zc T3.heap T3.heap.size (Nat.le_refl _) rfl hzc (own_sta_keep (own_sta_keep (S_cs.ext E1) K2 all0) K3 all0) (fun b_ c_ q_ => (((((Keep.refl _ _).ext E1).trans K2 all0).trans K3 all0)).2.1 b_ c_ (hkp b_ c_ q_) nin0) hh hcw) (hv := fun _ hq_ => own_LS.warm (own_LS.ofvm LS3 hvm3) hq_) (hsub := fun _ z_ => z_) (W := 4) (pc := 13) (Ls := #[iv i0, iv i1, iv i2, iv i3, iv i4, iv i5, .unset, .unset, .unset]) (argsL := [(.int i2)]) (rest := [(.ref x3), (.ref x2), (.ref b1), (.ref b1)]) (st0 := [(.int i2), (.ref x3), (.ref x2), (.ref b1), (.ref b1)]) (by rw [hml]; rfl) (lenOf own_pd15 rfl) rfl (Nat.le_of_eq rfl) (hb hby at_13) (by decide) (by decide) (by decide) (by decide) ?_
  intro v4 T4 L4 s X4 hZ hown hI4 hvm4 hhp4 hWw4 hQ4
  obtain ⟨x4, t4, rfl, Nr4, K4, La4, LS4⟩ := hQ4
  have Nq4 := own_frm (Nat.le_trans (Nat.le_trans (Nat.le_trans Z0 E1.1) K2.1) K3.1) Nr4
  have N4 := Fr.app N3 Nq4
  show own_Ends p e below s _ _ _ (own_F T4 m 16 #[iv i0, iv i1, iv i2, iv i3, iv i4, iv i5, .unset, .unset, .unset] [(.ref x4), (.ref x3), (.ref x2), (.ref b1), (.ref b1)])
  have no4_b1 := own_LatO La4 (((A1.keep K2).keep K3).keep K4) (by decide) (own_w hw 1)
  refine own_callI (y := (⟨"com/example/assay_runner/assayrunner/report/Build", "<init>", "(Ljava/lang/String;Ljava/lang/String;Ljava/lang/String;)V"⟩ : MethodName)) (b := b1) X4 hx hZ hown rfl (own_w hw 18) (own_w hw 19) (own_w hw 20) (own_w hw 2) (by decide) (rfl : T4.heap = T4.heap) (hM := own_bi l Z a0 hw [] b1 x2 x3 x4 T4.heap n0 (Nat.le_trans (Nat.le_trans (Nat.le_trans (Nat.le_trans Z0 E1.1) K2.1) K3.1) K4.1) (((A1.keep K2).keep K3).keep K4) (((F1_jvm.keep K2 nin0).keep K3 nin0).keep K4 nin0) (((F1_session.keep K2 nin0).keep K3 nin0).keep K4 nin0) (((F1_forkedBy.keep K2 nin0).keep K3 nin0).keep K4 nin0) ge_b1) (W := 1) (pc := 16) (Ls := #[iv i0, iv i1, iv i2, iv i3, iv i4, iv i5, .unset, .unset, .unset]) (argsL := [(.ref x2), (.ref x3), (.ref x4)]) (rest := [(.ref b1)]) (st0 := [(.ref x4), (.ref x3), (.ref x2), (.ref b1), (.ref b1)]) (by rw [hml]; rfl) (lenOf own_pd16 rfl) rfl (Nat.le_of_eq rfl) (hb hby at_16) (by decide) (by decide) (by decide) (by decide) ?_
  intro v5 T5 L5 s X5 hZ hown hI5 hvm5 hhp5 hWw5 hQ5
  have LS5 := own_LS.step (own_LS.ofvm LS4 hvm4) hI5 hWw5
  obtain ⟨rfl, Nq5, K5, G5_0, G5_1, G5_2⟩ := hQ5
  have N5 := Fr.app N4 Nq5
  show own_Ends p e below s _ _ _ (own_F T5 m 19 #[iv i0, iv i1, iv i2, iv i3, iv i4, iv i5, .unset, .unset, .unset] [(.ref b1)])
  have LK5 := own_LS.keepO LS5 K5 (((A1.keep K2).keep K3).keep K4) (by decide) (own_w hw 1)
  refine own_g (own_F T5 m 21 #[iv i0, iv i1, iv i2, iv i3, iv i4, iv i5, rv b1, .unset, .unset] []) (fun _ z_ => XS.astore X5.here hx rfl (hb hby at_19) rfl rfl (l' := #[iv i0, iv i1, iv i2, iv i3, iv i4, iv i5, rv b1, .unset, .unset]) rfl z_) ?_
  obtain ⟨T6, h6, X6, e6, E6, A6, D6, -, st6⟩ := newO X5 hx hZ hown (own_w hw 0) (own_w hw 1) (own_w hw 2) (rfl : T5.heap = T5.heap) (g := (mkF m 21 #[iv i0, iv i1, iv i2, iv i3, iv i4, iv i5, rv b1, .unset, .unset] [])) rfl (hb hby at_21) (by decide) (by decide)
  obtain ⟨b6, g6⟩ : ∃ z, z = T5.heap.size := ⟨_, rfl⟩
  rw [← g6] at A6 D6 st6
  have sz_b6 : h0.size ≤ b6 := Nat.le_trans (Nat.le_trans (Nat.le_trans (Nat.le_trans (Nat.le_trans (Nat.le_trans (Nat.le_refl h0.size) E1.1) K2.1) K3.1) K4.1) K5.1) (Nat.le_of_eq g6.symm)
  have ge_b6 : n0 ≤ b6 := Nat.le_trans (Nat.le_trans (Nat.le_trans (Nat.le_trans (Nat.le_trans (Nat.le_trans Z0 E1.1) K2.1) K3.1) K4.1) K5.1) (Nat.le_of_eq g6.symm)
  have ne_b1_b6 : b1 ≠ b6 := Nat.ne_of_lt (Nat.lt_of_lt_of_le ((((A1.keep K2).keep K3).keep K4).keep K5).lt (Nat.le_of_eq g6.symm))
  have ne_x2_b6 : x2 ≠ b6 := Nat.ne_of_lt (Nat.lt_of_lt_of_le (((La2.1.keep K3).keep K4).keep K5).lt (Nat.le_of_eq g6.symm))
  have ne_t2_b6 : t2 ≠ b6 := Nat.ne_of_lt (Nat.lt_of_lt_of_le (((La2.2.2.2.1.keep K3 nin0).keep K4 nin0).keep K5 (ninS no2_b1.2 nin0)).lt (Nat.le_of_eq g6.symm))
  have ne_x3_b6 : x3 ≠ b6 := Nat.ne_of_lt (Nat.lt_of_lt_of_le ((La3.1.keep K4).keep K5).lt (Nat.le_of_eq g6.symm))
  have ne_t3_b6 : t3 ≠ b6 := Nat.ne_of_lt (Nat.lt_of_lt_of_le ((La3.2.2.2.1.keep K4 nin0).keep K5 (ninS no3_b1.2 nin0)).lt (Nat.le_of_eq g6.symm))
  have ne_x4_b6 : x4 ≠ b6 := Nat.ne_of_lt (Nat.lt_of_lt_of_le (La4.1.keep K5).lt (Nat.le_of_eq g6.symm))
  have ne_t4_b6 : t4 ≠ b6 := Nat.ne_of_lt (Nat.lt_of_lt_of_le (La4.2.2.2.1.keep K5 (ninS no4_b1.2 nin0)).lt (Nat.le_of_eq g6.symm))
  have F6_jvm : Fld Z h6 b6 "com/example/assay_runner/assayrunner/report/Build" "jvm" "Ljava/lang/String;" .null := D6 (Or.inr (own_w hw 30)) (ty := (.object "java/lang/String")) (by decide)
  have F6_session : Fld Z h6 b6 "com/example/assay_runner/assayrunner/report/Build" "session" "Ljava/lang/String;" .null := D6 (Or.inr (own_w hw 32)) (ty := (.object "java/lang/String")) (by decide)
  have F6_forkedBy : Fld Z h6 b6 "com/example/assay_runner/assayrunner/report/Build" "forkedBy" "Ljava/lang/String;" .null := D6 (Or.inr (own_w hw 34)) (ty := (.object "java/lang/String")) (by decide)
  refine own_pre (S' := (own_F T6 m 24 #[iv i0, iv i1, iv i2, iv i3, iv i4, iv i5, rv b1, .unset, .unset] [(.ref b6)])) st6 ?_
  refine own_g (own_F T6 m 25 #[iv i0, iv i1, iv i2, iv i3, iv i4, iv i5, rv b1, .unset, .unset] [(.ref b6), (.ref b6)]) (fun _ z_ => XS.dup X6.here hx rfl (hb hby at_24) rfl rfl z_) ?_
  refine own_g (own_F T6 m 26 #[iv i0, iv i1, iv i2, iv i3, iv i4, iv i5, rv b1, .unset, .unset] [(.int i3), (.ref b6), (.ref b6)]) (fun _ z_ => XS.iloadN X6.here hx rfl (hb hby at_25) rfl z_) ?_
  refine own_callS (y := (⟨"com/example/assay_runner/assayrunner/report/BuildContinuesPinLaw", "str", "(I)Ljava/lang/String;"⟩ : MethodName)) X6 hx hZ hown (own_w hw 3) (own_w hw 4) (own_w hw 5) (own_w hw 6) (by decide) e6 (hM := own_str l Z a0 hw [] i3 zc h6 h6.size (Nat.le_refl _) rfl hzc ((own_sta_keep (own_sta_keep (own_sta_keep (own_sta_keep (S_cs.ext E1) K2 all0) K3 all0) K4 all0) K5 (allS (own_plainE (((A1.keep K2).keep K3).keep K4)) all0)).ext E6) (fun b_ c_ q_ => ((((((((Keep.refl _ _).ext E1).trans K2 all0).trans K3 all0).trans K4 all0).trans K5 (allS (Or.inr sz_b1) all0)).ext E6)).2.1 b_ c_ (hkp b_ c_ q_) nin0) hh hcw) (hv := fun _ hq_ => own_LS.warm (LK5.ext E6) hq_) (hsub := fun _ z_ => z_) (W := 2) (pc := 26) (Ls := #[iv i0, iv i1, iv i2, iv i3, iv i4, iv i5, rv b1, .unset, .unset]) (argsL := [(.int i3)]) (rest := [(.ref b6), (.ref b6)]) (st0 := [(.int i3), (.ref b6), (.ref b6)]) (by rw [hml]; rfl) (lenOf own_pd15 rfl) rfl (Nat.le_of_eq rfl) (hb hby at_26) (by decide) (by decide) (by decide) (by decide) ?_
  intro v7 T7 L7 s X7 hZ hown hI7 hvm7 hhp7 hWw7 hQ7
  obtain ⟨x7, t7, rfl, Nr7, K7, La7, LS7⟩ := hQ7
  have Nq7 := own_frm (Nat.le_trans (Nat.le_trans (Nat.le_trans (Nat.le_trans (Nat.le_trans (Nat.le_trans Z0 E1.1) K2.1) K3.1) K4.1) K5.1) E6.1) Nr7
  have N7 := Fr.app N5 Nq7
  show own_Ends p e below s _ _ _ (own_F T7 m 29 #[iv i0, iv i1, iv i2, iv i3, iv i4, iv i5, rv b1, .unset, .unset] [(.ref x7), (.ref b6), (.ref b6)])
  have no7_b1 := own_LatO La7 ((((((A1.keep K2).keep K3).keep K4).keep K5).ext E6).keep K7) (by decide) (own_w hw 1)
  have no7_b6 := own_LatO La7 (A6.keep K7) (by decide) (own_w hw 1)
  refine own_g (own_F T7 m 31 #[iv i0, iv i1, iv i2, iv i3, iv i4, iv i5, rv b1, .unset, .unset] [(.int i4), (.ref x7), (.ref b6), (.ref b6)]) (fun _ z_ => XS.iload X7.here hx rfl (hb hby at_29) rfl z_) ?_
  refine own_callS (y := (⟨"com/example/assay_runner/assayrunner/report/BuildContinuesPinLaw", "str", "(I)Ljava/lang/String;"⟩ : MethodName)) X7 hx hZ hown (own_w hw 3) (own_w hw 4) (own_w hw 5) (own_w hw 6) (by decide) (rfl : T7.heap = T7.heap) (hM := own_str l Z a0 hw [] i4 zc T7.heap T7.heap.size (Nat.le_refl _) rfl hzc (own_sta_keep ((own_sta_keep (own_sta_keep (own_sta_keep (own_sta_keep (S_cs.ext E1) K2 all0) K3 all0) K4 all0) K5 (allS (own_plainE (((A1.keep K2).keep K3).keep K4)) all0)).ext E6) K7 all0) (fun b_ c_ q_ => (((((((((Keep.refl _ _).ext E1).trans K2 all0).trans K3 all0).trans K4 all0).trans K5 (allS (Or.inr sz_b1) all0)).ext E6).trans K7 all0)).2.1 b_ c_ (hkp b_ c_ q_) nin0) hh hcw) (hv := fun _ hq_ => own_LS.warm (own_LS.ofvm LS7 hvm7) hq_) (hsub := fun _ z_ => z_) (W := 3) (pc := 31) (Ls := #[iv i0, iv i1, iv i2, iv i3, iv i4, iv i5, rv b1, .unset, .unset]) (argsL := [(.int i4)]) (rest := [(.ref x7), (.ref b6), (.ref b6)]) (st0 := [(.int i4), (.ref x7), (.ref b6), (.ref b6)]) (by rw [hml]; rfl) (lenOf own_pd15 rfl) rfl (Nat.le_of_eq rfl) (hb hby at_31) (by decide) (by decide) (by decide) (by decide) ?_
  intro v8 T8 L8 s X8 hZ hown hI8 hvm8 hhp8 hWw8 hQ8
  obtain ⟨x8, t8, rfl, Nr8, K8, La8, LS8⟩ := hQ8
  have Nq8 := own_frm (Nat.le_trans (Nat.le_trans (Nat.le_trans (Nat.le_trans (Nat.le_trans (Nat.le_trans (Nat.le_trans Z0 E1.1) K2.1) K3.1) K4.1) K5.1) E6.1) K7.1) Nr8
  have N8 := Fr.app N7 Nq8
  show own_Ends p e below s _ _ _ (own_F T8 m 34 #[iv i0, iv i1, iv i2, iv i3, iv i4, iv i5, rv b1, .unset, .unset] [(.ref x8), (.ref x7), (.ref b6), (.ref b6)])
  have no8_b1 := own_LatO La8 (((((((A1.keep K2).keep K3).keep K4).keep K5).ext E6).keep K7).keep K8) (by decide) (own_w hw 1)
  have no8_b6 := own_LatO La8 ((A6.keep K7).keep K8) (by decide) (own_w hw 1)
  refine own_g (own_F T8 m 36 #[iv i0, iv i1, iv i2, iv i3, iv i4, iv i5, rv b1, .unset, .unset] [(.int i5), (.ref x8), (.ref x7), (.ref b6), (.ref b6)]) (fun _ z_ => XS.iload X8.here hx rfl (hb hby at_34) rfl z_) ?_
  refine own_callS (y := (⟨"com/example/assay_runner/assayrunner/report/BuildContinuesPinLaw", "str", "(I)Ljava/lang/String;"⟩ : MethodName)) X8 hx hZ hown (own_w hw 3) (own_w hw 4) (own_w hw 5) (own_w hw 6) (by decide) (rfl : T8.heap = T8.heap) (hM := own_str l Z a0 hw [] i5 zc T8.heap T8.heap.size (Nat.le_refl _) rfl hzc (own_sta_keep (own_sta_keep ((own_sta_keep (own_sta_keep (own_sta_keep (own_sta_keep (S_cs.ext E1) K2 all0) K3 all0) K4 all0) K5 (allS (own_plainE (((A1.keep K2).keep K3).keep K4)) all0)).ext E6) K7 all0) K8 all0) (fun b_ c_ q_ => ((((((((((Keep.refl _ _).ext E1).trans K2 all0).trans K3 all0).trans K4 all0).trans K5 (allS (Or.inr sz_b1) all0)).ext E6).trans K7 all0).trans K8 all0)).2.1 b_ c_ (hkp b_ c_ q_) nin0) hh hcw) (hv := fun _ hq_ => own_LS.warm (own_LS.ofvm LS8 hvm8) hq_) (hsub := fun _ z_ => z_) (W := 4) (pc := 36) (Ls := #[iv i0, iv i1, iv i2, iv i3, iv i4, iv i5, rv b1, .unset, .unset]) (argsL := [(.int i5)]) (rest := [(.ref x8), (.ref x7), (.ref b6), (.ref b6)]) (st0 := [(.int i5), (.ref x8), (.ref x7), (.ref b6), (.ref b6)]) (by rw [hml]; rfl) (lenOf own_pd15 rfl) rfl (Nat.le_of_eq rfl) (hb hby at_36) (by decide) (by decide) (by decide) (by decide) ?_
  intro v9 T9 L9 s X9 hZ hown hI9 hvm9 hhp9 hWw9 hQ9
  obtain ⟨x9, t9, rfl, Nr9, K9, La9, LS9⟩ := hQ9
  have Nq9 := own_frm (Nat.le_trans (Nat.le_trans (Nat.le_trans (Nat.le_trans (Nat.le_trans (Nat.le_trans (Nat.le_trans (Nat.le_trans Z0 E1.1) K2.1) K3.1) K4.1) K5.1) E6.1) K7.1) K8.1) Nr9
  have N9 := Fr.app N8 Nq9
  show own_Ends p e below s _ _ _ (own_F T9 m 39 #[iv i0, iv i1, iv i2, iv i3, iv i4, iv i5, rv b1, .unset, .unset] [(.ref x9), (.ref x8), (.ref x7), (.ref b6), (.ref b6)])
  have no9_b1 := own_LatO La9 ((((((((A1.keep K2).keep K3).keep K4).keep K5).ext E6).keep K7).keep K8).keep K9) (by decide) (own_w hw 1)
  have no9_b6 := own_LatO La9 (((A6.keep K7).keep K8).keep K9) (by decide) (own_w hw 1)
  refine own_callI (y := (⟨"com/example/assay_runner/assayrunner/report/Build", "<init>", "(Ljava/lang/String;Ljava/lang/String;Ljava/lang/String;)V"⟩ : MethodName)) (b := b6) X9 hx hZ hown rfl (own_w hw 18) (own_w hw 19) (own_w hw 20) (own_w hw 2) (by decide) (rfl : T9.heap = T9.heap) (hM := own_bi l Z a0 hw [] b6 x7 x8 x9 T9.heap n0 (Nat.le_trans (Nat.le_trans (Nat.le_trans (Nat.le_trans (Nat.le_trans (Nat.le_trans (Nat.le_trans (Nat.le_trans (Nat.le_trans Z0 E1.1) K2.1) K3.1) K4.1) K5.1) E6.1) K7.1) K8.1) K9.1) (((A6.keep K7).keep K8).keep K9) (((F6_jvm.keep K7 nin0).keep K8 nin0).keep K9 nin0) (((F6_session.keep K7 nin0).keep K8 nin0).keep K9 nin0) (((F6_forkedBy.keep K7 nin0).keep K8 nin0).keep K9 nin0) ge_b6) (W := 1) (pc := 39) (Ls := #[iv i0, iv i1, iv i2, iv i3, iv i4, iv i5, rv b1, .unset, .unset]) (argsL := [(.ref x7), (.ref x8), (.ref x9)]) (rest := [(.ref b6)]) (st0 := [(.ref x9), (.ref x8), (.ref x7), (.ref b6), (.ref b6)]) (by rw [hml]; rfl) (lenOf own_pd16 rfl) rfl (Nat.le_of_eq rfl) (hb hby at_39) (by decide) (by decide) (by decide) (by decide) ?_
  intro v10 T10 L10 s X10 hZ hown hI10 hvm10 hhp10 hWw10 hQ10
  have LS10 := own_LS.step (own_LS.ofvm LS9 hvm9) hI10 hWw10
  obtain ⟨rfl, Nq10, K10, G10_0, G10_1, G10_2⟩ := hQ10
  have N10 := Fr.app N9 Nq10
  show own_Ends p e below s _ _ _ (own_F T10 m 42 #[iv i0, iv i1, iv i2, iv i3, iv i4, iv i5, rv b1, .unset, .unset] [(.ref b6)])
  have LK10 := own_LS.keepO LS10 K10 (((A6.keep K7).keep K8).keep K9) (by decide) (own_w hw 1)
  refine own_g (own_F T10 m 44 #[iv i0, iv i1, iv i2, iv i3, iv i4, iv i5, rv b1, rv b6, .unset] []) (fun _ z_ => XS.astore X10.here hx rfl (hb hby at_42) rfl rfl (l' := #[iv i0, iv i1, iv i2, iv i3, iv i4, iv i5, rv b1, rv b6, .unset]) rfl z_) ?_
  obtain ⟨e0r, hr0⟩ := own_dec (own_sm i0 i3)
  obtain ⟨e1r, hr1⟩ := own_dec (own_sm i1 i4)
  obtain ⟨e2r, hr2⟩ := own_dec (own_sm i2 i5)
  obtain ⟨emr, hem⟩ := own_dec (own_nx i2 = 0)
  refine own_g (own_F T10 m 45 #[iv i0, iv i1, iv i2, iv i3, iv i4, iv i5, rv b1, rv b6, .unset] [(.int i0)]) (fun _ z_ => XS.iloadN X10.here hx rfl (hb hby at_44) rfl z_) ?_
  refine own_g (own_F T10 m 46 #[iv i0, iv i1, iv i2, iv i3, iv i4, iv i5, rv b1, rv b6, .unset] [(.int i3), (.int i0)]) (fun _ z_ => XS.iloadN X10.here hx rfl (hb hby at_45) rfl z_) ?_
  refine own_callS (y := (⟨"com/example/assay_runner/assayrunner/report/BuildContinuesPinLaw", "same", "(II)Z"⟩ : MethodName)) X10 hx hZ hown (own_w hw 35) (own_w hw 36) (own_w hw 5) (own_w hw 37) (by decide) (rfl : T10.heap = T10.heap) (hM := own_same l Z a0 hw [] i0 i3 e0r T10.heap n0 (Nat.le_trans (Nat.le_trans (Nat.le_trans (Nat.le_trans (Nat.le_trans (Nat.le_trans (Nat.le_trans (Nat.le_trans (Nat.le_trans (Nat.le_trans Z0 E1.1) K2.1) K3.1) K4.1) K5.1) E6.1) K7.1) K8.1) K9.1) K10.1) hr0) (W := 0) (pc := 46) (Ls := #[iv i0, iv i1, iv i2, iv i3, iv i4, iv i5, rv b1, rv b6, .unset]) (argsL := [(.int i0), (.int i3)]) (rest := []) (st0 := [(.int i3), (.int i0)]) (by rw [hml]; rfl) (lenOf own_pd17 rfl) rfl (Nat.le_of_eq rfl) (hb hby at_46) (by decide) (by decide) (by decide) (by decide) ?_
  intro v11 T11 L11 s X11 hZ hown hI11 hvm11 hhp11 hWw11 hQ11
  have LS11 := own_LS.step LK10 hI11 hWw11
  obtain ⟨rfl, Nq11, hh11⟩ := hQ11
  have N11 := Fr.app N10 Nq11
  show own_Ends p e below s _ _ _ (own_F T11 m 49 #[iv i0, iv i1, iv i2, iv i3, iv i4, iv i5, rv b1, rv b6, .unset] [(.int e0r)])
  by_cases c49 : e0r = (0 : Int32)
  · -- pc 49: e0r = (0 : Int32)
   refine own_g (own_F T11 m 63 #[iv i0, iv i1, iv i2, iv i3, iv i4, iv i5, rv b1, rv b6, .unset] []) (fun _ z_ => XS.ifYes X11.here hx rfl (pc0 := 49) (pc' := 63) rfl (hb hby at_49) rfl ((if0 _ _).trans (teq c49).1) (by decide) (by decide) z_) ?_
   refine own_g (own_F T11 m 64 #[iv i0, iv i1, iv i2, iv i3, iv i4, iv i5, rv b1, rv b6, .unset] [(.int i2)]) (fun _ z_ => XS.iloadN X11.here hx rfl (hb hby at_63) rfl z_) ?_
   refine own_callS (y := (⟨"com/example/assay_runner/assayrunner/report/BuildContinuesPinLaw", "len", "(I)I"⟩ : MethodName)) X11 hx hZ hown (own_w hw 7) (own_w hw 8) (own_w hw 5) (own_w hw 9) (by decide) hh11 (hM := own_lenC l Z a0 hw [] i2 T10.heap n0 (Nat.le_trans (Nat.le_trans (Nat.le_trans (Nat.le_trans (Nat.le_trans (Nat.le_trans (Nat.le_trans (Nat.le_trans (Nat.le_trans (Nat.le_trans Z0 E1.1) K2.1) K3.1) K4.1) K5.1) E6.1) K7.1) K8.1) K9.1) K10.1)) (W := 0) (pc := 64) (Ls := #[iv i0, iv i1, iv i2, iv i3, iv i4, iv i5, rv b1, rv b6, .unset]) (argsL := [(.int i2)]) (rest := []) (st0 := [(.int i2)]) (by rw [hml]; rfl) (lenOf own_pd0 rfl) rfl (Nat.le_of_eq rfl) (hb hby at_64) (by decide) (by decide) (by decide) (by decide) ?_
   intro v12 T12 L12 s X12 hZ hown hI12 hvm12 hhp12 hWw12 hQ12
   have LS12 := own_LS.step LS11 hI12 hWw12
   obtain ⟨rfl, Nq12, hh12⟩ := hQ12
   have N12 := Fr.app N11 Nq12
   show own_Ends p e below s _ _ _ (own_F T12 m 67 #[iv i0, iv i1, iv i2, iv i3, iv i4, iv i5, rv b1, rv b6, .unset] [(.int (own_len i2))])
   by_cases c67 : (own_len i2) = (0 : Int32)
   · -- pc 67: (own_len i2) = (0 : Int32)
    refine own_g (own_F T12 m 83 #[iv i0, iv i1, iv i2, iv i3, iv i4, iv i5, rv b1, rv b6, .unset] []) (fun _ z_ => XS.ifYes X12.here hx rfl (pc0 := 67) (pc' := 83) rfl (hb hby at_67) rfl ((if0 _ _).trans (teq c67).1) (by decide) (by decide) z_) ?_
    refine own_g (own_F T12 m 84 #[iv i0, iv i1, iv i2, iv i3, iv i4, iv i5, rv b1, rv b6, .unset] [(.int 0)]) (fun _ z_ => XS.iconst X12.here hx rfl (hb hby at_83) z_) ?_
    refine own_g (own_F T12 m 86 #[iv i0, iv i1, iv i2, iv i3, iv i4, iv i5, rv b1, rv b6, iv 0] []) (fun _ z_ => XS.istore X12.here hx rfl (hb hby at_84) rfl (l' := #[iv i0, iv i1, iv i2, iv i3, iv i4, iv i5, rv b1, rv b6, iv 0]) rfl z_) ?_
    refine own_g (own_F T12 m 88 #[iv i0, iv i1, iv i2, iv i3, iv i4, iv i5, rv b1, rv b6, iv 0] [(.ref b1)]) (fun _ z_ => XS.aload X12.here hx rfl (hb hby at_86) rfl rfl z_) ?_
    refine own_g (own_F T12 m 90 #[iv i0, iv i1, iv i2, iv i3, iv i4, iv i5, rv b1, rv b6, iv 0] [(.ref b6), (.ref b1)]) (fun _ z_ => XS.aload X12.here hx rfl (hb hby at_88) rfl rfl z_) ?_
    refine own_callV (C := "com/example/assay_runner/assayrunner/report/Build") (y := (⟨"com/example/assay_runner/assayrunner/report/Build", "continues", "(Lcom/example/assay_runner/assayrunner/report/Build;)Z"⟩ : MethodName)) (b := b1) X12 hx hZ hown (own_w hw 38) (own_w hw 39) (own_w hw 41) (own_w hw 40) (own_w hw 42) (own_w hw 2) (by decide) hh12 (((((((((A1.keep K2).keep K3).keep K4).keep K5).ext E6).keep K7).keep K8).keep K9).keep K10) (hM := own_con l Z a0 hw [] b1 b6 x2 x7 x3 x8 x4 x9 t2 t7 t3 t8 t4 t9 (own_nx i0) (own_nx i3) (own_nx i1) (own_nx i4) (own_nx i2) (own_nx i5) (own_len i0) (own_len i3) (own_len i1) (own_len i4) (own_len i2) (own_len i5) zc e0r e1r e2r emr (own_f i0) (own_f i3) (own_f i1) (own_f i4) (own_f i2) (own_f i5) T10.heap n0 (Nat.le_trans (Nat.le_trans (Nat.le_trans (Nat.le_trans (Nat.le_trans (Nat.le_trans (Nat.le_trans (Nat.le_trans (Nat.le_trans (Nat.le_trans Z0 E1.1) K2.1) K3.1) K4.1) K5.1) E6.1) K7.1) K8.1) K9.1) K10.1) (own_lnx i0) (own_lnx i3) ⟨((((((((La2.1.keep K3).keep K4).keep K5).ext E6).keep K7).keep K8).keep K9).keep K10), ((((((((La2.2.1.keep K3 nin0).keep K4 nin0).keep K5 (ninS no2_b1.1 nin0)).ext E6).keep K7 nin0).keep K8 nin0).keep K9 nin0).keep K10 (ninS ne_x2_b6 nin0)), ((((((((La2.2.2.1.keep K3 nin0).keep K4 nin0).keep K5 (ninS no2_b1.1 nin0)).ext E6).keep K7 nin0).keep K8 nin0).keep K9 nin0).keep K10 (ninS ne_x2_b6 nin0)), ((((((((La2.2.2.2.1.keep K3 nin0).keep K4 nin0).keep K5 (ninS no2_b1.2 nin0)).ext E6).keep K7 nin0).keep K8 nin0).keep K9 nin0).keep K10 (ninS ne_t2_b6 nin0)), La2.2.2.2.2⟩ ⟨(((La7.1.keep K8).keep K9).keep K10), (((La7.2.1.keep K8 nin0).keep K9 nin0).keep K10 (ninS no7_b6.1 nin0)), (((La7.2.2.1.keep K8 nin0).keep K9 nin0).keep K10 (ninS no7_b6.1 nin0)), (((La7.2.2.2.1.keep K8 nin0).keep K9 nin0).keep K10 (ninS no7_b6.2 nin0)), La7.2.2.2.2⟩ (own_hrP (own_smP _ _) hr0) (own_lnx i1) (own_lnx i4) ⟨(((((((La3.1.keep K4).keep K5).ext E6).keep K7).keep K8).keep K9).keep K10), (((((((La3.2.1.keep K4 nin0).keep K5 (ninS no3_b1.1 nin0)).ext E6).keep K7 nin0).keep K8 nin0).keep K9 nin0).keep K10 (ninS ne_x3_b6 nin0)), (((((((La3.2.2.1.keep K4 nin0).keep K5 (ninS no3_b1.1 nin0)).ext E6).keep K7 nin0).keep K8 nin0).keep K9 nin0).keep K10 (ninS ne_x3_b6 nin0)), (((((((La3.2.2.2.1.keep K4 nin0).keep K5 (ninS no3_b1.2 nin0)).ext E6).keep K7 nin0).keep K8 nin0).keep K9 nin0).keep K10 (ninS ne_t3_b6 nin0)), La3.2.2.2.2⟩ ⟨((La8.1.keep K9).keep K10), ((La8.2.1.keep K9 nin0).keep K10 (ninS no8_b6.1 nin0)), ((La8.2.2.1.keep K9 nin0).keep K10 (ninS no8_b6.1 nin0)), ((La8.2.2.2.1.keep K9 nin0).keep K10 (ninS no8_b6.2 nin0)), La8.2.2.2.2⟩ (own_hrP (own_smP _ _) hr1) (own_lnx i2) (own_lnx i5) ⟨((((((La4.1.keep K5).ext E6).keep K7).keep K8).keep K9).keep K10), ((((((La4.2.1.keep K5 (ninS no4_b1.1 nin0)).ext E6).keep K7 nin0).keep K8 nin0).keep K9 nin0).keep K10 (ninS ne_x4_b6 nin0)), ((((((La4.2.2.1.keep K5 (ninS no4_b1.1 nin0)).ext E6).keep K7 nin0).keep K8 nin0).keep K9 nin0).keep K10 (ninS ne_x4_b6 nin0)), ((((((La4.2.2.2.1.keep K5 (ninS no4_b1.2 nin0)).ext E6).keep K7 nin0).keep K8 nin0).keep K9 nin0).keep K10 (ninS ne_t4_b6 nin0)), La4.2.2.2.2⟩ ⟨(La9.1.keep K10), (La9.2.1.keep K10 (ninS no9_b6.1 nin0)), (La9.2.2.1.keep K10 (ninS no9_b6.1 nin0)), (La9.2.2.2.1.keep K10 (ninS no9_b6.2 nin0)), La9.2.2.2.2⟩ (own_hrP (own_smP _ _) hr2) (((((((((A1.keep K2).keep K3).keep K4).keep K5).ext E6).keep K7).keep K8).keep K9).keep K10) (((((G5_0.ext E6).keep K7 nin0).keep K8 nin0).keep K9 nin0).keep K10 (ninS ne_b1_b6 nin0)) (((((G5_1.ext E6).keep K7 nin0).keep K8 nin0).keep K9 nin0).keep K10 (ninS ne_b1_b6 nin0)) (((((G5_2.ext E6).keep K7 nin0).keep K8 nin0).keep K9 nin0).keep K10 (ninS ne_b1_b6 nin0)) ((((A6.keep K7).keep K8).keep K9).keep K10) G10_0 G10_1 G10_2 hem hzc (own_sta_keep (own_sta_keep (own_sta_keep (own_sta_keep ((own_sta_keep (own_sta_keep (own_sta_keep (own_sta_keep (S_cs.ext E1) K2 all0) K3 all0) K4 all0) K5 (allS (own_plainE (((A1.keep K2).keep K3).keep K4)) all0)).ext E6) K7 all0) K8 all0) K9 all0) K10 (allS (own_plainE (((A6.keep K7).keep K8).keep K9)) all0))) (W := 0) (pc := 90) (Ls := #[iv i0, iv i1, iv i2, iv i3, iv i4, iv i5, rv b1, rv b6, iv 0]) (argsL := [(.ref b6)]) (rest := []) (st0 := [(.ref b6), (.ref b1)]) (by rw [hml]; rfl) (lenOf own_pd18 rfl) rfl (Nat.le_of_eq rfl) (hb hby at_90) (by decide) (by decide) (by decide) (by decide) ?_
    intro v13 T13 L13 s X13 hZ hown hI13 hvm13 hhp13 hWw13 hQ13
    have LS13 := own_LS.step LS12 hI13 hWw13
    obtain ⟨rfl, Nq13, hh13⟩ := hQ13
    have N13 := Fr.app N12 Nq13
    show own_Ends p e below s _ _ _ (own_F T13 m 93 #[iv i0, iv i1, iv i2, iv i3, iv i4, iv i5, rv b1, rv b6, iv 0] [(.int (own_cr e0r e1r e2r emr))])
    refine own_g (own_F T13 m 95 #[iv i0, iv i1, iv i2, iv i3, iv i4, iv i5, rv b1, rv b6, iv 0] [(.int 0), (.int (own_cr e0r e1r e2r emr))]) (fun _ z_ => XS.iload X13.here hx rfl (hb hby at_93) rfl z_) ?_
    refine own_g (own_F T13 m 98 #[iv i0, iv i1, iv i2, iv i3, iv i4, iv i5, rv b1, rv b6, iv 0] []) (fun _ z_ => XS.icmpNo X13.here hx rfl (hb hby at_95) rfl (teq (show (own_cr e0r e1r e2r emr) = (0 : Int32) by have em_ := own_r1 hem (show own_nx i2 = 0 from by have := own_lnx i2; rw [c67, Int32.toInt_zero] at this; omega); rw [em_]; simp [own_cr, c49])).2 z_) ?_
    refine own_g (own_F T13 m 99 #[iv i0, iv i1, iv i2, iv i3, iv i4, iv i5, rv b1, rv b6, iv 0] [(.int 1)]) (fun _ z_ => XS.iconst X13.here hx rfl (hb hby at_98) z_) ?_
    refine own_g (own_F T13 m 103 #[iv i0, iv i1, iv i2, iv i3, iv i4, iv i5, rv b1, rv b6, iv 0] [(.int 1)]) (fun _ z_ => XS.goto X13.here hx rfl (pc0 := 99) (pc' := 103) rfl (hb hby at_99) (by decide) (by decide) z_) ?_
    refine own_ret (t := .boolean) X13 hx hlk hrt rfl (Or.inl ⟨rfl, by simp, _, rfl⟩) (hb hby at_103) (by decide) (by decide) ?_
    exact ⟨rfl, N13⟩
   · -- pc 67: not (own_len i2) = (0 : Int32)
    refine own_g (own_F T12 m 70 #[iv i0, iv i1, iv i2, iv i3, iv i4, iv i5, rv b1, rv b6, .unset] []) (fun _ z_ => XS.ifNo X12.here hx rfl (hb hby at_67) rfl ((if0 _ _).trans (feq c67).1) z_) ?_
    refine own_g (own_F T12 m 71 #[iv i0, iv i1, iv i2, iv i3, iv i4, iv i5, rv b1, rv b6, .unset] [(.int i2)]) (fun _ z_ => XS.iloadN X12.here hx rfl (hb hby at_70) rfl z_) ?_
    refine own_g (own_F T12 m 73 #[iv i0, iv i1, iv i2, iv i3, iv i4, iv i5, rv b1, rv b6, .unset] [(.int i5), (.int i2)]) (fun _ z_ => XS.iload X12.here hx rfl (hb hby at_71) rfl z_) ?_
    refine own_callS (y := (⟨"com/example/assay_runner/assayrunner/report/BuildContinuesPinLaw", "same", "(II)Z"⟩ : MethodName)) X12 hx hZ hown (own_w hw 35) (own_w hw 36) (own_w hw 5) (own_w hw 37) (by decide) hh12 (hM := own_same l Z a0 hw [] i2 i5 e2r T10.heap n0 (Nat.le_trans (Nat.le_trans (Nat.le_trans (Nat.le_trans (Nat.le_trans (Nat.le_trans (Nat.le_trans (Nat.le_trans (Nat.le_trans (Nat.le_trans Z0 E1.1) K2.1) K3.1) K4.1) K5.1) E6.1) K7.1) K8.1) K9.1) K10.1) hr2) (W := 0) (pc := 73) (Ls := #[iv i0, iv i1, iv i2, iv i3, iv i4, iv i5, rv b1, rv b6, .unset]) (argsL := [(.int i2), (.int i5)]) (rest := []) (st0 := [(.int i5), (.int i2)]) (by rw [hml]; rfl) (lenOf own_pd17 rfl) rfl (Nat.le_of_eq rfl) (hb hby at_73) (by decide) (by decide) (by decide) (by decide) ?_
    intro v14 T14 L14 s X14 hZ hown hI14 hvm14 hhp14 hWw14 hQ14
    have LS14 := own_LS.step LS12 hI14 hWw14
    obtain ⟨rfl, Nq14, hh14⟩ := hQ14
    have N14 := Fr.app N12 Nq14
    show own_Ends p e below s _ _ _ (own_F T14 m 76 #[iv i0, iv i1, iv i2, iv i3, iv i4, iv i5, rv b1, rv b6, .unset] [(.int e2r)])
    by_cases c76 : e2r = (0 : Int32)
    · -- pc 76: e2r = (0 : Int32)
     refine own_g (own_F T14 m 83 #[iv i0, iv i1, iv i2, iv i3, iv i4, iv i5, rv b1, rv b6, .unset] []) (fun _ z_ => XS.ifYes X14.here hx rfl (pc0 := 76) (pc' := 83) rfl (hb hby at_76) rfl ((if0 _ _).trans (teq c76).1) (by decide) (by decide) z_) ?_
     refine own_g (own_F T14 m 84 #[iv i0, iv i1, iv i2, iv i3, iv i4, iv i5, rv b1, rv b6, .unset] [(.int 0)]) (fun _ z_ => XS.iconst X14.here hx rfl (hb hby at_83) z_) ?_
     refine own_g (own_F T14 m 86 #[iv i0, iv i1, iv i2, iv i3, iv i4, iv i5, rv b1, rv b6, iv 0] []) (fun _ z_ => XS.istore X14.here hx rfl (hb hby at_84) rfl (l' := #[iv i0, iv i1, iv i2, iv i3, iv i4, iv i5, rv b1, rv b6, iv 0]) rfl z_) ?_
     refine own_g (own_F T14 m 88 #[iv i0, iv i1, iv i2, iv i3, iv i4, iv i5, rv b1, rv b6, iv 0] [(.ref b1)]) (fun _ z_ => XS.aload X14.here hx rfl (hb hby at_86) rfl rfl z_) ?_
     refine own_g (own_F T14 m 90 #[iv i0, iv i1, iv i2, iv i3, iv i4, iv i5, rv b1, rv b6, iv 0] [(.ref b6), (.ref b1)]) (fun _ z_ => XS.aload X14.here hx rfl (hb hby at_88) rfl rfl z_) ?_
     refine own_callV (C := "com/example/assay_runner/assayrunner/report/Build") (y := (⟨"com/example/assay_runner/assayrunner/report/Build", "continues", "(Lcom/example/assay_runner/assayrunner/report/Build;)Z"⟩ : MethodName)) (b := b1) X14 hx hZ hown (own_w hw 38) (own_w hw 39) (own_w hw 41) (own_w hw 40) (own_w hw 42) (own_w hw 2) (by decide) hh14 (((((((((A1.keep K2).keep K3).keep K4).keep K5).ext E6).keep K7).keep K8).keep K9).keep K10) (hM := own_con l Z a0 hw [] b1 b6 x2 x7 x3 x8 x4 x9 t2 t7 t3 t8 t4 t9 (own_nx i0) (own_nx i3) (own_nx i1) (own_nx i4) (own_nx i2) (own_nx i5) (own_len i0) (own_len i3) (own_len i1) (own_len i4) (own_len i2) (own_len i5) zc e0r e1r e2r emr (own_f i0) (own_f i3) (own_f i1) (own_f i4) (own_f i2) (own_f i5) T10.heap n0 (Nat.le_trans (Nat.le_trans (Nat.le_trans (Nat.le_trans (Nat.le_trans (Nat.le_trans (Nat.le_trans (Nat.le_trans (Nat.le_trans (Nat.le_trans Z0 E1.1) K2.1) K3.1) K4.1) K5.1) E6.1) K7.1) K8.1) K9.1) K10.1) (own_lnx i0) (own_lnx i3) ⟨((((((((La2.1.keep K3).keep K4).keep K5).ext E6).keep K7).keep K8).keep K9).keep K10), ((((((((La2.2.1.keep K3 nin0).keep K4 nin0).keep K5 (ninS no2_b1.1 nin0)).ext E6).keep K7 nin0).keep K8 nin0).keep K9 nin0).keep K10 (ninS ne_x2_b6 nin0)), ((((((((La2.2.2.1.keep K3 nin0).keep K4 nin0).keep K5 (ninS no2_b1.1 nin0)).ext E6).keep K7 nin0).keep K8 nin0).keep K9 nin0).keep K10 (ninS ne_x2_b6 nin0)), ((((((((La2.2.2.2.1.keep K3 nin0).keep K4 nin0).keep K5 (ninS no2_b1.2 nin0)).ext E6).keep K7 nin0).keep K8 nin0).keep K9 nin0).keep K10 (ninS ne_t2_b6 nin0)), La2.2.2.2.2⟩ ⟨(((La7.1.keep K8).keep K9).keep K10), (((La7.2.1.keep K8 nin0).keep K9 nin0).keep K10 (ninS no7_b6.1 nin0)), (((La7.2.2.1.keep K8 nin0).keep K9 nin0).keep K10 (ninS no7_b6.1 nin0)), (((La7.2.2.2.1.keep K8 nin0).keep K9 nin0).keep K10 (ninS no7_b6.2 nin0)), La7.2.2.2.2⟩ (own_hrP (own_smP _ _) hr0) (own_lnx i1) (own_lnx i4) ⟨(((((((La3.1.keep K4).keep K5).ext E6).keep K7).keep K8).keep K9).keep K10), (((((((La3.2.1.keep K4 nin0).keep K5 (ninS no3_b1.1 nin0)).ext E6).keep K7 nin0).keep K8 nin0).keep K9 nin0).keep K10 (ninS ne_x3_b6 nin0)), (((((((La3.2.2.1.keep K4 nin0).keep K5 (ninS no3_b1.1 nin0)).ext E6).keep K7 nin0).keep K8 nin0).keep K9 nin0).keep K10 (ninS ne_x3_b6 nin0)), (((((((La3.2.2.2.1.keep K4 nin0).keep K5 (ninS no3_b1.2 nin0)).ext E6).keep K7 nin0).keep K8 nin0).keep K9 nin0).keep K10 (ninS ne_t3_b6 nin0)), La3.2.2.2.2⟩ ⟨((La8.1.keep K9).keep K10), ((La8.2.1.keep K9 nin0).keep K10 (ninS no8_b6.1 nin0)), ((La8.2.2.1.keep K9 nin0).keep K10 (ninS no8_b6.1 nin0)), ((La8.2.2.2.1.keep K9 nin0).keep K10 (ninS no8_b6.2 nin0)), La8.2.2.2.2⟩ (own_hrP (own_smP _ _) hr1) (own_lnx i2) (own_lnx i5) ⟨((((((La4.1.keep K5).ext E6).keep K7).keep K8).keep K9).keep K10), ((((((La4.2.1.keep K5 (ninS no4_b1.1 nin0)).ext E6).keep K7 nin0).keep K8 nin0).keep K9 nin0).keep K10 (ninS ne_x4_b6 nin0)), ((((((La4.2.2.1.keep K5 (ninS no4_b1.1 nin0)).ext E6).keep K7 nin0).keep K8 nin0).keep K9 nin0).keep K10 (ninS ne_x4_b6 nin0)), ((((((La4.2.2.2.1.keep K5 (ninS no4_b1.2 nin0)).ext E6).keep K7 nin0).keep K8 nin0).keep K9 nin0).keep K10 (ninS ne_t4_b6 nin0)), La4.2.2.2.2⟩ ⟨(La9.1.keep K10), (La9.2.1.keep K10 (ninS no9_b6.1 nin0)), (La9.2.2.1.keep K10 (ninS no9_b6.1 nin0)), (La9.2.2.2.1.keep K10 (ninS no9_b6.2 nin0)), La9.2.2.2.2⟩ (own_hrP (own_smP _ _) hr2) (((((((((A1.keep K2).keep K3).keep K4).keep K5).ext E6).keep K7).keep K8).keep K9).keep K10) (((((G5_0.ext E6).keep K7 nin0).keep K8 nin0).keep K9 nin0).keep K10 (ninS ne_b1_b6 nin0)) (((((G5_1.ext E6).keep K7 nin0).keep K8 nin0).keep K9 nin0).keep K10 (ninS ne_b1_b6 nin0)) (((((G5_2.ext E6).keep K7 nin0).keep K8 nin0).keep K9 nin0).keep K10 (ninS ne_b1_b6 nin0)) ((((A6.keep K7).keep K8).keep K9).keep K10) G10_0 G10_1 G10_2 hem hzc (own_sta_keep (own_sta_keep (own_sta_keep (own_sta_keep ((own_sta_keep (own_sta_keep (own_sta_keep (own_sta_keep (S_cs.ext E1) K2 all0) K3 all0) K4 all0) K5 (allS (own_plainE (((A1.keep K2).keep K3).keep K4)) all0)).ext E6) K7 all0) K8 all0) K9 all0) K10 (allS (own_plainE (((A6.keep K7).keep K8).keep K9)) all0))) (W := 0) (pc := 90) (Ls := #[iv i0, iv i1, iv i2, iv i3, iv i4, iv i5, rv b1, rv b6, iv 0]) (argsL := [(.ref b6)]) (rest := []) (st0 := [(.ref b6), (.ref b1)]) (by rw [hml]; rfl) (lenOf own_pd18 rfl) rfl (Nat.le_of_eq rfl) (hb hby at_90) (by decide) (by decide) (by decide) (by decide) ?_
     intro v15 T15 L15 s X15 hZ hown hI15 hvm15 hhp15 hWw15 hQ15
     have LS15 := own_LS.step LS14 hI15 hWw15
     obtain ⟨rfl, Nq15, hh15⟩ := hQ15
     have N15 := Fr.app N14 Nq15
     show own_Ends p e below s _ _ _ (own_F T15 m 93 #[iv i0, iv i1, iv i2, iv i3, iv i4, iv i5, rv b1, rv b6, iv 0] [(.int (own_cr e0r e1r e2r emr))])
     refine own_g (own_F T15 m 95 #[iv i0, iv i1, iv i2, iv i3, iv i4, iv i5, rv b1, rv b6, iv 0] [(.int 0), (.int (own_cr e0r e1r e2r emr))]) (fun _ z_ => XS.iload X15.here hx rfl (hb hby at_93) rfl z_) ?_
     refine own_g (own_F T15 m 98 #[iv i0, iv i1, iv i2, iv i3, iv i4, iv i5, rv b1, rv b6, iv 0] []) (fun _ z_ => XS.icmpNo X15.here hx rfl (hb hby at_95) rfl (teq (show (own_cr e0r e1r e2r emr) = (0 : Int32) by have em_ := own_r0 hem (show ¬ own_nx i2 = 0 from fun q => c67 (by rw [← Int32.toInt_inj, own_lnx, q]; rfl)); rw [em_]; simp [own_cr, c49, c76])).2 z_) ?_
     refine own_g (own_F T15 m 99 #[iv i0, iv i1, iv i2, iv i3, iv i4, iv i5, rv b1, rv b6, iv 0] [(.int 1)]) (fun _ z_ => XS.iconst X15.here hx rfl (hb hby at_98) z_) ?_
     refine own_g (own_F T15 m 103 #[iv i0, iv i1, iv i2, iv i3, iv i4, iv i5, rv b1, rv b6, iv 0] [(.int 1)]) (fun _ z_ => XS.goto X15.here hx rfl (pc0 := 99) (pc' := 103) rfl (hb hby at_99) (by decide) (by decide) z_) ?_
     refine own_ret (t := .boolean) X15 hx hlk hrt rfl (Or.inl ⟨rfl, by simp, _, rfl⟩) (hb hby at_103) (by decide) (by decide) ?_
     exact ⟨rfl, N15⟩
    · -- pc 76: not e2r = (0 : Int32)
     refine own_g (own_F T14 m 79 #[iv i0, iv i1, iv i2, iv i3, iv i4, iv i5, rv b1, rv b6, .unset] []) (fun _ z_ => XS.ifNo X14.here hx rfl (hb hby at_76) rfl ((if0 _ _).trans (feq c76).1) z_) ?_
     refine own_g (own_F T14 m 80 #[iv i0, iv i1, iv i2, iv i3, iv i4, iv i5, rv b1, rv b6, .unset] [(.int 1)]) (fun _ z_ => XS.iconst X14.here hx rfl (hb hby at_79) z_) ?_
     refine own_g (own_F T14 m 84 #[iv i0, iv i1, iv i2, iv i3, iv i4, iv i5, rv b1, rv b6, .unset] [(.int 1)]) (fun _ z_ => XS.goto X14.here hx rfl (pc0 := 80) (pc' := 84) rfl (hb hby at_80) (by decide) (by decide) z_) ?_
     refine own_g (own_F T14 m 86 #[iv i0, iv i1, iv i2, iv i3, iv i4, iv i5, rv b1, rv b6, iv 1] []) (fun _ z_ => XS.istore X14.here hx rfl (hb hby at_84) rfl (l' := #[iv i0, iv i1, iv i2, iv i3, iv i4, iv i5, rv b1, rv b6, iv 1]) rfl z_) ?_
     refine own_g (own_F T14 m 88 #[iv i0, iv i1, iv i2, iv i3, iv i4, iv i5, rv b1, rv b6, iv 1] [(.ref b1)]) (fun _ z_ => XS.aload X14.here hx rfl (hb hby at_86) rfl rfl z_) ?_
     refine own_g (own_F T14 m 90 #[iv i0, iv i1, iv i2, iv i3, iv i4, iv i5, rv b1, rv b6, iv 1] [(.ref b6), (.ref b1)]) (fun _ z_ => XS.aload X14.here hx rfl (hb hby at_88) rfl rfl z_) ?_
     refine own_callV (C := "com/example/assay_runner/assayrunner/report/Build") (y := (⟨"com/example/assay_runner/assayrunner/report/Build", "continues", "(Lcom/example/assay_runner/assayrunner/report/Build;)Z"⟩ : MethodName)) (b := b1) X14 hx hZ hown (own_w hw 38) (own_w hw 39) (own_w hw 41) (own_w hw 40) (own_w hw 42) (own_w hw 2) (by decide) hh14 (((((((((A1.keep K2).keep K3).keep K4).keep K5).ext E6).keep K7).keep K8).keep K9).keep K10) (hM := own_con l Z a0 hw [] b1 b6 x2 x7 x3 x8 x4 x9 t2 t7 t3 t8 t4 t9 (own_nx i0) (own_nx i3) (own_nx i1) (own_nx i4) (own_nx i2) (own_nx i5) (own_len i0) (own_len i3) (own_len i1) (own_len i4) (own_len i2) (own_len i5) zc e0r e1r e2r emr (own_f i0) (own_f i3) (own_f i1) (own_f i4) (own_f i2) (own_f i5) T10.heap n0 (Nat.le_trans (Nat.le_trans (Nat.le_trans (Nat.le_trans (Nat.le_trans (Nat.le_trans (Nat.le_trans (Nat.le_trans (Nat.le_trans (Nat.le_trans Z0 E1.1) K2.1) K3.1) K4.1) K5.1) E6.1) K7.1) K8.1) K9.1) K10.1) (own_lnx i0) (own_lnx i3) ⟨((((((((La2.1.keep K3).keep K4).keep K5).ext E6).keep K7).keep K8).keep K9).keep K10), ((((((((La2.2.1.keep K3 nin0).keep K4 nin0).keep K5 (ninS no2_b1.1 nin0)).ext E6).keep K7 nin0).keep K8 nin0).keep K9 nin0).keep K10 (ninS ne_x2_b6 nin0)), ((((((((La2.2.2.1.keep K3 nin0).keep K4 nin0).keep K5 (ninS no2_b1.1 nin0)).ext E6).keep K7 nin0).keep K8 nin0).keep K9 nin0).keep K10 (ninS ne_x2_b6 nin0)), ((((((((La2.2.2.2.1.keep K3 nin0).keep K4 nin0).keep K5 (ninS no2_b1.2 nin0)).ext E6).keep K7 nin0).keep K8 nin0).keep K9 nin0).keep K10 (ninS ne_t2_b6 nin0)), La2.2.2.2.2⟩ ⟨(((La7.1.keep K8).keep K9).keep K10), (((La7.2.1.keep K8 nin0).keep K9 nin0).keep K10 (ninS no7_b6.1 nin0)), (((La7.2.2.1.keep K8 nin0).keep K9 nin0).keep K10 (ninS no7_b6.1 nin0)), (((La7.2.2.2.1.keep K8 nin0).keep K9 nin0).keep K10 (ninS no7_b6.2 nin0)), La7.2.2.2.2⟩ (own_hrP (own_smP _ _) hr0) (own_lnx i1) (own_lnx i4) ⟨(((((((La3.1.keep K4).keep K5).ext E6).keep K7).keep K8).keep K9).keep K10), (((((((La3.2.1.keep K4 nin0).keep K5 (ninS no3_b1.1 nin0)).ext E6).keep K7 nin0).keep K8 nin0).keep K9 nin0).keep K10 (ninS ne_x3_b6 nin0)), (((((((La3.2.2.1.keep K4 nin0).keep K5 (ninS no3_b1.1 nin0)).ext E6).keep K7 nin0).keep K8 nin0).keep K9 nin0).keep K10 (ninS ne_x3_b6 nin0)), (((((((La3.2.2.2.1.keep K4 nin0).keep K5 (ninS no3_b1.2 nin0)).ext E6).keep K7 nin0).keep K8 nin0).keep K9 nin0).keep K10 (ninS ne_t3_b6 nin0)), La3.2.2.2.2⟩ ⟨((La8.1.keep K9).keep K10), ((La8.2.1.keep K9 nin0).keep K10 (ninS no8_b6.1 nin0)), ((La8.2.2.1.keep K9 nin0).keep K10 (ninS no8_b6.1 nin0)), ((La8.2.2.2.1.keep K9 nin0).keep K10 (ninS no8_b6.2 nin0)), La8.2.2.2.2⟩ (own_hrP (own_smP _ _) hr1) (own_lnx i2) (own_lnx i5) ⟨((((((La4.1.keep K5).ext E6).keep K7).keep K8).keep K9).keep K10), ((((((La4.2.1.keep K5 (ninS no4_b1.1 nin0)).ext E6).keep K7 nin0).keep K8 nin0).keep K9 nin0).keep K10 (ninS ne_x4_b6 nin0)), ((((((La4.2.2.1.keep K5 (ninS no4_b1.1 nin0)).ext E6).keep K7 nin0).keep K8 nin0).keep K9 nin0).keep K10 (ninS ne_x4_b6 nin0)), ((((((La4.2.2.2.1.keep K5 (ninS no4_b1.2 nin0)).ext E6).keep K7 nin0).keep K8 nin0).keep K9 nin0).keep K10 (ninS ne_t4_b6 nin0)), La4.2.2.2.2⟩ ⟨(La9.1.keep K10), (La9.2.1.keep K10 (ninS no9_b6.1 nin0)), (La9.2.2.1.keep K10 (ninS no9_b6.1 nin0)), (La9.2.2.2.1.keep K10 (ninS no9_b6.2 nin0)), La9.2.2.2.2⟩ (own_hrP (own_smP _ _) hr2) (((((((((A1.keep K2).keep K3).keep K4).keep K5).ext E6).keep K7).keep K8).keep K9).keep K10) (((((G5_0.ext E6).keep K7 nin0).keep K8 nin0).keep K9 nin0).keep K10 (ninS ne_b1_b6 nin0)) (((((G5_1.ext E6).keep K7 nin0).keep K8 nin0).keep K9 nin0).keep K10 (ninS ne_b1_b6 nin0)) (((((G5_2.ext E6).keep K7 nin0).keep K8 nin0).keep K9 nin0).keep K10 (ninS ne_b1_b6 nin0)) ((((A6.keep K7).keep K8).keep K9).keep K10) G10_0 G10_1 G10_2 hem hzc (own_sta_keep (own_sta_keep (own_sta_keep (own_sta_keep ((own_sta_keep (own_sta_keep (own_sta_keep (own_sta_keep (S_cs.ext E1) K2 all0) K3 all0) K4 all0) K5 (allS (own_plainE (((A1.keep K2).keep K3).keep K4)) all0)).ext E6) K7 all0) K8 all0) K9 all0) K10 (allS (own_plainE (((A6.keep K7).keep K8).keep K9)) all0))) (W := 0) (pc := 90) (Ls := #[iv i0, iv i1, iv i2, iv i3, iv i4, iv i5, rv b1, rv b6, iv 1]) (argsL := [(.ref b6)]) (rest := []) (st0 := [(.ref b6), (.ref b1)]) (by rw [hml]; rfl) (lenOf own_pd18 rfl) rfl (Nat.le_of_eq rfl) (hb hby at_90) (by decide) (by decide) (by decide) (by decide) ?_
     intro v16 T16 L16 s X16 hZ hown hI16 hvm16 hhp16 hWw16 hQ16
     have LS16 := own_LS.step LS14 hI16 hWw16
     obtain ⟨rfl, Nq16, hh16⟩ := hQ16
     have N16 := Fr.app N14 Nq16
     show own_Ends p e below s _ _ _ (own_F T16 m 93 #[iv i0, iv i1, iv i2, iv i3, iv i4, iv i5, rv b1, rv b6, iv 1] [(.int (own_cr e0r e1r e2r emr))])
     refine own_g (own_F T16 m 95 #[iv i0, iv i1, iv i2, iv i3, iv i4, iv i5, rv b1, rv b6, iv 1] [(.int 1), (.int (own_cr e0r e1r e2r emr))]) (fun _ z_ => XS.iload X16.here hx rfl (hb hby at_93) rfl z_) ?_
     refine own_g (own_F T16 m 98 #[iv i0, iv i1, iv i2, iv i3, iv i4, iv i5, rv b1, rv b6, iv 1] []) (fun _ z_ => XS.icmpNo X16.here hx rfl (hb hby at_95) rfl (teq (show (own_cr e0r e1r e2r emr) = (1 : Int32) by have em_ := own_r0 hem (show ¬ own_nx i2 = 0 from fun q => c67 (by rw [← Int32.toInt_inj, own_lnx, q]; rfl)); rw [em_]; simp [own_cr, c49, c76])).2 z_) ?_
     refine own_g (own_F T16 m 99 #[iv i0, iv i1, iv i2, iv i3, iv i4, iv i5, rv b1, rv b6, iv 1] [(.int 1)]) (fun _ z_ => XS.iconst X16.here hx rfl (hb hby at_98) z_) ?_
     refine own_g (own_F T16 m 103 #[iv i0, iv i1, iv i2, iv i3, iv i4, iv i5, rv b1, rv b6, iv 1] [(.int 1)]) (fun _ z_ => XS.goto X16.here hx rfl (pc0 := 99) (pc' := 103) rfl (hb hby at_99) (by decide) (by decide) z_) ?_
     refine own_ret (t := .boolean) X16 hx hlk hrt rfl (Or.inl ⟨rfl, by simp, _, rfl⟩) (hb hby at_103) (by decide) (by decide) ?_
     exact ⟨rfl, N16⟩
  · -- pc 49: not e0r = (0 : Int32)
   refine own_g (own_F T11 m 52 #[iv i0, iv i1, iv i2, iv i3, iv i4, iv i5, rv b1, rv b6, .unset] []) (fun _ z_ => XS.ifNo X11.here hx rfl (hb hby at_49) rfl ((if0 _ _).trans (feq c49).1) z_) ?_
   refine own_g (own_F T11 m 53 #[iv i0, iv i1, iv i2, iv i3, iv i4, iv i5, rv b1, rv b6, .unset] [(.int i1)]) (fun _ z_ => XS.iloadN X11.here hx rfl (hb hby at_52) rfl z_) ?_
   refine own_g (own_F T11 m 55 #[iv i0, iv i1, iv i2, iv i3, iv i4, iv i5, rv b1, rv b6, .unset] [(.int i4), (.int i1)]) (fun _ z_ => XS.iload X11.here hx rfl (hb hby at_53) rfl z_) ?_
   refine own_callS (y := (⟨"com/example/assay_runner/assayrunner/report/BuildContinuesPinLaw", "same", "(II)Z"⟩ : MethodName)) X11 hx hZ hown (own_w hw 35) (own_w hw 36) (own_w hw 5) (own_w hw 37) (by decide) hh11 (hM := own_same l Z a0 hw [] i1 i4 e1r T10.heap n0 (Nat.le_trans (Nat.le_trans (Nat.le_trans (Nat.le_trans (Nat.le_trans (Nat.le_trans (Nat.le_trans (Nat.le_trans (Nat.le_trans (Nat.le_trans Z0 E1.1) K2.1) K3.1) K4.1) K5.1) E6.1) K7.1) K8.1) K9.1) K10.1) hr1) (W := 0) (pc := 55) (Ls := #[iv i0, iv i1, iv i2, iv i3, iv i4, iv i5, rv b1, rv b6, .unset]) (argsL := [(.int i1), (.int i4)]) (rest := []) (st0 := [(.int i4), (.int i1)]) (by rw [hml]; rfl) (lenOf own_pd17 rfl) rfl (Nat.le_of_eq rfl) (hb hby at_55) (by decide) (by decide) (by decide) (by decide) ?_
   intro v17 T17 L17 s X17 hZ hown hI17 hvm17 hhp17 hWw17 hQ17
   have LS17 := own_LS.step LS11 hI17 hWw17
   obtain ⟨rfl, Nq17, hh17⟩ := hQ17
   have N17 := Fr.app N11 Nq17
   show own_Ends p e below s _ _ _ (own_F T17 m 58 #[iv i0, iv i1, iv i2, iv i3, iv i4, iv i5, rv b1, rv b6, .unset] [(.int e1r)])
   refine own_g (own_F T17 m 60 #[iv i0, iv i1, iv i2, iv i3, iv i4, iv i5, rv b1, rv b6, iv e1r] []) (fun _ z_ => XS.istore X17.here hx rfl (hb hby at_58) rfl (l' := #[iv i0, iv i1, iv i2, iv i3, iv i4, iv i5, rv b1, rv b6, iv e1r]) rfl z_) ?_
   refine own_g (own_F T17 m 86 #[iv i0, iv i1, iv i2, iv i3, iv i4, iv i5, rv b1, rv b6, iv e1r] []) (fun _ z_ => XS.goto X17.here hx rfl (pc0 := 60) (pc' := 86) rfl (hb hby at_60) (by decide) (by decide) z_) ?_
   refine own_g (own_F T17 m 88 #[iv i0, iv i1, iv i2, iv i3, iv i4, iv i5, rv b1, rv b6, iv e1r] [(.ref b1)]) (fun _ z_ => XS.aload X17.here hx rfl (hb hby at_86) rfl rfl z_) ?_
   refine own_g (own_F T17 m 90 #[iv i0, iv i1, iv i2, iv i3, iv i4, iv i5, rv b1, rv b6, iv e1r] [(.ref b6), (.ref b1)]) (fun _ z_ => XS.aload X17.here hx rfl (hb hby at_88) rfl rfl z_) ?_
   refine own_callV (C := "com/example/assay_runner/assayrunner/report/Build") (y := (⟨"com/example/assay_runner/assayrunner/report/Build", "continues", "(Lcom/example/assay_runner/assayrunner/report/Build;)Z"⟩ : MethodName)) (b := b1) X17 hx hZ hown (own_w hw 38) (own_w hw 39) (own_w hw 41) (own_w hw 40) (own_w hw 42) (own_w hw 2) (by decide) hh17 (((((((((A1.keep K2).keep K3).keep K4).keep K5).ext E6).keep K7).keep K8).keep K9).keep K10) (hM := own_con l Z a0 hw [] b1 b6 x2 x7 x3 x8 x4 x9 t2 t7 t3 t8 t4 t9 (own_nx i0) (own_nx i3) (own_nx i1) (own_nx i4) (own_nx i2) (own_nx i5) (own_len i0) (own_len i3) (own_len i1) (own_len i4) (own_len i2) (own_len i5) zc e0r e1r e2r emr (own_f i0) (own_f i3) (own_f i1) (own_f i4) (own_f i2) (own_f i5) T10.heap n0 (Nat.le_trans (Nat.le_trans (Nat.le_trans (Nat.le_trans (Nat.le_trans (Nat.le_trans (Nat.le_trans (Nat.le_trans (Nat.le_trans (Nat.le_trans Z0 E1.1) K2.1) K3.1) K4.1) K5.1) E6.1) K7.1) K8.1) K9.1) K10.1) (own_lnx i0) (own_lnx i3) ⟨((((((((La2.1.keep K3).keep K4).keep K5).ext E6).keep K7).keep K8).keep K9).keep K10), ((((((((La2.2.1.keep K3 nin0).keep K4 nin0).keep K5 (ninS no2_b1.1 nin0)).ext E6).keep K7 nin0).keep K8 nin0).keep K9 nin0).keep K10 (ninS ne_x2_b6 nin0)), ((((((((La2.2.2.1.keep K3 nin0).keep K4 nin0).keep K5 (ninS no2_b1.1 nin0)).ext E6).keep K7 nin0).keep K8 nin0).keep K9 nin0).keep K10 (ninS ne_x2_b6 nin0)), ((((((((La2.2.2.2.1.keep K3 nin0).keep K4 nin0).keep K5 (ninS no2_b1.2 nin0)).ext E6).keep K7 nin0).keep K8 nin0).keep K9 nin0).keep K10 (ninS ne_t2_b6 nin0)), La2.2.2.2.2⟩ ⟨(((La7.1.keep K8).keep K9).keep K10), (((La7.2.1.keep K8 nin0).keep K9 nin0).keep K10 (ninS no7_b6.1 nin0)), (((La7.2.2.1.keep K8 nin0).keep K9 nin0).keep K10 (ninS no7_b6.1 nin0)), (((La7.2.2.2.1.keep K8 nin0).keep K9 nin0).keep K10 (ninS no7_b6.2 nin0)), La7.2.2.2.2⟩ (own_hrP (own_smP _ _) hr0) (own_lnx i1) (own_lnx i4) ⟨(((((((La3.1.keep K4).keep K5).ext E6).keep K7).keep K8).keep K9).keep K10), (((((((La3.2.1.keep K4 nin0).keep K5 (ninS no3_b1.1 nin0)).ext E6).keep K7 nin0).keep K8 nin0).keep K9 nin0).keep K10 (ninS ne_x3_b6 nin0)), (((((((La3.2.2.1.keep K4 nin0).keep K5 (ninS no3_b1.1 nin0)).ext E6).keep K7 nin0).keep K8 nin0).keep K9 nin0).keep K10 (ninS ne_x3_b6 nin0)), (((((((La3.2.2.2.1.keep K4 nin0).keep K5 (ninS no3_b1.2 nin0)).ext E6).keep K7 nin0).keep K8 nin0).keep K9 nin0).keep K10 (ninS ne_t3_b6 nin0)), La3.2.2.2.2⟩ ⟨((La8.1.keep K9).keep K10), ((La8.2.1.keep K9 nin0).keep K10 (ninS no8_b6.1 nin0)), ((La8.2.2.1.keep K9 nin0).keep K10 (ninS no8_b6.1 nin0)), ((La8.2.2.2.1.keep K9 nin0).keep K10 (ninS no8_b6.2 nin0)), La8.2.2.2.2⟩ (own_hrP (own_smP _ _) hr1) (own_lnx i2) (own_lnx i5) ⟨((((((La4.1.keep K5).ext E6).keep K7).keep K8).keep K9).keep K10), ((((((La4.2.1.keep K5 (ninS no4_b1.1 nin0)).ext E6).keep K7 nin0).keep K8 nin0).keep K9 nin0).keep K10 (ninS ne_x4_b6 nin0)), ((((((La4.2.2.1.keep K5 (ninS no4_b1.1 nin0)).ext E6).keep K7 nin0).keep K8 nin0).keep K9 nin0).keep K10 (ninS ne_x4_b6 nin0)), ((((((La4.2.2.2.1.keep K5 (ninS no4_b1.2 nin0)).ext E6).keep K7 nin0).keep K8 nin0).keep K9 nin0).keep K10 (ninS ne_t4_b6 nin0)), La4.2.2.2.2⟩ ⟨(La9.1.keep K10), (La9.2.1.keep K10 (ninS no9_b6.1 nin0)), (La9.2.2.1.keep K10 (ninS no9_b6.1 nin0)), (La9.2.2.2.1.keep K10 (ninS no9_b6.2 nin0)), La9.2.2.2.2⟩ (own_hrP (own_smP _ _) hr2) (((((((((A1.keep K2).keep K3).keep K4).keep K5).ext E6).keep K7).keep K8).keep K9).keep K10) (((((G5_0.ext E6).keep K7 nin0).keep K8 nin0).keep K9 nin0).keep K10 (ninS ne_b1_b6 nin0)) (((((G5_1.ext E6).keep K7 nin0).keep K8 nin0).keep K9 nin0).keep K10 (ninS ne_b1_b6 nin0)) (((((G5_2.ext E6).keep K7 nin0).keep K8 nin0).keep K9 nin0).keep K10 (ninS ne_b1_b6 nin0)) ((((A6.keep K7).keep K8).keep K9).keep K10) G10_0 G10_1 G10_2 hem hzc (own_sta_keep (own_sta_keep (own_sta_keep (own_sta_keep ((own_sta_keep (own_sta_keep (own_sta_keep (own_sta_keep (S_cs.ext E1) K2 all0) K3 all0) K4 all0) K5 (allS (own_plainE (((A1.keep K2).keep K3).keep K4)) all0)).ext E6) K7 all0) K8 all0) K9 all0) K10 (allS (own_plainE (((A6.keep K7).keep K8).keep K9)) all0))) (W := 0) (pc := 90) (Ls := #[iv i0, iv i1, iv i2, iv i3, iv i4, iv i5, rv b1, rv b6, iv e1r]) (argsL := [(.ref b6)]) (rest := []) (st0 := [(.ref b6), (.ref b1)]) (by rw [hml]; rfl) (lenOf own_pd18 rfl) rfl (Nat.le_of_eq rfl) (hb hby at_90) (by decide) (by decide) (by decide) (by decide) ?_
   intro v18 T18 L18 s X18 hZ hown hI18 hvm18 hhp18 hWw18 hQ18
   have LS18 := own_LS.step LS17 hI18 hWw18
   obtain ⟨rfl, Nq18, hh18⟩ := hQ18
   have N18 := Fr.app N17 Nq18
   show own_Ends p e below s _ _ _ (own_F T18 m 93 #[iv i0, iv i1, iv i2, iv i3, iv i4, iv i5, rv b1, rv b6, iv e1r] [(.int (own_cr e0r e1r e2r emr))])
   refine own_g (own_F T18 m 95 #[iv i0, iv i1, iv i2, iv i3, iv i4, iv i5, rv b1, rv b6, iv e1r] [(.int e1r), (.int (own_cr e0r e1r e2r emr))]) (fun _ z_ => XS.iload X18.here hx rfl (hb hby at_93) rfl z_) ?_
   refine own_g (own_F T18 m 98 #[iv i0, iv i1, iv i2, iv i3, iv i4, iv i5, rv b1, rv b6, iv e1r] []) (fun _ z_ => XS.icmpNo X18.here hx rfl (hb hby at_95) rfl (teq (show (own_cr e0r e1r e2r emr) = e1r by simp [own_cr, c49])).2 z_) ?_
   refine own_g (own_F T18 m 99 #[iv i0, iv i1, iv i2, iv i3, iv i4, iv i5, rv b1, rv b6, iv e1r] [(.int 1)]) (fun _ z_ => XS.iconst X18.here hx rfl (hb hby at_98) z_) ?_
   refine own_g (own_F T18 m 103 #[iv i0, iv i1, iv i2, iv i3, iv i4, iv i5, rv b1, rv b6, iv e1r] [(.int 1)]) (fun _ z_ => XS.goto X18.here hx rfl (pc0 := 99) (pc' := 103) rfl (hb hby at_99) (by decide) (by decide) z_) ?_
   refine own_ret (t := .boolean) X18 hx hlk hrt rfl (Or.inl ⟨rfl, by simp, _, rfl⟩) (hb hby at_103) (by decide) (by decide) ?_
   exact ⟨rfl, N18⟩
set_option maxRecDepth 65536 in
set_option maxHeartbeats 40000000 in
theorem comes_1 {Post : Tables → Env → Array Value → State → Outcome → State → Prop} (hpost : ∀ tb e args s v u, (limb_1_1.after args s (.returned v) u = true ∧ limb_1_2.after args s (.returned v) u = true ∧ True) → FramedW s (.returned v) u (Jvm.fieldLocs frame_1_writes args s ++ Jvm.arrayLocs frame_1_arrays args s ++ Jvm.staticLocs frame_1_statics s) 48 1216 → Post tb e args s (.returned v) u) :
    ArmFor flags0 classFile x code maxLocals ret World_1 tables_1 room_1 Calls_1 rest_1 Pre_1 Post := by
  intro l hfl _ _ p e ha hc hk s m args below hf hA hF happ hP
  obtain ⟨hcalls, hrest, hpre⟩ := hP
  obtain ⟨-, -, -, hnamed, -, -, -, hat⟩ := (Spec.applies_iff hf).mp happ
  obtain ⟨hg, hn⟩ := and_e (Cond.before_iff.mp (show (Jvm.Cond.and given_1 narrow_1).before args s = true from hpre))
  obtain ⟨hcount, hgg⟩ := and_e hg
  obtain ⟨hk0, hgg0⟩ := and_e hgg
  obtain ⟨hk1, hgg1⟩ := and_e hgg0
  obtain ⟨hk2, hgg2⟩ := and_e hgg1
  obtain ⟨hk3, hgg3⟩ := and_e hgg2
  obtain ⟨hk4, hk5⟩ := and_e hgg3
  obtain ⟨w0, w1, w2, w3, w4, w5, rfl⟩ : ∃ w0 w1 w2 w3 w4 w5 : Value, args = #[w0, w1, w2, w3, w4, w5] := by
    have hs : args.size = 6 := by simpa [Cond.value, given_1] using hcount
    obtain ⟨L⟩ := args
    match L, hs with
    | [w0, w1, w2, w3, w4, w5], _ => exact ⟨w0, w1, w2, w3, w4, w5, rfl⟩
  have hw := fun d (hd : d ∈ tables_1) => atoms_spec (ws := Jvm.Cond.code x code maxLocals ret :: tables_1) hat d (List.mem_cons_of_mem _ hd)
  have hfit : Fit s := fun {y c} hc i hi => by
    obtain ⟨ha, rfl⟩ := Array.getElem?_eq_some_iff.mp hc
    have q := List.all_eq_true.mp ((Array.all_eq_true_iff_forall_mem.mp hF) _ (Array.getElem_mem ha)) i (List.mem_range.mpr hi)
    simpa [Array.getElem?_eq_getElem hi] using q
  obtain ⟨i0, ei0⟩ := is_v hk0
  obtain rfl : w0 = (.int i0) := Option.some.inj ei0
  obtain ⟨i1, ei1⟩ := is_v hk1
  obtain rfl : w1 = (.int i1) := Option.some.inj ei1
  obtain ⟨i2, ei2⟩ := is_v hk2
  obtain rfl : w2 = (.int i2) := Option.some.inj ei2
  obtain ⟨i3, ei3⟩ := is_v hk3
  obtain rfl : w3 = (.int i3) := Option.some.inj ei3
  obtain ⟨i4, ei4⟩ := is_v hk4
  obtain rfl : w4 = (.int i4) := Option.some.inj ei4
  obtain ⟨i5, ei5⟩ := is_v hk5
  obtain rfl : w5 = (.int i5) := Option.some.inj ei5
  obtain ⟨hsets, -⟩ := atoms_of jdkStatics_1 (by rw [← rest_1_c_eq]; exact hrest)
  obtain ⟨zc, evc⟩ := is_v (Cond.before_iff.mp (hsets _ (List.mem_of_getElem? (i := 1) rfl)))
  have S_cs : Sta s s.heap "java/lang/String" "COMPACT_STRINGS" "Z" (.int zc) := Sta.start evc (Or.inl (hsets _ (List.mem_of_getElem? (i := 0) rfl)))
  have hzc : ¬ zc = (0 : Int32) := fun q => by
    have h1 := not_v (Cond.before_iff.mp (hsets _ (List.mem_of_getElem? (i := 2) rfl)))
    rw [eq_i evc (Term.int_eval 0) (by rw [q])] at h1
    cases h1
  have hh : Jvm.Lit.constHeld s "com/example/assay_runner/assayrunner/report/BuildContinuesPinLaw" 13 := hcalls.1 _ (List.mem_of_getElem? (i := 0) rfl)
  obtain ⟨n, o, h1, h2, h3, _, L, rfl, ⟨rfl, N⟩, hq⟩ := own_law l s _ hw tables_1 i0 i1 i2 i3 i4 i5 zc s.heap s.heap.size (Nat.le_refl _) hzc S_cs (fun _ _ q => q) hh (hsets _ (List.mem_of_getElem? (i := 2) rfl)) p e ha hc hk s m _ below hf ((Spec.applies_iff_loose hf).mp happ).1 ⟨rfl, State.Warmed39.refl s, rfl, own_LS.start⟩ trivial
  refine ⟨n, _, h1, h2, h3, hpost _ _ _ _ _ _ ⟨Cond.after_iff.mpr rfl, Cond.after_iff.mpr (eq_i res_at (Term.int_eval (1)) rfl), trivial⟩ ⟨hq.1.1, hq.1.2.1, hq.1.2.2.1, (hq.1.2.2.2.sift fun y hy => Or.inr (N y hy)).mono (by decide) (by decide)⟩⟩
theorem main_1_1 : Claimed_1_1 := comes_1 fun _ _ _ _ _ _ h hF => ⟨h.1, hF⟩
theorem main_1_2 : Claimed_1_2 := comes_1 fun _ _ _ _ _ _ h hF => ⟨h.2.1, hF⟩
end Jvm.Pilot.@@N@@
namespace Jvm.Pilot.@@N@@
open Jvm Jvm.ClassFile Sem Op Lib Jvm.Free Jvm.Stand Jvm.Pilot.@@N@@.Jvm.D
/-! MADE BY PROGRAM (witnessworld.py) out of the Statement's table words and the real class files: 21 classes; the members and pool entries that the words name. The judged class is class 1, her method 4. -/
namespace start1
open Jvm.ClassFile
def u (s : String) : CpInfo := .utf8 (stringToUtf16 s)
/-- a pool by its gaps: so many unusable entries, then the entry; so many at the end -/
def gap : Nat → List CpInfo → List CpInfo
  | 0, r => r
  | n + 1, r => .unusable :: gap n r
def poolList (es : List (Nat × CpInfo)) (last : Nat) : List CpInfo := es.foldr (fun e r => gap e.1 (e.2 :: r)) (gap last [])
def pool (es : List (Nat × CpInfo)) (last : Nat) : Array CpInfo := ⟨poolList es last⟩
def fileOf (pool : Array CpInfo) (this : Nat) (attrs : Array Attribute := #[]) (ms : Array MethodInfo := #[]) (fl : Nat := 33) (sup : Nat := 0) (ifs : Array Nat := #[]) (fds : Array FieldInfo := #[]) : ClassFile where
  minorVersion := 0
  majorVersion := 65
  constantPool := pool
  accessFlags := fl
  thisClass := this
  superClass := sup
  interfaces := ifs
  fields := fds
  methods := ms
  attributes := attrs
def plain (name : String) (sup : Option ClassId) : Class where
  name := name
  kind := .ordinary
  loader := none
  accessFlags := 33
  super := sup
  interfaces := #[]
  cf := none
  fields := #[]
  methods := #[]
  instanceTypes := #[]
  staticTypes := #[]
  resolved := #[]
  callSites := []
  init := .initialized
  statics := none
  mirror := none

def pool0 : Array CpInfo := pool [(5, u "<init>"), (0, u "()V"), (1, .class_ 10), (1, u "java/lang/Object")] 113

def k0c0 : Code := { maxStack := 0, maxLocals := 1, code := object_method_1_code, exceptionTable := #[], attributes := #[] }
def k0m0 : Method := { name := "<init>", desc := "()V", sig := { parameters := [], returnType := none }, accessFlags := 1, code := some k0c0 }
/-- java/lang/Object -/
def k0 : Class := { plain "java/lang/Object" none with
  accessFlags := 33
  interfaces := #[]
  cf := some (fileOf pool0 8 #[] #[{ accessFlags := 1, nameIndex := 5, descriptorIndex := 6, attributes := #[] }] 33 0 #[] #[])
  fields := #[]
  methods := #[k0m0]
  instanceTypes := #[]
  staticTypes := #[]
  resolved := Array.replicate 124 none
  statics := none }

def pool1 : Array CpInfo := pool [(2, .class_ 4), (1, u "java/lang/Object"), (0, u "<init>"), (0, u "()V"), (0, .methodref 8 9), (0, .class_ 10), (0, .nameAndType 11 12), (0, u "com/example/assay_runner/assayrunner/report/BuildContinuesPinLaw"), (0, u "len"), (0, u "(I)I"), (0, .string 14), (0, u ""), (0, .methodref 16 17), (0, .class_ 18), (0, .nameAndType 19 20), (0, u "java/lang/String"), (0, u "valueOf"), (0, u "(C)Ljava/lang/String;"), (0, .methodref 16 22), (0, .nameAndType 5 23), (0, u "([C)V"), (0, .class_ 25), (0, u "com/example/assay_runner/assayrunner/report/Build"), (0, .methodref 8 27), (0, .nameAndType 28 29), (0, u "str"), (0, u "(I)Ljava/lang/String;"), (0, .methodref 24 31), (0, .nameAndType 5 32), (0, u "(Ljava/lang/String;Ljava/lang/String;Ljava/lang/String;)V"), (0, .methodref 8 34), (0, .nameAndType 35 36), (0, u "same"), (0, u "(II)Z"), (0, .methodref 24 38), (0, .nameAndType 39 40), (0, u "continues"), (0, u "(Lcom/example/assay_runner/assayrunner/report/Build;)Z"), (3, u "law"), (0, u "(IIIIII)Z")] 2

def k1m0 : Method := { name := "<init>", desc := "()V", sig := { parameters := [], returnType := none }, accessFlags := 1, code := none }
def k1c1 : Code := { maxStack := 2, maxLocals := 1, code := method_2_code, exceptionTable := #[], attributes := #[] }
def k1m1 : Method := { name := "len", desc := "(I)I", sig := { parameters := [.int], returnType := some .int }, accessFlags := 10, code := some k1c1 }
def k1c2 : Code := { maxStack := 3, maxLocals := 5, code := method_3_code, exceptionTable := #[], attributes := #[] }
def k1m2 : Method := { name := "str", desc := "(I)Ljava/lang/String;", sig := { parameters := [.int], returnType := some (.object "java/lang/String") }, accessFlags := 10, code := some k1c2 }
def k1c3 : Code := { maxStack := 3, maxLocals := 3, code := method_4_code, exceptionTable := #[], attributes := #[] }
def k1m3 : Method := { name := "same", desc := "(II)Z", sig := { parameters := [.int, .int], returnType := some .boolean }, accessFlags := 10, code := some k1c3 }
def k1c4 : Code := { maxStack := 5, maxLocals := 9, code := code, exceptionTable := #[], attributes := #[] }
def k1m4 : Method := { name := "law", desc := "(IIIIII)Z", sig := { parameters := [.int, .int, .int, .int, .int, .int], returnType := some .boolean }, accessFlags := 9, code := some k1c4 }
/-- com/example/assay_runner/assayrunner/report/BuildContinuesPinLaw -/
def k1 : Class := { plain "com/example/assay_runner/assayrunner/report/BuildContinuesPinLaw" (some 0) with
  accessFlags := 49
  interfaces := #[]
  cf := some (fileOf pool1 8 #[] #[{ accessFlags := 1, nameIndex := 5, descriptorIndex := 6, attributes := #[] }, { accessFlags := 10, nameIndex := 11, descriptorIndex := 12, attributes := #[] }, { accessFlags := 10, nameIndex := 28, descriptorIndex := 29, attributes := #[] }, { accessFlags := 10, nameIndex := 35, descriptorIndex := 36, attributes := #[] }, { accessFlags := 9, nameIndex := 44, descriptorIndex := 45, attributes := #[] }] 49 2 #[] #[])
  fields := #[]
  methods := #[k1m0, k1m1, k1m2, k1m3, k1m4]
  instanceTypes := #[]
  staticTypes := #[]
  resolved := Array.replicate 48 none
  statics := none }

def pool2 : Array CpInfo := pool [(1, .methodref 2 3), (0, .class_ 4), (0, .nameAndType 5 6), (0, u "java/lang/Object"), (0, u "<init>"), (0, u "()V"), (0, .class_ 8), (0, u "java/lang/Record")] 13

def k2c0 : Code := { maxStack := 1, maxLocals := 1, code := jdk_30_method_1_code, exceptionTable := #[], attributes := #[] }
def k2m0 : Method := { name := "<init>", desc := "()V", sig := { parameters := [], returnType := none }, accessFlags := 4, code := some k2c0 }
/-- java/lang/Record -/
def k2 : Class := { plain "java/lang/Record" (some 0) with
  accessFlags := 1057
  interfaces := #[]
  cf := some (fileOf pool2 7 #[] #[{ accessFlags := 4, nameIndex := 5, descriptorIndex := 6, attributes := #[] }] 1057 2 #[] #[])
  fields := #[]
  methods := #[k2m0]
  instanceTypes := #[]
  staticTypes := #[]
  resolved := Array.replicate 22 none
  statics := none }

def pool3 : Array CpInfo := pool [(1, .methodref 2 3), (0, .class_ 4), (0, .nameAndType 5 6), (0, u "java/lang/Record"), (0, u "<init>"), (0, u "()V"), (0, .fieldref 8 9), (0, .class_ 10), (0, .nameAndType 11 12), (0, u "com/example/assay_runner/assayrunner/report/Build"), (0, u "jvm"), (0, u "Ljava/lang/String;"), (0, .fieldref 8 14), (0, .nameAndType 15 12), (0, u "session"), (0, .fieldref 8 17), (0, .nameAndType 18 12), (0, u "forkedBy"), (2, u "SESSIONS"), (0, u "Ljava/util/Map;"), (6, .class_ 30), (0, u "java/lang/String"), (2, u "sessionsSeen"), (0, u "I"), (10, u "THIS_JVM"), (2, u "FORKED_BY"), (2, u "(Ljava/lang/String;Ljava/lang/String;Ljava/lang/String;)V"), (0, .methodref 8 53), (0, .nameAndType 11 54), (0, u "()Ljava/lang/String;"), (0, .methodref 29 56), (0, .nameAndType 57 58), (0, u "equals"), (0, u "(Ljava/lang/Object;)Z"), (0, .methodref 8 60), (0, .nameAndType 15 54), (0, .methodref 29 62), (0, .nameAndType 63 64), (0, u "isEmpty"), (0, u "()Z"), (0, .methodref 8 66), (0, .nameAndType 18 54), (115, u "SUREFIRE_PROPERTY"), (1, u "MAVEN_PROPERTY"), (12, u "continues"), (0, u "(Lcom/example/assay_runner/assayrunner/report/Build;)Z")] 55

def k3c0 : Code := { maxStack := 2, maxLocals := 4, code := prog_57_method_1_code, exceptionTable := #[], attributes := #[] }
def k3m0 : Method := { name := "<init>", desc := "(Ljava/lang/String;Ljava/lang/String;Ljava/lang/String;)V", sig := { parameters := [(.object "java/lang/String"), (.object "java/lang/String"), (.object "java/lang/String")], returnType := none }, accessFlags := 0, code := some k3c0 }
def k3c1 : Code := { maxStack := 2, maxLocals := 3, code := prog_57_method_3_code, exceptionTable := #[], attributes := #[] }
def k3m1 : Method := { name := "continues", desc := "(Lcom/example/assay_runner/assayrunner/report/Build;)Z", sig := { parameters := [(.object "com/example/assay_runner/assayrunner/report/Build")], returnType := some .boolean }, accessFlags := 0, code := some k3c1 }
def k3c2 : Code := { maxStack := 1, maxLocals := 1, code := prog_57_method_10_code, exceptionTable := #[], attributes := #[] }
def k3m2 : Method := { name := "jvm", desc := "()Ljava/lang/String;", sig := { parameters := [], returnType := some (.object "java/lang/String") }, accessFlags := 1, code := some k3c2 }
def k3c3 : Code := { maxStack := 1, maxLocals := 1, code := prog_57_method_11_code, exceptionTable := #[], attributes := #[] }
def k3m3 : Method := { name := "session", desc := "()Ljava/lang/String;", sig := { parameters := [], returnType := some (.object "java/lang/String") }, accessFlags := 1, code := some k3c3 }
def k3c4 : Code := { maxStack := 1, maxLocals := 1, code := prog_57_method_12_code, exceptionTable := #[], attributes := #[] }
def k3m4 : Method := { name := "forkedBy", desc := "()Ljava/lang/String;", sig := { parameters := [], returnType := some (.object "java/lang/String") }, accessFlags := 1, code := some k3c4 }
/-- com/example/assay_runner/assayrunner/report/Build -/
def k3 : Class := { plain "com/example/assay_runner/assayrunner/report/Build" (some 2) with
  accessFlags := 48
  interfaces := #[]
  cf := some (fileOf pool3 8 #[] #[{ accessFlags := 0, nameIndex := 5, descriptorIndex := 51, attributes := #[] }, { accessFlags := 0, nameIndex := 197, descriptorIndex := 198, attributes := #[] }, { accessFlags := 1, nameIndex := 11, descriptorIndex := 54, attributes := #[] }, { accessFlags := 1, nameIndex := 15, descriptorIndex := 54, attributes := #[] }, { accessFlags := 1, nameIndex := 18, descriptorIndex := 54, attributes := #[] }] 48 2 #[] #[{ accessFlags := 18, nameIndex := 11, descriptorIndex := 12, attributes := #[] }, { accessFlags := 18, nameIndex := 15, descriptorIndex := 12, attributes := #[] }, { accessFlags := 18, nameIndex := 18, descriptorIndex := 12, attributes := #[] }, { accessFlags := 24, nameIndex := 182, descriptorIndex := 12, attributes := #[] }, { accessFlags := 26, nameIndex := 184, descriptorIndex := 12, attributes := #[] }, { accessFlags := 26, nameIndex := 45, descriptorIndex := 12, attributes := #[] }, { accessFlags := 26, nameIndex := 48, descriptorIndex := 12, attributes := #[] }, { accessFlags := 26, nameIndex := 21, descriptorIndex := 22, attributes := #[] }, { accessFlags := 10, nameIndex := 33, descriptorIndex := 34, attributes := #[] }])
  fields := #[{ name := "jvm", type := (.object "java/lang/String"), accessFlags := 18, slot := 0, constantValue := 0 }, { name := "session", type := (.object "java/lang/String"), accessFlags := 18, slot := 1, constantValue := 0 }, { name := "forkedBy", type := (.object "java/lang/String"), accessFlags := 18, slot := 2, constantValue := 0 }, { name := "SUREFIRE_PROPERTY", type := (.object "java/lang/String"), accessFlags := 24, slot := 0, constantValue := 0 }, { name := "MAVEN_PROPERTY", type := (.object "java/lang/String"), accessFlags := 26, slot := 1, constantValue := 0 }, { name := "THIS_JVM", type := (.object "java/lang/String"), accessFlags := 26, slot := 2, constantValue := 0 }, { name := "FORKED_BY", type := (.object "java/lang/String"), accessFlags := 26, slot := 3, constantValue := 0 }, { name := "SESSIONS", type := (.object "java/util/Map"), accessFlags := 26, slot := 4, constantValue := 0 }, { name := "sessionsSeen", type := .int, accessFlags := 10, slot := 5, constantValue := 0 }]
  methods := #[k3m0, k3m1, k3m2, k3m3, k3m4]
  instanceTypes := #[(.object "java/lang/String"), (.object "java/lang/String"), (.object "java/lang/String")]
  staticTypes := #[(.object "java/lang/String"), (.object "java/lang/String"), (.object "java/lang/String"), (.object "java/lang/String"), (.object "java/util/Map"), .int]
  resolved := Array.replicate 254 none
  statics := none }

def pool4 : Array CpInfo := pool [(1, .class_ 2), (0, u "java/io/Serializable"), (0, .class_ 4), (0, u "java/lang/Object")] 2

/-- java/io/Serializable -/
def k4 : Class := { plain "java/io/Serializable" (some 0) with
  accessFlags := 1537
  interfaces := #[]
  cf := some (fileOf pool4 1 #[] #[] 1537 3 #[] #[])
  fields := #[]
  methods := #[]
  instanceTypes := #[]
  staticTypes := #[]
  resolved := Array.replicate 7 none
  statics := none }

def pool5 : Array CpInfo := pool [(1, .class_ 2), (0, u "java/lang/Comparable"), (0, .class_ 4), (0, u "java/lang/Object")] 7

/-- java/lang/Comparable -/
def k5 : Class := { plain "java/lang/Comparable" (some 0) with
  accessFlags := 1537
  interfaces := #[]
  cf := some (fileOf pool5 1 #[] #[] 1537 3 #[] #[])
  fields := #[]
  methods := #[]
  instanceTypes := #[]
  staticTypes := #[]
  resolved := Array.replicate 12 none
  statics := none }

def pool6 : Array CpInfo := pool [(2, .class_ 4), (1, u "java/lang/CharSequence"), (42, .class_ 48), (0, u "java/lang/CharSequence$1CodePointIterator"), (10, .class_ 60), (0, u "java/lang/CharSequence$1CharIterator"), (5, .class_ 67), (0, u "java/lang/Object")] 63

/-- java/lang/CharSequence -/
def k6 : Class := { plain "java/lang/CharSequence" (some 0) with
  accessFlags := 1537
  interfaces := #[]
  cf := some (fileOf pool6 2 #[.nestMembers #[47, 59]] #[] 1537 66 #[] #[])
  fields := #[]
  methods := #[]
  instanceTypes := #[]
  staticTypes := #[]
  resolved := Array.replicate 131 none
  statics := none }

def pool7 : Array CpInfo := pool [(1, .class_ 2), (0, u "java/lang/constant/Constable"), (0, .class_ 4), (0, u "java/lang/Object")] 6

/-- java/lang/constant/Constable -/
def k7 : Class := { plain "java/lang/constant/Constable" (some 0) with
  accessFlags := 1537
  interfaces := #[]
  cf := some (fileOf pool7 1 #[] #[] 1537 3 #[] #[])
  fields := #[]
  methods := #[]
  instanceTypes := #[]
  staticTypes := #[]
  resolved := Array.replicate 11 none
  statics := none }

def pool8 : Array CpInfo := pool [(1, .class_ 2), (0, u "java/lang/constant/ConstantDesc"), (0, .class_ 4), (0, u "java/lang/Object")] 32

/-- java/lang/constant/ConstantDesc -/
def k8 : Class := { plain "java/lang/constant/ConstantDesc" (some 0) with
  accessFlags := 1537
  interfaces := #[]
  cf := some (fileOf pool8 1 #[] #[] 1537 3 #[] #[])
  fields := #[]
  methods := #[]
  instanceTypes := #[]
  staticTypes := #[]
  resolved := Array.replicate 37 none
  statics := none }

def pool9 : Array CpInfo := pool [(1, .methodref 2 3), (0, .class_ 4), (0, .nameAndType 5 6), (0, u "java/lang/Object"), (0, u "<init>"), (0, u "()V"), (2, .fieldref 10 11), (0, .class_ 12), (0, .nameAndType 13 14), (0, u "java/lang/String"), (0, u "value"), (0, u "[B"), (0, .fieldref 10 16), (0, .nameAndType 17 18), (0, u "coder"), (0, u "B"), (2, u "hash"), (0, u "I"), (2, u "hashIsZero"), (0, u "Z"), (0, .methodref 10 28), (0, .nameAndType 5 29), (0, u "([CIILjava/lang/Void;)V"), (8, .fieldref 10 39), (0, .nameAndType 40 26), (0, u "COMPACT_STRINGS"), (1, .class_ 44), (1, u "java/lang/StringUTF16"), (0, u "compress"), (1, .methodref 42 48), (0, .nameAndType 49 50), (0, u "coderFromArrayLen"), (0, u "([BI)B"), (2, u "toBytes"), (53, .class_ 109), (1, u "java/lang/StringLatin1"), (32, u "()Z"), (34, .methodref 42 178), (0, .nameAndType 45 179), (0, u "([CII)[B"), (29, .methodref 10 210), (0, .nameAndType 5 211), (0, u "([BB)V"), (157, u "(C)Z"), (171, .methodref 107 542), (0, .nameAndType 543 544), (0, u "equals"), (0, u "([B[B)Z"), (28, u "(Ljava/lang/Object;)Z"), (1, .class_ 576), (0, u "java/lang/CharSequence"), (22, u "CASE_INSENSITIVE_ORDER"), (0, u "Ljava/util/Comparator;"), (91, u "isEmpty"), (89, u "valueOf"), (0, u "(C)Ljava/lang/String;"), (226, u "([C)V"), (4, .methodref 107 1016), (0, .nameAndType 1017 369), (0, u "canEncode"), (0, .methodref 107 1019), (0, .nameAndType 53 1020), (0, u "(C)[B"), (80, u "serialPersistentFields"), (0, u "[Ljava/io/ObjectStreamField;"), (0, .class_ 1104), (0, u "java/lang/String$CaseInsensitiveComparator"), (1, .class_ 1107), (0, u "java/io/Serializable"), (0, .class_ 1109), (0, u "java/lang/Comparable"), (0, .class_ 1111), (0, u "java/lang/constant/Constable"), (0, .class_ 1113), (0, u "java/lang/constant/ConstantDesc"), (2, u "serialVersionUID"), (0, u "J"), (3, u "REPL"), (0, u "C"), (2, u "LATIN1"), (1, u "UTF16")] 323

def k9m0 : Method := { name := "<init>", desc := "()V", sig := { parameters := [], returnType := none }, accessFlags := 1, code := none }
def k9c1 : Code := { maxStack := 5, maxLocals := 2, code := jdk_42_method_3_code, exceptionTable := #[], attributes := #[] }
def k9m1 : Method := { name := "<init>", desc := "([C)V", sig := { parameters := [(.array .char)], returnType := none }, accessFlags := 1, code := some k9c1 }
def k9c2 : Code := { maxStack := 1, maxLocals := 1, code := jdk_42_method_55_code, exceptionTable := #[], attributes := #[] }
def k9m2 : Method := { name := "isEmpty", desc := "()Z", sig := { parameters := [], returnType := some .boolean }, accessFlags := 1, code := some k9c2 }
def k9c3 : Code := { maxStack := 2, maxLocals := 3, code := jdk_42_method_66_code, exceptionTable := #[], attributes := #[] }
def k9m3 : Method := { name := "equals", desc := "(Ljava/lang/Object;)Z", sig := { parameters := [(.object "java/lang/Object")], returnType := some .boolean }, accessFlags := 1, code := some k9c3 }
def k9c4 : Code := { maxStack := 4, maxLocals := 1, code := jdk_42_method_139_code, exceptionTable := #[], attributes := #[] }
def k9m4 : Method := { name := "valueOf", desc := "(C)Ljava/lang/String;", sig := { parameters := [.char], returnType := some (.object "java/lang/String") }, accessFlags := 9, code := some k9c4 }
def k9c5 : Code := { maxStack := 4, maxLocals := 6, code := jdk_42_method_149_code, exceptionTable := #[], attributes := #[] }
def k9m5 : Method := { name := "<init>", desc := "([CIILjava/lang/Void;)V", sig := { parameters := [(.array .char), .int, .int, (.object "java/lang/Void")], returnType := none }, accessFlags := 2, code := some k9c5 }
def k9c6 : Code := { maxStack := 2, maxLocals := 3, code := jdk_42_method_151_code, exceptionTable := #[], attributes := #[] }
def k9m6 : Method := { name := "<init>", desc := "([BB)V", sig := { parameters := [(.array .byte), .byte], returnType := none }, accessFlags := 0, code := some k9c6 }
/-- java/lang/String -/
def k9 : Class := { plain "java/lang/String" (some 0) with
  accessFlags := 49
  interfaces := #[4, 5, 6, 7, 8]
  cf := some (fileOf pool9 10 #[.nestMembers #[1103]] #[{ accessFlags := 1, nameIndex := 5, descriptorIndex := 6, attributes := #[] }, { accessFlags := 1, nameIndex := 5, descriptorIndex := 1010, attributes := #[] }, { accessFlags := 1, nameIndex := 692, descriptorIndex := 142, attributes := #[] }, { accessFlags := 1, nameIndex := 543, descriptorIndex := 573, attributes := #[] }, { accessFlags := 9, nameIndex := 782, descriptorIndex := 783, attributes := #[] }, { accessFlags := 2, nameIndex := 5, descriptorIndex := 29, attributes := #[] }, { accessFlags := 0, nameIndex := 5, descriptorIndex := 211, attributes := #[] }] 49 2 #[1106, 1108, 575, 1110, 1112] #[{ accessFlags := 18, nameIndex := 13, descriptorIndex := 14, attributes := #[] }, { accessFlags := 18, nameIndex := 17, descriptorIndex := 18, attributes := #[] }, { accessFlags := 2, nameIndex := 21, descriptorIndex := 22, attributes := #[] }, { accessFlags := 2, nameIndex := 25, descriptorIndex := 26, attributes := #[] }, { accessFlags := 26, nameIndex := 1116, descriptorIndex := 1117, attributes := #[] }, { accessFlags := 24, nameIndex := 40, descriptorIndex := 26, attributes := #[] }, { accessFlags := 26, nameIndex := 1101, descriptorIndex := 1102, attributes := #[] }, { accessFlags := 26, nameIndex := 1121, descriptorIndex := 1122, attributes := #[] }, { accessFlags := 25, nameIndex := 599, descriptorIndex := 600, attributes := #[] }, { accessFlags := 24, nameIndex := 1125, descriptorIndex := 18, attributes := #[] }, { accessFlags := 24, nameIndex := 1127, descriptorIndex := 18, attributes := #[] }])
  fields := #[{ name := "value", type := (.array .byte), accessFlags := 18, slot := 0, constantValue := 0 }, { name := "coder", type := .byte, accessFlags := 18, slot := 1, constantValue := 0 }, { name := "hash", type := .int, accessFlags := 2, slot := 2, constantValue := 0 }, { name := "hashIsZero", type := .boolean, accessFlags := 2, slot := 3, constantValue := 0 }, { name := "serialVersionUID", type := .long, accessFlags := 26, slot := 0, constantValue := 0 }, { name := "COMPACT_STRINGS", type := .boolean, accessFlags := 24, slot := 1, constantValue := 0 }, { name := "serialPersistentFields", type := (.array (.object "java/io/ObjectStreamField")), accessFlags := 26, slot := 2, constantValue := 0 }, { name := "REPL", type := .char, accessFlags := 26, slot := 3, constantValue := 0 }, { name := "CASE_INSENSITIVE_ORDER", type := (.object "java/util/Comparator"), accessFlags := 25, slot := 4, constantValue := 0 }, { name := "LATIN1", type := .byte, accessFlags := 24, slot := 5, constantValue := 0 }, { name := "UTF16", type := .byte, accessFlags := 24, slot := 6, constantValue := 0 }]
  methods := #[k9m0, k9m1, k9m2, k9m3, k9m4, k9m5, k9m6]
  instanceTypes := #[(.array .byte), .byte, .int, .boolean]
  staticTypes := #[.long, .boolean, (.array (.object "java/io/ObjectStreamField")), .char, (.object "java/util/Comparator"), .byte, .byte]
  resolved := Array.replicate 1451 none
  statics := some 0 }

def pool10 : Array CpInfo := pool [(4, .class_ 6), (1, u "java/lang/Object"), (0, u "<init>"), (0, u "()V"), (5, .class_ 16), (1, u "java/lang/StringLatin1"), (73, u "canEncode"), (14, u "(C)Z"), (15, u "$assertionsDisabled"), (0, u "Z"), (98, .class_ 223), (1, u "java/lang/StringLatin1$LinesSpliterator"), (57, u "equals"), (0, u "([B[B)Z"), (97, u "toBytes"), (1, u "(C)[B"), (7, .class_ 391), (0, u "java/lang/StringLatin1$CharsSpliterator")] 3

def k10m0 : Method := { name := "<init>", desc := "()V", sig := { parameters := [], returnType := none }, accessFlags := 0, code := none }
def k10c1 : Code := { maxStack := 2, maxLocals := 1, code := jdk_43_method_3_code, exceptionTable := #[], attributes := #[] }
def k10m1 : Method := { name := "canEncode", desc := "(C)Z", sig := { parameters := [.char], returnType := some .boolean }, accessFlags := 9, code := some k10c1 }
def k10c2 : Code := { maxStack := 3, maxLocals := 3, code := jdk_43_method_13_code, exceptionTable := #[], attributes := #[] }
def k10m2 : Method := { name := "equals", desc := "([B[B)Z", sig := { parameters := [(.array .byte), (.array .byte)], returnType := some .boolean }, accessFlags := 9, code := some k10c2 }
def k10c3 : Code := { maxStack := 4, maxLocals := 1, code := jdk_43_method_46_code, exceptionTable := #[], attributes := #[] }
def k10m3 : Method := { name := "toBytes", desc := "(C)[B", sig := { parameters := [.char], returnType := some (.array .byte) }, accessFlags := 9, code := some k10c3 }
/-- java/lang/StringLatin1 -/
def k10 : Class := { plain "java/lang/StringLatin1" (some 0) with
  accessFlags := 48
  interfaces := #[]
  cf := some (fileOf pool10 14 #[.nestMembers #[390, 221]] #[{ accessFlags := 0, nameIndex := 7, descriptorIndex := 8, attributes := #[] }, { accessFlags := 9, nameIndex := 90, descriptorIndex := 105, attributes := #[] }, { accessFlags := 9, nameIndex := 281, descriptorIndex := 282, attributes := #[] }, { accessFlags := 9, nameIndex := 380, descriptorIndex := 382, attributes := #[] }] 48 4 #[] #[{ accessFlags := 4120, nameIndex := 121, descriptorIndex := 122, attributes := #[] }])
  fields := #[{ name := "$assertionsDisabled", type := .boolean, accessFlags := 4120, slot := 0, constantValue := 0 }]
  methods := #[k10m0, k10m1, k10m2, k10m3]
  instanceTypes := #[]
  staticTypes := #[.boolean]
  resolved := Array.replicate 395 none
  statics := none }

def pool11 : Array CpInfo := pool [(6, .class_ 8), (1, u "java/lang/Object"), (0, u "<init>"), (0, u "()V"), (1, .class_ 14), (1, u "java/lang/StringUTF16"), (31, u "$assertionsDisabled"), (0, u "Z"), (13, u "HI_BYTE_SHIFT"), (0, u "I"), (2, u "LO_BYTE_SHIFT"), (49, .methodref 12 116), (0, .nameAndType 117 118), (0, u "compress"), (0, u "([CI[BII)I"), (3, u "([CII)[B"), (138, u "coderFromArrayLen"), (0, u "([BI)B"), (106, .class_ 371), (1, u "java/lang/StringUTF16$LinesSpliterator"), (58, u "MAX_LENGTH"), (196, .class_ 628), (0, u "java/lang/StringUTF16$CodePointsSpliterator"), (0, .class_ 630), (0, u "java/lang/StringUTF16$CharsSpliterator")] 4

def k11m0 : Method := { name := "<init>", desc := "()V", sig := { parameters := [], returnType := none }, accessFlags := 0, code := none }
def k11c1 : Code := { maxStack := 2, maxLocals := 2, code := jdk_52_method_15_code, exceptionTable := #[], attributes := #[] }
def k11m1 : Method := { name := "coderFromArrayLen", desc := "([BI)B", sig := { parameters := [(.array .byte), .int], returnType := some .byte }, accessFlags := 8, code := some k11c1 }
def k11c2 : Code := { maxStack := 5, maxLocals := 6, code := jdk_52_method_16_code, exceptionTable := #[], attributes := #[] }
def k11m2 : Method := { name := "compress", desc := "([CII)[B", sig := { parameters := [(.array .char), .int, .int], returnType := some (.array .byte) }, accessFlags := 9, code := some k11c2 }
def k11c3 : Code := { maxStack := 3, maxLocals := 7, code := jdk_52_method_21_code, exceptionTable := #[], attributes := #[] }
def k11m3 : Method := { name := "compress", desc := "([CI[BII)I", sig := { parameters := [(.array .char), .int, (.array .byte), .int, .int], returnType := some .int }, accessFlags := 9, code := some k11c3 }
/-- java/lang/StringUTF16 -/
def k11 : Class := { plain "java/lang/StringUTF16" (some 0) with
  accessFlags := 48
  interfaces := #[]
  cf := some (fileOf pool11 12 #[.nestMembers #[627, 629, 369]] #[{ accessFlags := 0, nameIndex := 9, descriptorIndex := 10, attributes := #[] }, { accessFlags := 8, nameIndex := 261, descriptorIndex := 262, attributes := #[] }, { accessFlags := 9, nameIndex := 117, descriptorIndex := 122, attributes := #[] }, { accessFlags := 9, nameIndex := 117, descriptorIndex := 118, attributes := #[] }] 48 6 #[] #[{ accessFlags := 26, nameIndex := 61, descriptorIndex := 62, attributes := #[] }, { accessFlags := 26, nameIndex := 65, descriptorIndex := 62, attributes := #[] }, { accessFlags := 24, nameIndex := 430, descriptorIndex := 62, attributes := #[] }, { accessFlags := 4120, nameIndex := 46, descriptorIndex := 47, attributes := #[] }])
  fields := #[{ name := "HI_BYTE_SHIFT", type := .int, accessFlags := 26, slot := 0, constantValue := 0 }, { name := "LO_BYTE_SHIFT", type := .int, accessFlags := 26, slot := 1, constantValue := 0 }, { name := "MAX_LENGTH", type := .int, accessFlags := 24, slot := 2, constantValue := 0 }, { name := "$assertionsDisabled", type := .boolean, accessFlags := 4120, slot := 3, constantValue := 0 }]
  methods := #[k11m0, k11m1, k11m2, k11m3]
  instanceTypes := #[]
  staticTypes := #[.int, .int, .int, .boolean]
  resolved := Array.replicate 635 none
  statics := none }

def pool12 : Array CpInfo := pool [(2, .class_ 4), (1, u "java/lang/Object"), (0, u "<init>"), (0, u "()V"), (17, .class_ 26), (1, u "jdk/internal/util/Preconditions"), (28, .class_ 56), (0, u "jdk/internal/util/Preconditions$4"), (57, .class_ 115), (0, u "jdk/internal/util/Preconditions$1"), (7, u "SIOOBE_FORMATTER"), (0, u "Ljava/util/function/BiFunction;"), (0, .class_ 126), (0, u "jdk/internal/util/Preconditions$2"), (3, u "AIOOBE_FORMATTER"), (0, .class_ 132), (0, u "jdk/internal/util/Preconditions$3"), (3, u "IOOBE_FORMATTER")] 57

def k12m0 : Method := { name := "<init>", desc := "()V", sig := { parameters := [], returnType := none }, accessFlags := 1, code := none }
/-- jdk/internal/util/Preconditions -/
def k12 : Class := { plain "jdk/internal/util/Preconditions" (some 0) with
  accessFlags := 33
  interfaces := #[]
  cf := some (fileOf pool12 24 #[.nestMembers #[55, 131, 125, 114]] #[{ accessFlags := 1, nameIndex := 5, descriptorIndex := 6, attributes := #[] }] 33 2 #[] #[{ accessFlags := 25, nameIndex := 123, descriptorIndex := 124, attributes := #[] }, { accessFlags := 25, nameIndex := 130, descriptorIndex := 124, attributes := #[] }, { accessFlags := 25, nameIndex := 136, descriptorIndex := 124, attributes := #[] }])
  fields := #[{ name := "SIOOBE_FORMATTER", type := (.object "java/util/function/BiFunction"), accessFlags := 25, slot := 0, constantValue := 0 }, { name := "AIOOBE_FORMATTER", type := (.object "java/util/function/BiFunction"), accessFlags := 25, slot := 1, constantValue := 0 }, { name := "IOOBE_FORMATTER", type := (.object "java/util/function/BiFunction"), accessFlags := 25, slot := 2, constantValue := 0 }]
  methods := #[k12m0]
  instanceTypes := #[]
  staticTypes := #[(.object "java/util/function/BiFunction"), (.object "java/util/function/BiFunction"), (.object "java/util/function/BiFunction")]
  resolved := Array.replicate 194 none
  statics := some 1 }

def pool13 : Array CpInfo := pool [(9, u "<init>"), (6, .class_ 18), (1, u "java/lang/Object"), (0, u "()V"), (1, .class_ 23), (1, u "jdk/internal/util/ArraysSupport"), (0, u "LOG2_ARRAY_LONG_INDEX_SCALE"), (0, u "I"), (2, u "U"), (0, u "Ljdk/internal/misc/Unsafe;"), (8, u "BIG_ENDIAN"), (0, u "Z"), (8, u "LOG2_BYTE_BIT_SIZE"), (4, u "LOG2_ARRAY_INT_INDEX_SCALE"), (54, u "JLA"), (0, u "Ljdk/internal/access/JavaLangAccess;"), (11, u "LOG2_ARRAY_BOOLEAN_INDEX_SCALE"), (9, u "LOG2_ARRAY_BYTE_INDEX_SCALE"), (5, u "LOG2_ARRAY_CHAR_INDEX_SCALE"), (5, u "LOG2_ARRAY_SHORT_INDEX_SCALE"), (18, u "LOG2_ARRAY_FLOAT_INDEX_SCALE"), (24, u "LOG2_ARRAY_DOUBLE_INDEX_SCALE"), (89, u "T_BOOLEAN"), (2, u "T_CHAR"), (1, u "T_FLOAT"), (1, u "T_DOUBLE"), (1, u "T_BYTE"), (1, u "T_SHORT"), (1, u "T_INT"), (1, u "T_LONG"), (1, u "SOFT_MAX_ARRAY_LENGTH")] 83

def k13m0 : Method := { name := "<init>", desc := "()V", sig := { parameters := [], returnType := none }, accessFlags := 2, code := none }
/-- jdk/internal/util/ArraysSupport -/
def k13 : Class := { plain "jdk/internal/util/ArraysSupport" (some 0) with
  accessFlags := 33
  interfaces := #[]
  cf := some (fileOf pool13 21 #[] #[{ accessFlags := 2, nameIndex := 9, descriptorIndex := 19, attributes := #[] }] 33 16 #[] #[{ accessFlags := 24, nameIndex := 28, descriptorIndex := 29, attributes := #[] }, { accessFlags := 26, nameIndex := 38, descriptorIndex := 39, attributes := #[] }, { accessFlags := 25, nameIndex := 121, descriptorIndex := 25, attributes := #[] }, { accessFlags := 25, nameIndex := 131, descriptorIndex := 25, attributes := #[] }, { accessFlags := 25, nameIndex := 137, descriptorIndex := 25, attributes := #[] }, { accessFlags := 25, nameIndex := 143, descriptorIndex := 25, attributes := #[] }, { accessFlags := 25, nameIndex := 53, descriptorIndex := 25, attributes := #[] }, { accessFlags := 25, nameIndex := 24, descriptorIndex := 25, attributes := #[] }, { accessFlags := 25, nameIndex := 162, descriptorIndex := 25, attributes := #[] }, { accessFlags := 25, nameIndex := 187, descriptorIndex := 25, attributes := #[] }, { accessFlags := 26, nameIndex := 48, descriptorIndex := 25, attributes := #[] }, { accessFlags := 25, nameIndex := 277, descriptorIndex := 25, attributes := #[] }, { accessFlags := 25, nameIndex := 280, descriptorIndex := 25, attributes := #[] }, { accessFlags := 25, nameIndex := 282, descriptorIndex := 25, attributes := #[] }, { accessFlags := 25, nameIndex := 284, descriptorIndex := 25, attributes := #[] }, { accessFlags := 25, nameIndex := 286, descriptorIndex := 25, attributes := #[] }, { accessFlags := 25, nameIndex := 288, descriptorIndex := 25, attributes := #[] }, { accessFlags := 25, nameIndex := 290, descriptorIndex := 25, attributes := #[] }, { accessFlags := 25, nameIndex := 292, descriptorIndex := 25, attributes := #[] }, { accessFlags := 26, nameIndex := 108, descriptorIndex := 109, attributes := #[] }, { accessFlags := 25, nameIndex := 294, descriptorIndex := 25, attributes := #[] }])
  fields := #[{ name := "U", type := (.object "jdk/internal/misc/Unsafe"), accessFlags := 24, slot := 0, constantValue := 0 }, { name := "BIG_ENDIAN", type := .boolean, accessFlags := 26, slot := 1, constantValue := 0 }, { name := "LOG2_ARRAY_BOOLEAN_INDEX_SCALE", type := .int, accessFlags := 25, slot := 2, constantValue := 0 }, { name := "LOG2_ARRAY_BYTE_INDEX_SCALE", type := .int, accessFlags := 25, slot := 3, constantValue := 0 }, { name := "LOG2_ARRAY_CHAR_INDEX_SCALE", type := .int, accessFlags := 25, slot := 4, constantValue := 0 }, { name := "LOG2_ARRAY_SHORT_INDEX_SCALE", type := .int, accessFlags := 25, slot := 5, constantValue := 0 }, { name := "LOG2_ARRAY_INT_INDEX_SCALE", type := .int, accessFlags := 25, slot := 6, constantValue := 0 }, { name := "LOG2_ARRAY_LONG_INDEX_SCALE", type := .int, accessFlags := 25, slot := 7, constantValue := 0 }, { name := "LOG2_ARRAY_FLOAT_INDEX_SCALE", type := .int, accessFlags := 25, slot := 8, constantValue := 0 }, { name := "LOG2_ARRAY_DOUBLE_INDEX_SCALE", type := .int, accessFlags := 25, slot := 9, constantValue := 0 }, { name := "LOG2_BYTE_BIT_SIZE", type := .int, accessFlags := 26, slot := 10, constantValue := 0 }, { name := "T_BOOLEAN", type := .int, accessFlags := 25, slot := 11, constantValue := 0 }, { name := "T_CHAR", type := .int, accessFlags := 25, slot := 12, constantValue := 0 }, { name := "T_FLOAT", type := .int, accessFlags := 25, slot := 13, constantValue := 0 }, { name := "T_DOUBLE", type := .int, accessFlags := 25, slot := 14, constantValue := 0 }, { name := "T_BYTE", type := .int, accessFlags := 25, slot := 15, constantValue := 0 }, { name := "T_SHORT", type := .int, accessFlags := 25, slot := 16, constantValue := 0 }, { name := "T_INT", type := .int, accessFlags := 25, slot := 17, constantValue := 0 }, { name := "T_LONG", type := .int, accessFlags := 25, slot := 18, constantValue := 0 }, { name := "JLA", type := (.object "jdk/internal/access/JavaLangAccess"), accessFlags := 26, slot := 19, constantValue := 0 }, { name := "SOFT_MAX_ARRAY_LENGTH", type := .int, accessFlags := 25, slot := 20, constantValue := 0 }]
  methods := #[k13m0]
  instanceTypes := #[]
  staticTypes := #[(.object "jdk/internal/misc/Unsafe"), .boolean, .int, .int, .int, .int, .int, .int, .int, .int, .int, .int, .int, .int, .int, .int, .int, .int, .int, (.object "jdk/internal/access/JavaLangAccess"), .int]
  resolved := Array.replicate 378 none
  statics := none }

def pool14 : Array CpInfo := pool [(1, u "java/lang/Cloneable"), (0, .class_ 1), (0, u "java/lang/Object"), (0, .class_ 3)] 3

/-- java/lang/Cloneable -/
def k14 : Class := { plain "java/lang/Cloneable" (some 0) with
  accessFlags := 1537
  interfaces := #[]
  cf := some (fileOf pool14 2 #[] #[] 1537 4 #[] #[])
  fields := #[]
  methods := #[]
  instanceTypes := #[]
  staticTypes := #[]
  resolved := Array.replicate 8 none
  statics := none }

/-- the primitive byte -/
def k15 : Class := { plain "byte" none with kind := .primitive 'B', accessFlags := 0x411 }
/-- [B -/
def k16 : Class := { plain "[B" (some 0) with kind := .array 15 .byte, interfaces := #[14, 4], accessFlags := 1041 }

/-- the primitive char -/
def k17 : Class := { plain "char" none with kind := .primitive 'C', accessFlags := 0x411 }
/-- [C -/
def k18 : Class := { plain "[C" (some 0) with kind := .array 17 .char, interfaces := #[14, 4], accessFlags := 1041 }

/-- the primitive int -/
def k19 : Class := { plain "int" none with kind := .primitive 'I', accessFlags := 0x411 }
/-- [I -/
def k20 : Class := { plain "[I" (some 0) with kind := .array 19 .int, interfaces := #[14, 4], accessFlags := 1041 }

def heap : Heap := #[{ cls := 9, slots := #[.long 0, .int 1, .null, .int 0, .null, .int 0, .int 0], vm := .statics 9 },
  { cls := 12, slots := #[.null, .null, .null], vm := .statics 12 }]
def classes : Array Class := #[k0, k1, k2, k3, k4, k5, k6, k7, k8, k9, k10, k11, k12, k13, k14, k15, k16, k17, k18, k19, k20]
def interned : List (Array UInt16 × Addr) := []
def slotsUsed : Nat := 10
def theMethod : MethodId := ⟨1, 4⟩
def args0 : Array Value := #[.int 65601, .int 66, .int 131139, .int 65601, .int 66, .int 131139]
def aboutOver (below : List Frame) : State where
  vm := { classes := classes, interned := interned.toArray }
  heap := heap
  slotsUsed := slotsUsed
  threads := #[{ frames := .invoking theMethod args0 :: below }]
def below0 : List Frame := [.native { method := ⟨0, 0⟩, args := #[] }]
def about1 : State := aboutOver below0
def p0 : Program := .bare "" "" ""
def e0 : Env := launch0.env 0 0 0
theorem w_frames : about1.frames = Frame.invoking theMethod args0 :: below0 := rfl
set_option maxRecDepth 65536 in
theorem w_args : argsFit about1.vm theMethod args0 = true := by decide +kernel
set_option maxRecDepth 65536 in
theorem w_heap : heapFits about1 = true := by decide +kernel
set_option maxRecDepth 65536 in
theorem w_runnable : about1.curStatus? = some .runnable := by decide +kernel
set_option maxRecDepth 65536 in
theorem w_alone : about1.alone = true := by decide +kernel
set_option maxRecDepth 65536 in
theorem w_named : about1.methodNamed? x = some theMethod := by decide +kernel
set_option maxRecDepth 65536 in
theorem w_hears : about1.hears theMethod below0 = true := by decide +kernel
set_option maxRecDepth 65536 in
theorem w_ripe : about1.ripe theMethod args0 below0 = true := by decide +kernel
theorem w_running : about1.status = .running := rfl
set_option maxRecDepth 65536 in
theorem w_room : about1.hasRoom e0.platform room_1 = true :=
  launch0.hasRoom_least _ room_1 (by decide +kernel) (by decide +kernel) (by decide +kernel) (by decide +kernel) (by decide +kernel) (by decide +kernel)
theorem allAtoms_all (ts : List Jvm.Cond) (a : Array Jvm.Value) (st : Jvm.State) : (allAtoms ts).before a st = ts.all (fun c => c.before a st) := by
  induction ts with
  | nil => rfl
  | cons c t ih =>
    show (Jvm.Cond.and c (allAtoms t)).before a st = _
    rw [Jvm.Cond.before_and, ih, List.all_cons]
def words1 : List Jvm.Cond := Jvm.Cond.code x code maxLocals ret :: tables_1
/-- a 'code' word, met by the world's own term for the bytes: nothing is compared byte by byte -/
theorem code_word {y : MethodName} {bytes : ByteArray} {mx : Nat} {rt : Option FieldType} {a : Array Value} {s : State} {m : MethodId} {meth : Method} {c : Code} (h1 : s.methodNamed? y = some m) (h2 : s.vm.method? m = some meth) (h3 : meth.code = some c) (h4 : c.code = bytes)
    (h5 : (c.maxLocals == mx && c.exceptionTable.isEmpty && decide (c.maxStack ≤ mostOperands) && decide (meth.sig.returnType = rt) && !meth.locks && decide (parseMethodDescriptor y.desc = some meth.sig)) = true) : (Jvm.Cond.code y bytes mx rt).before a s = true := by
  simp only [Bool.and_eq_true, beq_iff_eq, Bool.not_eq_true', decide_eq_true_eq] at h5
  obtain ⟨⟨⟨⟨⟨g1, g2⟩, g3⟩, g4⟩, g5⟩, g6⟩ := h5
  simp [Cond.before, Cond.holds, Cond.value, h1, h2, h3, h4, g1, g2, g3, g4, g5, g6]
def isCode : Jvm.Cond → Bool
  | .code _ _ _ _ => true
  | _ => false
theorem all_split {L : List Jvm.Cond} {P : Jvm.Cond → Bool} (h1 : L.all (fun c => isCode c || P c) = true) (h2 : ∀ c ∈ L.filter isCode, P c = true) : L.all P = true := by
  refine List.all_eq_true.mpr fun c hc => ?_
  have h := List.all_eq_true.mp h1 c hc
  rcases Bool.eq_false_or_eq_true (isCode c) with hi | hi
  · exact h2 c (List.mem_filter.mpr ⟨hc, hi⟩)
  · simpa [hi] using h
set_option maxRecDepth 65536 in
theorem w_c0 : (Jvm.Cond.code x code maxLocals ret).before args0 about1 = true := code_word (m := ⟨1, 4⟩) (meth := k1m4) (c := k1c4) (by decide +kernel) rfl rfl rfl (by decide +kernel)
set_option maxRecDepth 65536 in
theorem w_c1 : (Jvm.Cond.code ({ cls := "com/example/assay_runner/assayrunner/report/BuildContinuesPinLaw", name := "str", desc := "(I)Ljava/lang/String;" } : Jvm.MethodName) method_3_code (5 : Nat) (Option.some (Jvm.ClassFile.FieldType.object "java/lang/String"))).before args0 about1 = true := code_word (m := ⟨1, 2⟩) (meth := k1m2) (c := k1c2) (by decide +kernel) rfl rfl rfl (by decide +kernel)
set_option maxRecDepth 65536 in
theorem w_c2 : (Jvm.Cond.code ({ cls := "com/example/assay_runner/assayrunner/report/BuildContinuesPinLaw", name := "len", desc := "(I)I" } : Jvm.MethodName) method_2_code (1 : Nat) (Option.some Jvm.ClassFile.FieldType.int)).before args0 about1 = true := code_word (m := ⟨1, 1⟩) (meth := k1m1) (c := k1c1) (by decide +kernel) rfl rfl rfl (by decide +kernel)
set_option maxRecDepth 65536 in
theorem w_c3 : (Jvm.Cond.code ({ cls := "com/example/assay_runner/assayrunner/report/Build", name := "<init>", desc := "(Ljava/lang/String;Ljava/lang/String;Ljava/lang/String;)V" } : Jvm.MethodName) prog_57_method_1_code (4 : Nat) (Option.none : Option Jvm.ClassFile.FieldType)).before args0 about1 = true := code_word (m := ⟨3, 0⟩) (meth := k3m0) (c := k3c0) (by decide +kernel) rfl rfl rfl (by decide +kernel)
set_option maxRecDepth 65536 in
theorem w_c4 : (Jvm.Cond.code ({ cls := "java/lang/Record", name := "<init>", desc := "()V" } : Jvm.MethodName) jdk_30_method_1_code (1 : Nat) (Option.none : Option Jvm.ClassFile.FieldType)).before args0 about1 = true := code_word (m := ⟨2, 0⟩) (meth := k2m0) (c := k2c0) (by decide +kernel) rfl rfl rfl (by decide +kernel)
set_option maxRecDepth 65536 in
theorem w_c5 : (Jvm.Cond.code ({ cls := "java/lang/Object", name := "<init>", desc := "()V" } : Jvm.MethodName) object_method_1_code (1 : Nat) (Option.none : Option Jvm.ClassFile.FieldType)).before args0 about1 = true := code_word (m := ⟨0, 0⟩) (meth := k0m0) (c := k0c0) (by decide +kernel) rfl rfl rfl (by decide +kernel)
set_option maxRecDepth 65536 in
theorem w_c6 : (Jvm.Cond.code ({ cls := "com/example/assay_runner/assayrunner/report/BuildContinuesPinLaw", name := "same", desc := "(II)Z" } : Jvm.MethodName) method_4_code (3 : Nat) (Option.some Jvm.ClassFile.FieldType.boolean)).before args0 about1 = true := code_word (m := ⟨1, 3⟩) (meth := k1m3) (c := k1c3) (by decide +kernel) rfl rfl rfl (by decide +kernel)
set_option maxRecDepth 65536 in
theorem w_c7 : (Jvm.Cond.code ({ cls := "com/example/assay_runner/assayrunner/report/Build", name := "continues", desc := "(Lcom/example/assay_runner/assayrunner/report/Build;)Z" } : Jvm.MethodName) prog_57_method_3_code (3 : Nat) (Option.some Jvm.ClassFile.FieldType.boolean)).before args0 about1 = true := code_word (m := ⟨3, 1⟩) (meth := k3m1) (c := k3c1) (by decide +kernel) rfl rfl rfl (by decide +kernel)
set_option maxRecDepth 65536 in
theorem w_c8 : (Jvm.Cond.code ({ cls := "com/example/assay_runner/assayrunner/report/Build", name := "jvm", desc := "()Ljava/lang/String;" } : Jvm.MethodName) prog_57_method_10_code (1 : Nat) (Option.some (Jvm.ClassFile.FieldType.object "java/lang/String"))).before args0 about1 = true := code_word (m := ⟨3, 2⟩) (meth := k3m2) (c := k3c2) (by decide +kernel) rfl rfl rfl (by decide +kernel)
set_option maxRecDepth 65536 in
theorem w_c9 : (Jvm.Cond.code ({ cls := "java/lang/String", name := "equals", desc := "(Ljava/lang/Object;)Z" } : Jvm.MethodName) jdk_42_method_66_code (3 : Nat) (Option.some Jvm.ClassFile.FieldType.boolean)).before args0 about1 = true := code_word (m := ⟨9, 3⟩) (meth := k9m3) (c := k9c3) (by decide +kernel) rfl rfl rfl (by decide +kernel)
set_option maxRecDepth 65536 in
theorem w_c10 : (Jvm.Cond.code ({ cls := "com/example/assay_runner/assayrunner/report/Build", name := "session", desc := "()Ljava/lang/String;" } : Jvm.MethodName) prog_57_method_11_code (1 : Nat) (Option.some (Jvm.ClassFile.FieldType.object "java/lang/String"))).before args0 about1 = true := code_word (m := ⟨3, 3⟩) (meth := k3m3) (c := k3c3) (by decide +kernel) rfl rfl rfl (by decide +kernel)
set_option maxRecDepth 65536 in
theorem w_c11 : (Jvm.Cond.code ({ cls := "java/lang/String", name := "valueOf", desc := "(C)Ljava/lang/String;" } : Jvm.MethodName) jdk_42_method_139_code (1 : Nat) (Option.some (Jvm.ClassFile.FieldType.object "java/lang/String"))).before args0 about1 = true := code_word (m := ⟨9, 4⟩) (meth := k9m4) (c := k9c4) (by decide +kernel) rfl rfl rfl (by decide +kernel)
set_option maxRecDepth 65536 in
theorem w_c12 : (Jvm.Cond.code ({ cls := "java/lang/StringLatin1", name := "canEncode", desc := "(C)Z" } : Jvm.MethodName) jdk_43_method_3_code (1 : Nat) (Option.some Jvm.ClassFile.FieldType.boolean)).before args0 about1 = true := code_word (m := ⟨10, 1⟩) (meth := k10m1) (c := k10c1) (by decide +kernel) rfl rfl rfl (by decide +kernel)
set_option maxRecDepth 65536 in
theorem w_c13 : (Jvm.Cond.code ({ cls := "java/lang/StringLatin1", name := "toBytes", desc := "(C)[B" } : Jvm.MethodName) jdk_43_method_46_code (1 : Nat) (Option.some (Jvm.ClassFile.FieldType.array Jvm.ClassFile.FieldType.byte))).before args0 about1 = true := code_word (m := ⟨10, 3⟩) (meth := k10m3) (c := k10c3) (by decide +kernel) rfl rfl rfl (by decide +kernel)
set_option maxRecDepth 65536 in
theorem w_c14 : (Jvm.Cond.code ({ cls := "java/lang/String", name := "<init>", desc := "([BB)V" } : Jvm.MethodName) jdk_42_method_151_code (3 : Nat) (Option.none : Option Jvm.ClassFile.FieldType)).before args0 about1 = true := code_word (m := ⟨9, 6⟩) (meth := k9m6) (c := k9c6) (by decide +kernel) rfl rfl rfl (by decide +kernel)
set_option maxRecDepth 65536 in
theorem w_c15 : (Jvm.Cond.code ({ cls := "java/lang/String", name := "<init>", desc := "([C)V" } : Jvm.MethodName) jdk_42_method_3_code (2 : Nat) (Option.none : Option Jvm.ClassFile.FieldType)).before args0 about1 = true := code_word (m := ⟨9, 1⟩) (meth := k9m1) (c := k9c1) (by decide +kernel) rfl rfl rfl (by decide +kernel)
set_option maxRecDepth 65536 in
theorem w_c16 : (Jvm.Cond.code ({ cls := "java/lang/String", name := "<init>", desc := "([CIILjava/lang/Void;)V" } : Jvm.MethodName) jdk_42_method_149_code (6 : Nat) (Option.none : Option Jvm.ClassFile.FieldType)).before args0 about1 = true := code_word (m := ⟨9, 5⟩) (meth := k9m5) (c := k9c5) (by decide +kernel) rfl rfl rfl (by decide +kernel)
set_option maxRecDepth 65536 in
theorem w_c17 : (Jvm.Cond.code ({ cls := "java/lang/StringUTF16", name := "compress", desc := "([CII)[B" } : Jvm.MethodName) jdk_52_method_16_code (6 : Nat) (Option.some (Jvm.ClassFile.FieldType.array Jvm.ClassFile.FieldType.byte))).before args0 about1 = true := code_word (m := ⟨11, 2⟩) (meth := k11m2) (c := k11c2) (by decide +kernel) rfl rfl rfl (by decide +kernel)
set_option maxRecDepth 65536 in
theorem w_c18 : (Jvm.Cond.code ({ cls := "java/lang/StringUTF16", name := "compress", desc := "([CI[BII)I" } : Jvm.MethodName) jdk_52_method_21_code (7 : Nat) (Option.some Jvm.ClassFile.FieldType.int)).before args0 about1 = true := code_word (m := ⟨11, 3⟩) (meth := k11m3) (c := k11c3) (by decide +kernel) rfl rfl rfl (by decide +kernel)
set_option maxRecDepth 65536 in
theorem w_c19 : (Jvm.Cond.code ({ cls := "java/lang/StringUTF16", name := "coderFromArrayLen", desc := "([BI)B" } : Jvm.MethodName) jdk_52_method_15_code (2 : Nat) (Option.some Jvm.ClassFile.FieldType.byte)).before args0 about1 = true := code_word (m := ⟨11, 1⟩) (meth := k11m1) (c := k11c1) (by decide +kernel) rfl rfl rfl (by decide +kernel)
set_option maxRecDepth 65536 in
theorem w_c20 : (Jvm.Cond.code ({ cls := "java/lang/StringLatin1", name := "equals", desc := "([B[B)Z" } : Jvm.MethodName) jdk_43_method_13_code (3 : Nat) (Option.some Jvm.ClassFile.FieldType.boolean)).before args0 about1 = true := code_word (m := ⟨10, 2⟩) (meth := k10m2) (c := k10c2) (by decide +kernel) rfl rfl rfl (by decide +kernel)
set_option maxRecDepth 65536 in
theorem w_c21 : (Jvm.Cond.code ({ cls := "java/lang/String", name := "isEmpty", desc := "()Z" } : Jvm.MethodName) jdk_42_method_55_code (1 : Nat) (Option.some Jvm.ClassFile.FieldType.boolean)).before args0 about1 = true := code_word (m := ⟨9, 2⟩) (meth := k9m2) (c := k9c2) (by decide +kernel) rfl rfl rfl (by decide +kernel)
set_option maxRecDepth 65536 in
theorem w_c22 : (Jvm.Cond.code ({ cls := "com/example/assay_runner/assayrunner/report/Build", name := "forkedBy", desc := "()Ljava/lang/String;" } : Jvm.MethodName) prog_57_method_12_code (1 : Nat) (Option.some (Jvm.ClassFile.FieldType.object "java/lang/String"))).before args0 about1 = true := code_word (m := ⟨3, 4⟩) (meth := k3m4) (c := k3c4) (by decide +kernel) rfl rfl rfl (by decide +kernel)
def codes1 : List Jvm.Cond := [Jvm.Cond.code x code maxLocals ret, Jvm.Cond.code ({ cls := "com/example/assay_runner/assayrunner/report/BuildContinuesPinLaw", name := "str", desc := "(I)Ljava/lang/String;" } : Jvm.MethodName) method_3_code (5 : Nat) (Option.some (Jvm.ClassFile.FieldType.object "java/lang/String")), Jvm.Cond.code ({ cls := "com/example/assay_runner/assayrunner/report/BuildContinuesPinLaw", name := "len", desc := "(I)I" } : Jvm.MethodName) method_2_code (1 : Nat) (Option.some Jvm.ClassFile.FieldType.int), Jvm.Cond.code ({ cls := "com/example/assay_runner/assayrunner/report/Build", name := "<init>", desc := "(Ljava/lang/String;Ljava/lang/String;Ljava/lang/String;)V" } : Jvm.MethodName) prog_57_method_1_code (4 : Nat) (Option.none : Option Jvm.ClassFile.FieldType), Jvm.Cond.code ({ cls := "java/lang/Record", name := "<init>", desc := "()V" } : Jvm.MethodName) jdk_30_method_1_code (1 : Nat) (Option.none : Option Jvm.ClassFile.FieldType), Jvm.Cond.code ({ cls := "java/lang/Object", name := "<init>", desc := "()V" } : Jvm.MethodName) object_method_1_code (1 : Nat) (Option.none : Option Jvm.ClassFile.FieldType), Jvm.Cond.code ({ cls := "com/example/assay_runner/assayrunner/report/BuildContinuesPinLaw", name := "same", desc := "(II)Z" } : Jvm.MethodName) method_4_code (3 : Nat) (Option.some Jvm.ClassFile.FieldType.boolean), Jvm.Cond.code ({ cls := "com/example/assay_runner/assayrunner/report/Build", name := "continues", desc := "(Lcom/example/assay_runner/assayrunner/report/Build;)Z" } : Jvm.MethodName) prog_57_method_3_code (3 : Nat) (Option.some Jvm.ClassFile.FieldType.boolean), Jvm.Cond.code ({ cls := "com/example/assay_runner/assayrunner/report/Build", name := "jvm", desc := "()Ljava/lang/String;" } : Jvm.MethodName) prog_57_method_10_code (1 : Nat) (Option.some (Jvm.ClassFile.FieldType.object "java/lang/String")), Jvm.Cond.code ({ cls := "java/lang/String", name := "equals", desc := "(Ljava/lang/Object;)Z" } : Jvm.MethodName) jdk_42_method_66_code (3 : Nat) (Option.some Jvm.ClassFile.FieldType.boolean), Jvm.Cond.code ({ cls := "com/example/assay_runner/assayrunner/report/Build", name := "session", desc := "()Ljava/lang/String;" } : Jvm.MethodName) prog_57_method_11_code (1 : Nat) (Option.some (Jvm.ClassFile.FieldType.object "java/lang/String")), Jvm.Cond.code ({ cls := "java/lang/String", name := "valueOf", desc := "(C)Ljava/lang/String;" } : Jvm.MethodName) jdk_42_method_139_code (1 : Nat) (Option.some (Jvm.ClassFile.FieldType.object "java/lang/String")), Jvm.Cond.code ({ cls := "java/lang/StringLatin1", name := "canEncode", desc := "(C)Z" } : Jvm.MethodName) jdk_43_method_3_code (1 : Nat) (Option.some Jvm.ClassFile.FieldType.boolean), Jvm.Cond.code ({ cls := "java/lang/StringLatin1", name := "toBytes", desc := "(C)[B" } : Jvm.MethodName) jdk_43_method_46_code (1 : Nat) (Option.some (Jvm.ClassFile.FieldType.array Jvm.ClassFile.FieldType.byte)), Jvm.Cond.code ({ cls := "java/lang/String", name := "<init>", desc := "([BB)V" } : Jvm.MethodName) jdk_42_method_151_code (3 : Nat) (Option.none : Option Jvm.ClassFile.FieldType), Jvm.Cond.code ({ cls := "java/lang/String", name := "<init>", desc := "([C)V" } : Jvm.MethodName) jdk_42_method_3_code (2 : Nat) (Option.none : Option Jvm.ClassFile.FieldType), Jvm.Cond.code ({ cls := "java/lang/String", name := "<init>", desc := "([CIILjava/lang/Void;)V" } : Jvm.MethodName) jdk_42_method_149_code (6 : Nat) (Option.none : Option Jvm.ClassFile.FieldType), Jvm.Cond.code ({ cls := "java/lang/StringUTF16", name := "compress", desc := "([CII)[B" } : Jvm.MethodName) jdk_52_method_16_code (6 : Nat) (Option.some (Jvm.ClassFile.FieldType.array Jvm.ClassFile.FieldType.byte)), Jvm.Cond.code ({ cls := "java/lang/StringUTF16", name := "compress", desc := "([CI[BII)I" } : Jvm.MethodName) jdk_52_method_21_code (7 : Nat) (Option.some Jvm.ClassFile.FieldType.int), Jvm.Cond.code ({ cls := "java/lang/StringUTF16", name := "coderFromArrayLen", desc := "([BI)B" } : Jvm.MethodName) jdk_52_method_15_code (2 : Nat) (Option.some Jvm.ClassFile.FieldType.byte), Jvm.Cond.code ({ cls := "java/lang/StringLatin1", name := "equals", desc := "([B[B)Z" } : Jvm.MethodName) jdk_43_method_13_code (3 : Nat) (Option.some Jvm.ClassFile.FieldType.boolean), Jvm.Cond.code ({ cls := "java/lang/String", name := "isEmpty", desc := "()Z" } : Jvm.MethodName) jdk_42_method_55_code (1 : Nat) (Option.some Jvm.ClassFile.FieldType.boolean), Jvm.Cond.code ({ cls := "com/example/assay_runner/assayrunner/report/Build", name := "forkedBy", desc := "()Ljava/lang/String;" } : Jvm.MethodName) prog_57_method_12_code (1 : Nat) (Option.some (Jvm.ClassFile.FieldType.object "java/lang/String"))]
set_option maxRecDepth 65536 in
theorem codes_eq : words1.filter isCode = codes1 := rfl
theorem w_codes : ∀ c ∈ words1.filter isCode, c.before args0 about1 = true := by
  rw [codes_eq]
  intro c hc
  simp only [codes1, List.mem_cons, List.not_mem_nil, or_false] at hc
  rcases hc with rfl | rfl | rfl | rfl | rfl | rfl | rfl | rfl | rfl | rfl | rfl | rfl | rfl | rfl | rfl | rfl | rfl | rfl | rfl | rfl | rfl | rfl | rfl
  · exact w_c0
  · exact w_c1
  · exact w_c2
  · exact w_c3
  · exact w_c4
  · exact w_c5
  · exact w_c6
  · exact w_c7
  · exact w_c8
  · exact w_c9
  · exact w_c10
  · exact w_c11
  · exact w_c12
  · exact w_c13
  · exact w_c14
  · exact w_c15
  · exact w_c16
  · exact w_c17
  · exact w_c18
  · exact w_c19
  · exact w_c20
  · exact w_c21
  · exact w_c22
set_option maxRecDepth 65536 in
theorem w_t1 : (words1.take 24).all (fun c => isCode c || c.before args0 about1) = true := by decide +kernel
set_option maxRecDepth 65536 in
theorem w_t2 : ((words1.drop 24).take 24).all (fun c => isCode c || c.before args0 about1) = true := by decide +kernel
set_option maxRecDepth 65536 in
theorem w_t3 : (((words1.drop 24).drop 24).take 24).all (fun c => isCode c || c.before args0 about1) = true := by decide +kernel
set_option maxRecDepth 65536 in
theorem w_t4 : ((((words1.drop 24).drop 24).drop 24).take 24).all (fun c => isCode c || c.before args0 about1) = true := by decide +kernel
set_option maxRecDepth 65536 in
theorem w_t5 : ((((words1.drop 24).drop 24).drop 24).drop 24).all (fun c => isCode c || c.before args0 about1) = true := by decide +kernel
theorem w_tables : (allAtoms (Jvm.Cond.code x code maxLocals ret :: tables_1)).before args0 about1 = true := by
  rw [allAtoms_all]
  show words1.all (fun c => c.before args0 about1) = true
  refine all_split ?_ w_codes
  rw [← List.take_append_drop 24 words1, List.all_append, w_t1, ← List.take_append_drop 24 (words1.drop 24), List.all_append, w_t2, ← List.take_append_drop 24 ((words1.drop 24).drop 24), List.all_append, w_t3, ← List.take_append_drop 24 (((words1.drop 24).drop 24).drop 24), List.all_append, w_t4, w_t5]
  rfl
set_option maxRecDepth 65536 in
theorem w_rest : rest_1_c.before args0 about1 = true := by decide +kernel
set_option maxRecDepth 65536 in
theorem w_case : (Jvm.Cond.and given_1 narrow_1).before args0 about1 = true := by decide +kernel
set_option maxRecDepth 65536 in
theorem w_consts : constsHeld consts_1 about1 := Jvm.Lit.constsHeldB_iff.mp (by decide +kernel)
theorem w_applies : (headSpec (Jvm.Cond.code x code maxLocals ret :: tables_1) room_1).applies x e0.platform about1 = true :=
  (Spec.applies_iff w_frames).mpr ⟨w_running, w_runnable, w_alone, w_named, w_hears, w_ripe, w_room, w_tables⟩
theorem atStart : AtStart classFile x code maxLocals ret World_1 tables_1 room_1 Calls_1 rest_1 Pre_1 launch0 p0 e0 about1 theMethod args0 below0 :=
  ⟨lists_1, trivial, launch0.admits_env _ _ _, launch0.least_env, fairChoices_fair.cas, fairChoices_fair.clock, w_frames, w_args, w_heap, w_applies, ⟨w_consts, trivial⟩, w_rest, w_case⟩
end start1
theorem witness_1 : WitnessClaimed_1 := ⟨start1.p0, start1.e0, start1.about1, start1.theMethod, start1.args0, start1.below0, start1.atStart⟩
end Jvm.Pilot.@@N@@
