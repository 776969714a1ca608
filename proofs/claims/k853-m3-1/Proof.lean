import JvmDerived
import JvmDerived.Pilot.@@N@@Statement
import JvmDerived.Pilot.@@N@@Code
set_option linter.unusedVariables false
set_option linter.unusedSimpArgs false
namespace Jvm.Pilot.@@N@@
open Jvm Jvm.ClassFile Sem Op Lib Jvm.Free Jvm.Stand Jvm.LawKit Jvm.RoadKit Bundle Jvm.Pilot.@@N@@.Jvm.D
section Own
variable {p : Program} {l : Launch} {e : Env} {R : Room} {s : State} {m : MethodId} {args : Array Value} {below : List Frame} {meth : Method} {c : Code} {T : State} {locs : List Loc} {cells slots : Nat} {Z : State} {a0 : Array Value} {h : Heap} {Q : Option Value → Heap → List Loc → Prop} {kc kn : Nat}
/-- from S the method comes to its end, and what it leaves answers to Q -/
def own_Ends (p : Program) (e : Env) (below : List Frame) (s : State) (Q : Option Value → Heap → List Loc → Prop) (kc kn : Nat) (S : State) : Prop :=
  ∃ s₂ o, Steps p.tables e below S s₂ ∧ s₂.status = .running ∧ Ended s₂ below o ∧ ∃ v L, o = .returned v ∧ Q v s₂.heap L ∧ FrameEnd s o s₂ L kc kn
theorem own_pre {S S' : State} (st : ∀ t, Steps p.tables e below S' t → Steps p.tables e below S t) (k : own_Ends p e below s Q kc kn S') : own_Ends p e below s Q kc kn S := by
  obtain ⟨s₂, o, h1, r⟩ := k
  exact ⟨s₂, o, st _ h1, r⟩
theorem own_ret (X : Stand p l e R s m args below meth c T locs cells slots) (hx : p.tables.exec = Jvm.exec) (hlk : meth.locks = false) {pc : Nat} {Ls : Array Slot} {w : Value} {t : FieldType} {i : Instr} {rest : List Value} (hret : meth.sig.returnType = some t) (hn : narrow t w = w)
    (hi : (i = .ireturn ∧ (t = .int ∨ t = .boolean ∨ t = .byte ∨ t = .char ∨ t = .short) ∧ ∃ z, w = .int z) ∨ (i = .lreturn ∧ t = .long ∧ ∃ z, w = .long z) ∨ (i = .dreturn ∧ t = .double ∧ ∃ z, w = .double z) ∨ (i = .freturn ∧ t = .float ∧ ∃ z, w = .float z) ∨ (i = .areturn ∧ t.isReference = true ∧ w.isRef = true))
    (hd : decode c.code pc = .ok (i, 1)) (h1 : cells ≤ kc) (h2 : slots ≤ kn) (hQ : Q (some w) T.heap locs) : own_Ends p e below s Q kc kn (T.setTop (mkF m pc Ls (w :: rest))) := by
  obtain ⟨fs, hr, hrun, hended, hW, hsame⟩ := X.leave (v := some w) (fun h => by rw [hret] at h; cases h) hlk
  exact ⟨_, _, retOut X hx hret hn hi hd hr, hrun, hended, _, _, rfl, hQ, ⟨_, rfl⟩, hW, hsame.mono h1 h2⟩
theorem own_retV (X : Stand p l e R s m args below meth c T locs cells slots) (hx : p.tables.exec = Jvm.exec) (hlk : meth.locks = false) {pc : Nat} {Ls : Array Slot} (hret : meth.sig.returnType = none)
    (hd : decode c.code pc = .ok (.return_, 1)) (h1 : cells ≤ kc) (h2 : slots ≤ kn) (hQ : Q none T.heap locs) : own_Ends p e below s Q kc kn (T.setTop (mkF m pc Ls [])) := by
  obtain ⟨fs, hr, hrun, hended, hW, hsame⟩ := X.leave (v := none) (fun _ => rfl) hlk
  exact ⟨_, _, X.returnOut hx hret hd hr, hrun, hended, _, _, rfl, hQ, ⟨_, rfl⟩, hW, hsame.mono h1 h2⟩
/-- a contract: called with these arguments over this heap it returns, and Q says what it left -/
abbrev own_Met (l : Launch) (Z : State) (y : MethodName) (bytes : ByteArray) (maxL : Nat) (ret : Option FieldType) (ws : List Jvm.Cond) (rm : Room) (as' : Array Value) (h0 : Heap) (Q : Option Value → Heap → List Loc → Prop) : Prop :=
  MetFree l y (head1 (Jvm.Cond.code y bytes maxL ret :: ws) rm) (fun a U => a = as' ∧ Z.Warmed39 U.vm ∧ U.heap = h0) (fun _ _ _ _ _ => True) (fun _ U o U' => ∃ v L, o = .returned v ∧ Q v U'.heap L ∧ FrameEnd U o U' L rm.cells rm.slots)
theorem own_body {y : MethodName} {bytes : ByteArray} {maxL : Nat} {ret : Option FieldType} {ws : List Jvm.Cond} {rm : Room} {as' : Array Value} {h0 : Heap} (pn : plainFor y = true) (F : MethodId → JFrame) (hF : ∀ m, entryFrame m as' maxL = F m)
    (body : ∀ (p : Program) (e : Env) (s : State) (m : MethodId) (below : List Frame) (meth : Method) (c : Code) (T : State), p.tables.exec = Jvm.exec → c.code = bytes → c.maxLocals = maxL → meth.locks = false → meth.sig.returnType = ret → Z.Warmed39 s.vm → s.vm.findClass y.cls = some m.cls → meth.name = y.name →
      Stand p l e rm s m as' below meth c T [] 0 0 → T.heap = h0 → own_Ends p e below s Q rm.cells rm.slots (T.setTop (F m))) : own_Met l Z y bytes maxL ret ws rm as' h0 Q := by
  refine MetFree.of_bodySF pn hisR ?_
  intro p e s m args below meth c s₁ Bd hml0 hP hK
  obtain ⟨rfl, hZ, hh⟩ := hP
  have := body p e s m below meth c s₁ Bd.exec Bd.bytes hml0 (BodyLoose.notSynchronized Bd) Bd.returns hZ (findClass_of_methodNamed Bd.named) (name_of_methodNamed Bd.named Bd.method).1 (Stand.of_body Bd) (by rw [← hh, Bd.state]; rfl)
  rw [← hF m] at this
  exact this
theorem own_callS (X : Stand p l e R s m args below meth c T locs cells slots) (hx : p.tables.exec = Jvm.exec) (hZ : Z.Warmed39 s.vm) {own : String} {index : Nat} {y : MethodName} {bytes : ByteArray} {maxL : Nat} {ret : Option FieldType} {rm : Room} {Qc : Option Value → Heap → List Loc → Prop}
    (hown : s.vm.findClass own = some m.cls) (w1 : (Cond.methodLink own index y).before a0 Z = true) (w2 : (Cond.static y).before a0 Z = true) (w3 : (Cond.initialized y.cls).before a0 Z = true) (w4 : (Cond.code y bytes maxL ret).before a0 Z = true)
    (hy : y.cls ≠ "java/lang/invoke/MethodHandle" ∧ y.cls ≠ "java/lang/invoke/VarHandle") (eT : T.heap = h) {argsL rest st0 : List Value} (hM : own_Met l Z y bytes maxL ret [] rm argsL.toArray h Qc) {W pc : Nat} {Ls : Array Slot}
    (hsz : Ls.size = c.maxLocals) (hlen : ∀ sig, parseMethodDescriptor y.desc = some sig → argsL.length = sig.parameters.length) (hst : st0 = argsL.reverse ++ rest) (hW : (rest.map fun v => v.category).sum ≤ W) (hd : decode c.code pc = .ok (.invokestatic index, 3))
    (hf : rm.frames + 1 ≤ R.frames) (hl : W + (maxL + 11) + rm.locals ≤ R.locals) (hc : cells + rm.cells ≤ R.cells) (hs : slots + rm.slots ≤ R.slots)
    (k : ∀ v T' L, Stand p l e R s m args below meth c T' (locs ++ L) (cells + rm.cells) (slots + rm.slots) → Qc v T'.heap L → own_Ends p e below s Q kc kn (T'.setTop (mkF m (pc + 3) Ls (v.toList ++ rest)))) :
    own_Ends p e below s Q kc kn (T.setTop (mkF m pc Ls st0)) := by
  obtain ⟨v, _, ⟨T', L', k', n'⟩, -, X', ⟨Lc, hQ, l1, y1, z1⟩, st⟩ := Jvm.LawKit.callS X hx (y := y) hown (mvT hZ w1) (mvT hZ w2) (mvT hZ w3) (mvT hZ w4) hy (backOf (W := W) hM hZ w4 w3 hf hl) (g := mkF m pc Ls st0) rfl hsz (argsL := argsL) (rest := rest) hlen hst (by show 2 * 0 + _ ≤ _; simpa using hW) hd (fun _ _ => ⟨rfl, eT, hc, hs⟩)
  dsimp only [Pt.U, Pt.locs, Pt.cells, Pt.slots] at X' l1 y1 z1 st hQ
  subst l1 y1 z1
  exact own_pre st (k v T' Lc X' hQ)
theorem own_callI (X : Stand p l e R s m args below meth c T locs cells slots) (hx : p.tables.exec = Jvm.exec) (hZ : Z.Warmed39 s.vm) {own : String} {index : Nat} {y : MethodName} {bytes : ByteArray} {maxL : Nat} {rm : Room} {Qc : Option Value → Heap → List Loc → Prop} {b : Addr}
    (hown : s.vm.findClass own = some m.cls) (hy1 : y.name = "<init>") (w1 : (Cond.methodLink own index y).before a0 Z = true) (w2 : (Cond.instanceMethod y).before a0 Z = true) (w4 : (Cond.code y bytes maxL none).before a0 Z = true) (w3 : (Cond.initialized y.cls).before a0 Z = true)
    (hy : y.cls ≠ "java/lang/invoke/MethodHandle" ∧ y.cls ≠ "java/lang/invoke/VarHandle") (eT : T.heap = h) {argsL rest st0 : List Value} (hM : own_Met l Z y bytes maxL none [] rm (.ref b :: argsL).toArray h Qc) {W pc : Nat} {Ls : Array Slot}
    (hsz : Ls.size = c.maxLocals) (hlen : ∀ sig, parseMethodDescriptor y.desc = some sig → argsL.length = sig.parameters.length) (hst : st0 = argsL.reverse ++ .ref b :: rest) (hW : (rest.map fun v => v.category).sum ≤ W) (hd : decode c.code pc = .ok (.invokespecial index, 3))
    (hf : rm.frames + 1 ≤ R.frames) (hl : W + (maxL + 11) + rm.locals ≤ R.locals) (hc : cells + rm.cells ≤ R.cells) (hs : slots + rm.slots ≤ R.slots)
    (k : ∀ v T' L, Stand p l e R s m args below meth c T' (locs ++ L) (cells + rm.cells) (slots + rm.slots) → Qc v T'.heap L → own_Ends p e below s Q kc kn (T'.setTop (mkF m (pc + 3) Ls (v.toList ++ rest)))) :
    own_Ends p e below s Q kc kn (T.setTop (mkF m pc Ls st0)) := by
  obtain ⟨v, _, ⟨T', L', k', n'⟩, -, X', ⟨Lc, hQ, l1, y1, z1⟩, st⟩ := X.specialBack hx (y := y) hy1 hown (mvT hZ w1) (mvT hZ w2) (mvT hZ w4) hy (backOf (W := W) hM hZ w4 w3 hf hl) (g := mkF m pc Ls st0) rfl hsz (Steps.refl _) (a := b) (argsL := argsL) (rest := rest) hlen hst (by show 2 * 0 + _ ≤ _; simpa using hW) hd (fun _ _ => ⟨rfl, eT, hc, hs⟩)
  dsimp only [Pt.U, Pt.locs, Pt.cells, Pt.slots] at X' l1 y1 z1 st hQ
  subst l1 y1 z1
  exact own_pre (fun t k => st.trans k) (k v T' Lc X' hQ)
theorem own_callV (X : Stand p l e R s m args below meth c T locs cells slots) (hx : p.tables.exec = Jvm.exec) (hZ : Z.Warmed39 s.vm) {own C : String} {index : Nat} {y : MethodName} {bytes : ByteArray} {maxL : Nat} {ret : Option FieldType} {rm : Room} {Qc : Option Value → Heap → List Loc → Prop} {b : Addr}
    (hown : s.vm.findClass own = some m.cls) (w1 : (Cond.methodLink own index y).before a0 Z = true) (w2 : (Cond.declares y).before a0 Z = true) (w3 : (Cond.selects C y y).before a0 Z = true) (w4 : (Cond.instanceMethod y).before a0 Z = true) (w5 : (Cond.code y bytes maxL ret).before a0 Z = true) (w6 : (Cond.initialized y.cls).before a0 Z = true)
    (hy : y.cls ≠ "java/lang/invoke/MethodHandle" ∧ y.cls ≠ "java/lang/invoke/VarHandle") (eT : T.heap = h) (E : Exa Z h b C) {argsL rest st0 : List Value} (hM : own_Met l Z y bytes maxL ret [] rm (.ref b :: argsL).toArray h Qc) {W pc : Nat} {Ls : Array Slot}
    (hsz : Ls.size = c.maxLocals) (hlen : ∀ sig, parseMethodDescriptor y.desc = some sig → argsL.length = sig.parameters.length) (hst : st0 = argsL.reverse ++ .ref b :: rest) (hW : (rest.map fun v => v.category).sum ≤ W) (hd : decode c.code pc = .ok (.invokevirtual index, 3))
    (hf : rm.frames + 1 ≤ R.frames) (hl : W + (maxL + 11) + rm.locals ≤ R.locals) (hc : cells + rm.cells ≤ R.cells) (hs : slots + rm.slots ≤ R.slots)
    (k : ∀ v T' L, Stand p l e R s m args below meth c T' (locs ++ L) (cells + rm.cells) (slots + rm.slots) → Qc v T'.heap L → own_Ends p e below s Q kc kn (T'.setTop (mkF m (pc + 3) Ls (v.toList ++ rest)))) :
    own_Ends p e below s Q kc kn (T.setTop (mkF m pc Ls st0)) := by
  obtain ⟨cq, kq, qa, qb, qc⟩ := isOf hZ eT E
  obtain ⟨v, _, ⟨T', L', k', n'⟩, -, X', ⟨Lc, hQ, l1, y1, z1⟩, st⟩ := X.virtualBack hx (y := y) (z := y) hown (mvT hZ w1) (mvT hZ w2) (notFace_of_selects (args := #[]) (mvT hZ w3)) (mvT hZ w3) (mvT hZ w4) hy (backOf (W := W) hM hZ w5 w6 hf hl) qa qc (g := mkF m pc Ls st0) rfl hsz (Steps.refl _) (argsL := argsL) (rest := rest) hlen hst (by show 2 * 0 + _ ≤ _; simpa using hW) hd (fun _ _ => ⟨rfl, eT, hc, hs⟩)
  dsimp only [Pt.U, Pt.locs, Pt.cells, Pt.slots] at X' l1 y1 z1 st hQ
  subst l1 y1 z1
  exact own_pre (fun t k => st.trans k) (k v T' Lc X' hQ)
theorem own_eqi {t : Term} {k : Int32} {args : Array Value} {s : State} (h : (Jvm.Cond.eq t (Term.int k)).value args s none s [] = some true) : t.eval args s none [] s = some (.int k) := by
  obtain ⟨x, y, h1, h2, -, h3⟩ := cmp_v (Or.inl h)
  have h4 : y = .int k := (Option.some.inj ((Term.int_eval k).symm.trans h2)).symm
  subst h4
  obtain ⟨z, rfl⟩ := h3
  have h5 : (Jvm.Cond.eq t (Term.int k)).value args s none s [] = some (decide (z = k)) := by simp [Cond.value, h1, h2]
  rw [h1, gotT h5 h]
theorem own_fieldOf {t : Term} {C n d : String} {k : Int32} {a : Addr} {args : Array Value} {s : State} (ht : t.eval args s none [] s = some (.ref a)) (h : (Jvm.Cond.eq (Term.field t C n d) (Term.int k)).value args s none s [] = some true) : Fld s s.heap a C n d (.int k) :=
  Fld.start ((fld_at ht).symm.trans (own_eqi h))
theorem own_st1 {Ls Ls' : Array Slot} {k : Nat} {o : Slot} {v : Value} (hold : Ls[k]? = some o) (ho : One o) (hv : v.category = 1) (he : Ls.setIfInBounds k (.val v) = Ls') : storeLocals Ls k v = some Ls' := he ▸ XS.store1 hold ho hv
theorem own_catV {v : Value} (hv : v.isRef = true) : v.category = 1 := by rcases ref_cases hv with rfl | ⟨_, rfl⟩ <;> rfl
theorem own_narV {v : Value} {t : FieldType} (hv : v.isRef = true) (ht : t.isReference = true) : narrow t v = v := by
  rcases ref_cases hv with rfl | ⟨_, rfl⟩ <;> cases t <;> first | rfl | (cases ht; done)
theorem own_narC {x : Int32} (h : 0 ≤ x.toInt ∧ x.toInt ≤ 65535) : nar .char x = x := by
  have q := c_i2c x
  rw [← Int32.toInt_inj]
  show (x.toUInt32.toUInt16.toUInt32.toInt32).toInt = x.toInt
  omega
theorem own_narZ {x : Int32} (h : x = 0 ∨ x = 1) : narrow .boolean (.int x) = .int x := by rcases h with rfl | rfl <;> rfl
def own_plain (h : Heap) (x : Addr) : Prop := ∃ c : Cell, h[x]? = some c ∧ c.vm.isStatics = false
theorem own_plainE {a : Addr} {C : String} (F : Exa Z h a C) : own_plain h a := by obtain ⟨c, k, h1, -, -, h4, -⟩ := F; exact ⟨c, h1, h4⟩
theorem own_sta_keep {h' : Heap} {ws : List Addr} {C n d : String} {v : Value} (F : Sta Z h C n d v) (K : Keep h h' ws) (q : ∀ x ∈ ws, own_plain h x) : Sta Z h' C n d v := by
  obtain ⟨cf, i, k, f, st, cell, h1, h2, h3, h4, h5, h6, h7⟩ := F
  refine ⟨cf, i, k, f, st, cell, h1, h2, h3, h4, K.2.1 _ _ h5 fun y => ?_, h6, h7⟩
  obtain ⟨c, z1, z2⟩ := q _ y
  cases h5.symm.trans z1
  rw [z2] at h6; cases h6
end Own
theorem own_d1_0 : decode prog_61_method_4_code 0 = .ok (.aload_n 0, 1) := by decide +kernel
theorem own_d1_1 : decode prog_61_method_4_code 1 = .ok (.getstatic 3, 3) := by decide +kernel
theorem own_d1_4 : decode prog_61_method_4_code 4 = .ok (.if_acmp .eq 14, 3) := by decide +kernel
theorem own_d1_7 : decode prog_61_method_4_code 7 = .ok (.aload_n 0, 1) := by decide +kernel
theorem own_d1_8 : decode prog_61_method_4_code 8 = .ok (.getstatic 19, 3) := by decide +kernel
theorem own_d1_11 : decode prog_61_method_4_code 11 = .ok (.if_acmp .eq 7, 3) := by decide +kernel
theorem own_d1_14 : decode prog_61_method_4_code 14 = .ok (.iconst 1, 1) := by decide +kernel
theorem own_d1_15 : decode prog_61_method_4_code 15 = .ok (.goto 4, 3) := by decide +kernel
theorem own_d1_18 : decode prog_61_method_4_code 18 = .ok (.iconst 0, 1) := by decide +kernel
theorem own_d1_19 : decode prog_61_method_4_code 19 = .ok (.ireturn, 1) := by decide +kernel
theorem own_pn0 : plainFor (⟨"com/example/bidsmith/bidsmith/market/SearcherState", "searches", "()Z"⟩ : MethodName) = true := by first | exact plainFor_of_name (by first | (simp [plainName, overriddenIn]; done) | decide +kernel) | decide +kernel
theorem own_pn1 : plainFor (⟨"com/example/bidsmith/bidsmith/market/SearcherStateSearchesPinLaw", "law", "(I)Z"⟩ : MethodName) = true := by first | exact plainFor_of_name (by first | (simp [plainName, overriddenIn]; done) | decide +kernel) | decide +kernel
theorem own_pd0 : parseMethodDescriptor "()Z" = some ⟨[], some .boolean⟩ := by decide +kernel
theorem own_ef_own_sea (m : MethodId) (x0 : Addr) : entryFrame m #[(.ref x0)] 1 = mkF m 0 #[.val (.ref x0)] [] := by first | (simp [entryFrame, mkF, argsToLocals, Value.category]; done) | rfl
theorem own_ef_own_law (m : MethodId) (x0 : Int32) : entryFrame m #[(.int x0)] maxLocals = mkF m 0 #[.val (.int x0), .unset, .unset, .unset] [] := by first | (simp [entryFrame, mkF, argsToLocals, Value.category, maxLocals]; done) | rfl
set_option maxRecDepth 65536 in
set_option maxHeartbeats 40000000 in
theorem own_sea (l : Launch) (Z : State) (a0 : Array Value) (hw : ∀ d ∈ tables_1, d.before a0 Z = true) (ws : List Jvm.Cond) (a aNS aT : Addr) (r : Int32) (h0 : Heap) (n0 : Nat) (Z0 : n0 ≤ h0.size) (hr : (if a = aNS then (0 : Int32) else if a = aT then 0 else 1) = r) (S_NS : Sta Z h0 "com/example/bidsmith/bidsmith/market/SearcherState" "NS" "Lcom/example/bidsmith/bidsmith/market/SearcherState;" (.ref aNS)) (S_T : Sta Z h0 "com/example/bidsmith/bidsmith/market/SearcherState" "T" "Lcom/example/bidsmith/bidsmith/market/SearcherState;" (.ref aT)) :
    own_Met l Z (⟨"com/example/bidsmith/bidsmith/market/SearcherState", "searches", "()Z"⟩ : MethodName) prog_61_method_4_code 1 (some .boolean) ws ({ frames := 0, cells := 0, slots := 0, locals := 0 } : Room) #[(.ref a)] h0 (fun v h L => v = some (.int r) ∧ Fr n0 L ∧ h = h0) := by
  refine own_body own_pn0 (fun m => mkF m 0 #[.val (.ref a)] []) (fun m => own_ef_own_sea m a) ?_
  intro p e s m below meth c T0 hx hby hml hlk hrt hZ hown hnm X0 e0
  have hown : s.vm.findClass "com/example/bidsmith/bidsmith/market/SearcherState" = some m.cls := hown
  have N0 := Fr.nil n0
  refine own_pre (S' := (T0.setTop (mkF m 1 #[.val (.ref a)] [(.ref a)]))) (fun tt_ kk_ => XS.aloadN X0.here hx rfl (hb hby own_d1_0) rfl rfl kk_) ?_
  obtain ⟨T1, X1, e1, st1⟩ := getS2 X0 hx hZ hown (host := "") (Or.inl (hw _ (List.mem_of_getElem? (i := 9) rfl))) Via.refl e0 S_NS (g := (mkF m 1 #[.val (.ref a)] [(.ref a)])) rfl (hb hby own_d1_1)
  refine own_pre (S' := (T1.setTop (mkF m 4 #[.val (.ref a)] [(.ref aNS), (.ref a)]))) st1 ?_
  by_cases c4 : a = aNS
  · -- pc 4
    refine own_pre (S' := (T1.setTop (mkF m 18 #[.val (.ref a)] []))) (fun tt_ kk_ => Jvm.RoadKit.acmp (g := (mkF m 4 #[.val (.ref a)] [(.ref aNS), (.ref a)])) X1 hx rfl rfl rfl (pc0 := 4) (pc' := 18) (same := true) rfl (hb hby own_d1_4) rfl (decide_eq_true (congrArg Value.ref c4)) (by decide) (by decide) kk_) ?_
    refine own_pre (S' := (T1.setTop (mkF m 19 #[.val (.ref a)] [(.int (0 : Int32))]))) (fun tt_ kk_ => XS.iconst X1.here hx rfl (hb hby own_d1_18) kk_) ?_
    refine own_ret (t := .boolean) X1 hx hlk hrt rfl (Or.inl ⟨rfl, by simp, _, rfl⟩) (hb hby own_d1_19) (by decide) (by decide) ?_
    exact ⟨by rw [← hr]; simp [c4], N0, e1⟩
  · -- pc 4
    refine own_pre (S' := (T1.setTop (mkF m 7 #[.val (.ref a)] []))) (fun tt_ kk_ => Jvm.RoadKit.acmp (g := (mkF m 4 #[.val (.ref a)] [(.ref aNS), (.ref a)])) X1 hx rfl rfl rfl (pc0 := 4) (pc' := 7) (same := false) rfl (hb hby own_d1_4) rfl (decide_eq_false fun q => c4 (Value.ref.inj q)) (by decide) (by decide) kk_) ?_
    refine own_pre (S' := (T1.setTop (mkF m 8 #[.val (.ref a)] [(.ref a)]))) (fun tt_ kk_ => XS.aloadN X1.here hx rfl (hb hby own_d1_7) rfl rfl kk_) ?_
    obtain ⟨T2, X2, e2, st2⟩ := getS2 X1 hx hZ hown (host := "") (Or.inl (hw _ (List.mem_of_getElem? (i := 12) rfl))) Via.refl e1 S_T (g := (mkF m 8 #[.val (.ref a)] [(.ref a)])) rfl (hb hby own_d1_8)
    refine own_pre (S' := (T2.setTop (mkF m 11 #[.val (.ref a)] [(.ref aT), (.ref a)]))) st2 ?_
    by_cases c11 : a = aT
    · -- pc 11
      refine own_pre (S' := (T2.setTop (mkF m 18 #[.val (.ref a)] []))) (fun tt_ kk_ => Jvm.RoadKit.acmp (g := (mkF m 11 #[.val (.ref a)] [(.ref aT), (.ref a)])) X2 hx rfl rfl rfl (pc0 := 11) (pc' := 18) (same := true) rfl (hb hby own_d1_11) rfl (decide_eq_true (congrArg Value.ref c11)) (by decide) (by decide) kk_) ?_
      refine own_pre (S' := (T2.setTop (mkF m 19 #[.val (.ref a)] [(.int (0 : Int32))]))) (fun tt_ kk_ => XS.iconst X2.here hx rfl (hb hby own_d1_18) kk_) ?_
      refine own_ret (t := .boolean) X2 hx hlk hrt rfl (Or.inl ⟨rfl, by simp, _, rfl⟩) (hb hby own_d1_19) (by decide) (by decide) ?_
      exact ⟨by rw [← hr]; simp [c4, c11], N0, e2⟩
    · -- pc 11
      refine own_pre (S' := (T2.setTop (mkF m 14 #[.val (.ref a)] []))) (fun tt_ kk_ => Jvm.RoadKit.acmp (g := (mkF m 11 #[.val (.ref a)] [(.ref aT), (.ref a)])) X2 hx rfl rfl rfl (pc0 := 11) (pc' := 14) (same := false) rfl (hb hby own_d1_11) rfl (decide_eq_false fun q => c11 (Value.ref.inj q)) (by decide) (by decide) kk_) ?_
      refine own_pre (S' := (T2.setTop (mkF m 15 #[.val (.ref a)] [(.int (1 : Int32))]))) (fun tt_ kk_ => XS.iconst X2.here hx rfl (hb hby own_d1_14) kk_) ?_
      refine own_pre (S' := (T2.setTop (mkF m 19 #[.val (.ref a)] [(.int (1 : Int32))]))) (fun tt_ kk_ => XS.goto X2.here hx rfl (pc0 := 15) (pc' := 19) rfl (hb hby own_d1_15) (by decide) (by decide) kk_) ?_
      refine own_ret (t := .boolean) X2 hx hlk hrt rfl (Or.inl ⟨rfl, by simp, _, rfl⟩) (hb hby own_d1_19) (by decide) (by decide) ?_
      exact ⟨by rw [← hr]; simp [c4, c11], N0, e2⟩
set_option maxRecDepth 65536 in
set_option maxHeartbeats 40000000 in
theorem own_law (l : Launch) (Z : State) (a0 : Array Value) (hw : ∀ d ∈ tables_1, d.before a0 Z = true) (ws : List Jvm.Cond) (i0 : Int32) (a_NS : Addr) (a_F1 : Addr) (a_T : Addr) (a_F0 : Addr) (a_IS : Addr) (a_F2 : Addr) (h0 : Heap) (n0 : Nat) (Z0 : n0 ≤ h0.size) (S_NS : Sta Z h0 "com/example/bidsmith/bidsmith/market/SearcherState" "NS" "Lcom/example/bidsmith/bidsmith/market/SearcherState;" (.ref a_NS)) (E_NS : Exa Z h0 a_NS "com/example/bidsmith/bidsmith/market/SearcherState") (S_F1 : Sta Z h0 "com/example/bidsmith/bidsmith/market/SearcherState" "F1" "Lcom/example/bidsmith/bidsmith/market/SearcherState;" (.ref a_F1)) (E_F1 : Exa Z h0 a_F1 "com/example/bidsmith/bidsmith/market/SearcherState") (S_T : Sta Z h0 "com/example/bidsmith/bidsmith/market/SearcherState" "T" "Lcom/example/bidsmith/bidsmith/market/SearcherState;" (.ref a_T)) (E_T : Exa Z h0 a_T "com/example/bidsmith/bidsmith/market/SearcherState") (S_F0 : Sta Z h0 "com/example/bidsmith/bidsmith/market/SearcherState" "F0" "Lcom/example/bidsmith/bidsmith/market/SearcherState;" (.ref a_F0)) (E_F0 : Exa Z h0 a_F0 "com/example/bidsmith/bidsmith/market/SearcherState") (S_IS : Sta Z h0 "com/example/bidsmith/bidsmith/market/SearcherState" "IS" "Lcom/example/bidsmith/bidsmith/market/SearcherState;" (.ref a_IS)) (E_IS : Exa Z h0 a_IS "com/example/bidsmith/bidsmith/market/SearcherState") (S_F2 : Sta Z h0 "com/example/bidsmith/bidsmith/market/SearcherState" "F2" "Lcom/example/bidsmith/bidsmith/market/SearcherState;" (.ref a_F2)) (E_F2 : Exa Z h0 a_F2 "com/example/bidsmith/bidsmith/market/SearcherState") (ne_NS_F1 : a_NS ≠ a_F1) (ne_NS_T : a_NS ≠ a_T) (ne_NS_F0 : a_NS ≠ a_F0) (ne_NS_IS : a_NS ≠ a_IS) (ne_NS_F2 : a_NS ≠ a_F2) (ne_F1_T : a_F1 ≠ a_T) (ne_F1_F0 : a_F1 ≠ a_F0) (ne_F1_IS : a_F1 ≠ a_IS) (ne_F1_F2 : a_F1 ≠ a_F2) (ne_T_F0 : a_T ≠ a_F0) (ne_T_IS : a_T ≠ a_IS) (ne_T_F2 : a_T ≠ a_F2) (ne_F0_IS : a_F0 ≠ a_IS) (ne_F0_F2 : a_F0 ≠ a_F2) (ne_IS_F2 : a_IS ≠ a_F2) :
    own_Met l Z x code maxLocals ret ws room_1 #[(.int i0)] h0 (fun v h L => v = some (.int 1) ∧ Fr n0 L) := by
  refine own_body own_pn1 (fun m => mkF m 0 #[.val (.int i0), .unset, .unset, .unset] []) (fun m => own_ef_own_law m i0) ?_
  intro p e s m below meth c T0 hx hby hml hlk hrt hZ hown hnm X0 e0
  have hown : s.vm.findClass "com/example/bidsmith/bidsmith/market/SearcherStateSearchesPinLaw" = some m.cls := hown
  have N0 := Fr.nil n0
  refine own_pre (S' := (T0.setTop (mkF m 1 #[.val (.int i0), .unset, .unset, .unset] [(.int i0)]))) (fun tt_ kk_ => XS.iloadN X0.here hx rfl (hb hby at_0) rfl kk_) ?_
  refine own_pre (S' := (T0.setTop (mkF m 3 #[.val (.int i0), .unset, .unset, .unset] [(.int (2147483647 : Int32)), (.int i0)]))) (X0.ldcInt hx hown (mvT hZ (hw _ (List.mem_of_getElem? (i := 0) rfl))) (g := (mkF m 1 #[.val (.int i0), .unset, .unset, .unset] [(.int i0)])) rfl (hb hby at_1)) ?_
  refine own_pre (S' := (T0.setTop (mkF m 4 #[.val (.int i0), .unset, .unset, .unset] [(.int (i0 &&& (2147483647 : Int32)))]))) (fun tt_ kk_ => XS.iand X0.here hx rfl (hb hby at_3) rfl kk_) ?_
  refine own_pre (S' := (T0.setTop (mkF m 6 #[.val (.int i0), .unset, .unset, .unset] [(.int (6 : Int32)), (.int (i0 &&& (2147483647 : Int32)))]))) (fun tt_ kk_ => XS.bipush X0.here hx rfl (hb hby at_4) kk_) ?_
  refine own_pre (S' := (T0.setTop (mkF m 7 #[.val (.int i0), .unset, .unset, .unset] [(.int ((i0 &&& (2147483647 : Int32)) % (6 : Int32)))]))) (fun tt_ kk_ => iremM X0 hx rfl (hb hby at_6) rfl (by decide) kk_) ?_
  generalize hk : ((i0 &&& (2147483647 : Int32)) % (6 : Int32)) = k
  refine own_pre (S' := (T0.setTop (mkF m 8 #[.val (.int i0), .val (.int k), .unset, .unset] []))) (fun tt_ kk_ => XS.istoreN X0.here hx rfl (hb hby at_7) rfl (l' := #[.val (.int i0), .val (.int k), .unset, .unset]) rfl kk_) ?_
  refine own_pre (S' := (T0.setTop (mkF m 9 #[.val (.int i0), .val (.int k), .unset, .unset] [(.int k)]))) (fun tt_ kk_ => XS.iloadN X0.here hx rfl (hb hby at_8) rfl kk_) ?_
  by_cases c9 : k = (0 : Int32)
  · -- pc 9: k = (0 : Int32)
    refine own_pre (S' := (T0.setTop (mkF m 12 #[.val (.int i0), .val (.int k), .unset, .unset] []))) (fun tt_ kk_ => XS.ifNo X0.here hx rfl (hb hby at_9) rfl ((if0 _ _).trans (teq c9).2) kk_) ?_
    obtain ⟨T1, X1, e1, st1⟩ := getS2 X0 hx hZ hown (host := "") (Or.inl (hw _ (List.mem_of_getElem? (i := 1) rfl))) Via.refl e0 S_NS (g := (mkF m 12 #[.val (.int i0), .val (.int k), .unset, .unset] [])) rfl (hb hby at_12)
    refine own_pre (S' := (T1.setTop (mkF m 15 #[.val (.int i0), .val (.int k), .unset, .unset] [(.ref a_NS)]))) st1 ?_
    refine own_pre (S' := (T1.setTop (mkF m 16 #[.val (.int i0), .val (.int k), .val (.ref a_NS), .unset] []))) (fun tt_ kk_ => XS.astoreN X1.here hx rfl (hb hby at_15) rfl rfl (l' := #[.val (.int i0), .val (.int k), .val (.ref a_NS), .unset]) rfl kk_) ?_
    refine own_pre (S' := (T1.setTop (mkF m 17 #[.val (.int i0), .val (.int k), .val (.ref a_NS), .unset] [(.int (0 : Int32))]))) (fun tt_ kk_ => XS.iconst X1.here hx rfl (hb hby at_16) kk_) ?_
    refine own_pre (S' := (T1.setTop (mkF m 18 #[.val (.int i0), .val (.int k), .val (.ref a_NS), .val (.int (0 : Int32))] []))) (fun tt_ kk_ => XS.istoreN X1.here hx rfl (hb hby at_17) rfl (l' := #[.val (.int i0), .val (.int k), .val (.ref a_NS), .val (.int (0 : Int32))]) rfl kk_) ?_
    refine own_pre (S' := (T1.setTop (mkF m 83 #[.val (.int i0), .val (.int k), .val (.ref a_NS), .val (.int (0 : Int32))] []))) (fun tt_ kk_ => XS.goto X1.here hx rfl (pc0 := 18) (pc' := 83) rfl (hb hby at_18) (by decide) (by decide) kk_) ?_
    refine own_pre (S' := (T1.setTop (mkF m 84 #[.val (.int i0), .val (.int k), .val (.ref a_NS), .val (.int (0 : Int32))] [(.ref a_NS)]))) (fun tt_ kk_ => XS.aloadN X1.here hx rfl (hb hby at_83) rfl rfl kk_) ?_
    refine own_callV (C := "com/example/bidsmith/bidsmith/market/SearcherState") (y := (⟨"com/example/bidsmith/bidsmith/market/SearcherState", "searches", "()Z"⟩ : MethodName)) (b := a_NS) X1 hx hZ hown (hw _ (List.mem_of_getElem? (i := 4) rfl)) (hw _ (List.mem_of_getElem? (i := 5) rfl)) (hw _ (List.mem_of_getElem? (i := 7) rfl)) (hw _ (List.mem_of_getElem? (i := 6) rfl)) (hw _ (List.mem_of_getElem? (i := 8) rfl)) (hw _ (List.mem_of_getElem? (i := 2) rfl)) (by decide) e1 E_NS (hM := own_sea l Z a0 hw [] a_NS a_NS a_T (0 : Int32) h0 n0 Z0 (if_pos rfl) S_NS S_T) (W := 0) (pc := 84) (Ls := #[.val (.int i0), .val (.int k), .val (.ref a_NS), .val (.int (0 : Int32))]) (argsL := []) (rest := []) (st0 := [(.ref a_NS)]) (by rw [hml]; rfl) (lenOf own_pd0 rfl) rfl (Nat.le_of_eq rfl) (hb hby at_84) (by decide) (by decide) (by decide) (by decide) ?_
    intro v2 T2 L2 X2 hQ2
    obtain ⟨rfl, Nq2, hh2⟩ := hQ2
    have N2 := Fr.app N0 Nq2
    show own_Ends p e below s _ _ _ (T2.setTop (mkF m 87 #[.val (.int i0), .val (.int k), .val (.ref a_NS), .val (.int (0 : Int32))] [(.int (0 : Int32))]))
    refine own_pre (S' := (T2.setTop (mkF m 88 #[.val (.int i0), .val (.int k), .val (.ref a_NS), .val (.int (0 : Int32))] [(.int (0 : Int32)), (.int (0 : Int32))]))) (fun tt_ kk_ => XS.iloadN X2.here hx rfl (hb hby at_87) rfl kk_) ?_
    refine own_pre (S' := (T2.setTop (mkF m 91 #[.val (.int i0), .val (.int k), .val (.ref a_NS), .val (.int (0 : Int32))] []))) (fun tt_ kk_ => XS.icmpNo X2.here hx rfl (hb hby at_88) rfl (teq (by decide : ((0 : Int32) = (0 : Int32)))).2 kk_) ?_
    refine own_pre (S' := (T2.setTop (mkF m 92 #[.val (.int i0), .val (.int k), .val (.ref a_NS), .val (.int (0 : Int32))] [(.int (1 : Int32))]))) (fun tt_ kk_ => XS.iconst X2.here hx rfl (hb hby at_91) kk_) ?_
    refine own_pre (S' := (T2.setTop (mkF m 96 #[.val (.int i0), .val (.int k), .val (.ref a_NS), .val (.int (0 : Int32))] [(.int (1 : Int32))]))) (fun tt_ kk_ => XS.goto X2.here hx rfl (pc0 := 92) (pc' := 96) rfl (hb hby at_92) (by decide) (by decide) kk_) ?_
    refine own_ret (t := .boolean) X2 hx hlk hrt rfl (Or.inl ⟨rfl, by simp, _, rfl⟩) (hb hby at_96) (by decide) (by decide) ?_
    exact ⟨rfl, N2⟩
  · -- pc 9: not k = (0 : Int32)
    refine own_pre (S' := (T0.setTop (mkF m 21 #[.val (.int i0), .val (.int k), .unset, .unset] []))) (fun tt_ kk_ => XS.ifYes X0.here hx rfl (pc0 := 9) (pc' := 21) rfl (hb hby at_9) rfl ((if0 _ _).trans (feq c9).2) (by decide) (by decide) kk_) ?_
    refine own_pre (S' := (T0.setTop (mkF m 22 #[.val (.int i0), .val (.int k), .unset, .unset] [(.int k)]))) (fun tt_ kk_ => XS.iloadN X0.here hx rfl (hb hby at_21) rfl kk_) ?_
    refine own_pre (S' := (T0.setTop (mkF m 23 #[.val (.int i0), .val (.int k), .unset, .unset] [(.int (1 : Int32)), (.int k)]))) (fun tt_ kk_ => XS.iconst X0.here hx rfl (hb hby at_22) kk_) ?_
    by_cases c23 : k = (1 : Int32)
    · -- pc 23: k = (1 : Int32)
      refine own_pre (S' := (T0.setTop (mkF m 26 #[.val (.int i0), .val (.int k), .unset, .unset] []))) (fun tt_ kk_ => XS.icmpNo X0.here hx rfl (hb hby at_23) rfl (teq c23).2 kk_) ?_
      obtain ⟨T3, X3, e3, st3⟩ := getS2 X0 hx hZ hown (host := "") (Or.inl (hw _ (List.mem_of_getElem? (i := 16) rfl))) Via.refl e0 S_IS (g := (mkF m 26 #[.val (.int i0), .val (.int k), .unset, .unset] [])) rfl (hb hby at_26)
      refine own_pre (S' := (T3.setTop (mkF m 29 #[.val (.int i0), .val (.int k), .unset, .unset] [(.ref a_IS)]))) st3 ?_
      refine own_pre (S' := (T3.setTop (mkF m 30 #[.val (.int i0), .val (.int k), .val (.ref a_IS), .unset] []))) (fun tt_ kk_ => XS.astoreN X3.here hx rfl (hb hby at_29) rfl rfl (l' := #[.val (.int i0), .val (.int k), .val (.ref a_IS), .unset]) rfl kk_) ?_
      refine own_pre (S' := (T3.setTop (mkF m 31 #[.val (.int i0), .val (.int k), .val (.ref a_IS), .unset] [(.int (1 : Int32))]))) (fun tt_ kk_ => XS.iconst X3.here hx rfl (hb hby at_30) kk_) ?_
      refine own_pre (S' := (T3.setTop (mkF m 32 #[.val (.int i0), .val (.int k), .val (.ref a_IS), .val (.int (1 : Int32))] []))) (fun tt_ kk_ => XS.istoreN X3.here hx rfl (hb hby at_31) rfl (l' := #[.val (.int i0), .val (.int k), .val (.ref a_IS), .val (.int (1 : Int32))]) rfl kk_) ?_
      refine own_pre (S' := (T3.setTop (mkF m 83 #[.val (.int i0), .val (.int k), .val (.ref a_IS), .val (.int (1 : Int32))] []))) (fun tt_ kk_ => XS.goto X3.here hx rfl (pc0 := 32) (pc' := 83) rfl (hb hby at_32) (by decide) (by decide) kk_) ?_
      refine own_pre (S' := (T3.setTop (mkF m 84 #[.val (.int i0), .val (.int k), .val (.ref a_IS), .val (.int (1 : Int32))] [(.ref a_IS)]))) (fun tt_ kk_ => XS.aloadN X3.here hx rfl (hb hby at_83) rfl rfl kk_) ?_
      refine own_callV (C := "com/example/bidsmith/bidsmith/market/SearcherState") (y := (⟨"com/example/bidsmith/bidsmith/market/SearcherState", "searches", "()Z"⟩ : MethodName)) (b := a_IS) X3 hx hZ hown (hw _ (List.mem_of_getElem? (i := 4) rfl)) (hw _ (List.mem_of_getElem? (i := 5) rfl)) (hw _ (List.mem_of_getElem? (i := 7) rfl)) (hw _ (List.mem_of_getElem? (i := 6) rfl)) (hw _ (List.mem_of_getElem? (i := 8) rfl)) (hw _ (List.mem_of_getElem? (i := 2) rfl)) (by decide) e3 E_IS (hM := own_sea l Z a0 hw [] a_IS a_NS a_T (1 : Int32) h0 n0 Z0 ((if_neg (Ne.symm ne_NS_IS)).trans (if_neg (Ne.symm ne_T_IS))) S_NS S_T) (W := 0) (pc := 84) (Ls := #[.val (.int i0), .val (.int k), .val (.ref a_IS), .val (.int (1 : Int32))]) (argsL := []) (rest := []) (st0 := [(.ref a_IS)]) (by rw [hml]; rfl) (lenOf own_pd0 rfl) rfl (Nat.le_of_eq rfl) (hb hby at_84) (by decide) (by decide) (by decide) (by decide) ?_
      intro v4 T4 L4 X4 hQ4
      obtain ⟨rfl, Nq4, hh4⟩ := hQ4
      have N4 := Fr.app N0 Nq4
      show own_Ends p e below s _ _ _ (T4.setTop (mkF m 87 #[.val (.int i0), .val (.int k), .val (.ref a_IS), .val (.int (1 : Int32))] [(.int (1 : Int32))]))
      refine own_pre (S' := (T4.setTop (mkF m 88 #[.val (.int i0), .val (.int k), .val (.ref a_IS), .val (.int (1 : Int32))] [(.int (1 : Int32)), (.int (1 : Int32))]))) (fun tt_ kk_ => XS.iloadN X4.here hx rfl (hb hby at_87) rfl kk_) ?_
      refine own_pre (S' := (T4.setTop (mkF m 91 #[.val (.int i0), .val (.int k), .val (.ref a_IS), .val (.int (1 : Int32))] []))) (fun tt_ kk_ => XS.icmpNo X4.here hx rfl (hb hby at_88) rfl (teq (by decide : ((1 : Int32) = (1 : Int32)))).2 kk_) ?_
      refine own_pre (S' := (T4.setTop (mkF m 92 #[.val (.int i0), .val (.int k), .val (.ref a_IS), .val (.int (1 : Int32))] [(.int (1 : Int32))]))) (fun tt_ kk_ => XS.iconst X4.here hx rfl (hb hby at_91) kk_) ?_
      refine own_pre (S' := (T4.setTop (mkF m 96 #[.val (.int i0), .val (.int k), .val (.ref a_IS), .val (.int (1 : Int32))] [(.int (1 : Int32))]))) (fun tt_ kk_ => XS.goto X4.here hx rfl (pc0 := 92) (pc' := 96) rfl (hb hby at_92) (by decide) (by decide) kk_) ?_
      refine own_ret (t := .boolean) X4 hx hlk hrt rfl (Or.inl ⟨rfl, by simp, _, rfl⟩) (hb hby at_96) (by decide) (by decide) ?_
      exact ⟨rfl, N4⟩
    · -- pc 23: not k = (1 : Int32)
      refine own_pre (S' := (T0.setTop (mkF m 35 #[.val (.int i0), .val (.int k), .unset, .unset] []))) (fun tt_ kk_ => XS.icmpYes X0.here hx rfl (pc0 := 23) (pc' := 35) rfl (hb hby at_23) rfl (feq c23).2 (by decide) (by decide) kk_) ?_
      refine own_pre (S' := (T0.setTop (mkF m 36 #[.val (.int i0), .val (.int k), .unset, .unset] [(.int k)]))) (fun tt_ kk_ => XS.iloadN X0.here hx rfl (hb hby at_35) rfl kk_) ?_
      refine own_pre (S' := (T0.setTop (mkF m 37 #[.val (.int i0), .val (.int k), .unset, .unset] [(.int (2 : Int32)), (.int k)]))) (fun tt_ kk_ => XS.iconst X0.here hx rfl (hb hby at_36) kk_) ?_
      by_cases c37 : k = (2 : Int32)
      · -- pc 37: k = (2 : Int32)
        refine own_pre (S' := (T0.setTop (mkF m 40 #[.val (.int i0), .val (.int k), .unset, .unset] []))) (fun tt_ kk_ => XS.icmpNo X0.here hx rfl (hb hby at_37) rfl (teq c37).2 kk_) ?_
        obtain ⟨T5, X5, e5, st5⟩ := getS2 X0 hx hZ hown (host := "") (Or.inl (hw _ (List.mem_of_getElem? (i := 14) rfl))) Via.refl e0 S_F0 (g := (mkF m 40 #[.val (.int i0), .val (.int k), .unset, .unset] [])) rfl (hb hby at_40)
        refine own_pre (S' := (T5.setTop (mkF m 43 #[.val (.int i0), .val (.int k), .unset, .unset] [(.ref a_F0)]))) st5 ?_
        refine own_pre (S' := (T5.setTop (mkF m 44 #[.val (.int i0), .val (.int k), .val (.ref a_F0), .unset] []))) (fun tt_ kk_ => XS.astoreN X5.here hx rfl (hb hby at_43) rfl rfl (l' := #[.val (.int i0), .val (.int k), .val (.ref a_F0), .unset]) rfl kk_) ?_
        refine own_pre (S' := (T5.setTop (mkF m 45 #[.val (.int i0), .val (.int k), .val (.ref a_F0), .unset] [(.int (1 : Int32))]))) (fun tt_ kk_ => XS.iconst X5.here hx rfl (hb hby at_44) kk_) ?_
        refine own_pre (S' := (T5.setTop (mkF m 46 #[.val (.int i0), .val (.int k), .val (.ref a_F0), .val (.int (1 : Int32))] []))) (fun tt_ kk_ => XS.istoreN X5.here hx rfl (hb hby at_45) rfl (l' := #[.val (.int i0), .val (.int k), .val (.ref a_F0), .val (.int (1 : Int32))]) rfl kk_) ?_
        refine own_pre (S' := (T5.setTop (mkF m 83 #[.val (.int i0), .val (.int k), .val (.ref a_F0), .val (.int (1 : Int32))] []))) (fun tt_ kk_ => XS.goto X5.here hx rfl (pc0 := 46) (pc' := 83) rfl (hb hby at_46) (by decide) (by decide) kk_) ?_
        refine own_pre (S' := (T5.setTop (mkF m 84 #[.val (.int i0), .val (.int k), .val (.ref a_F0), .val (.int (1 : Int32))] [(.ref a_F0)]))) (fun tt_ kk_ => XS.aloadN X5.here hx rfl (hb hby at_83) rfl rfl kk_) ?_
        refine own_callV (C := "com/example/bidsmith/bidsmith/market/SearcherState") (y := (⟨"com/example/bidsmith/bidsmith/market/SearcherState", "searches", "()Z"⟩ : MethodName)) (b := a_F0) X5 hx hZ hown (hw _ (List.mem_of_getElem? (i := 4) rfl)) (hw _ (List.mem_of_getElem? (i := 5) rfl)) (hw _ (List.mem_of_getElem? (i := 7) rfl)) (hw _ (List.mem_of_getElem? (i := 6) rfl)) (hw _ (List.mem_of_getElem? (i := 8) rfl)) (hw _ (List.mem_of_getElem? (i := 2) rfl)) (by decide) e5 E_F0 (hM := own_sea l Z a0 hw [] a_F0 a_NS a_T (1 : Int32) h0 n0 Z0 ((if_neg (Ne.symm ne_NS_F0)).trans (if_neg (Ne.symm ne_T_F0))) S_NS S_T) (W := 0) (pc := 84) (Ls := #[.val (.int i0), .val (.int k), .val (.ref a_F0), .val (.int (1 : Int32))]) (argsL := []) (rest := []) (st0 := [(.ref a_F0)]) (by rw [hml]; rfl) (lenOf own_pd0 rfl) rfl (Nat.le_of_eq rfl) (hb hby at_84) (by decide) (by decide) (by decide) (by decide) ?_
        intro v6 T6 L6 X6 hQ6
        obtain ⟨rfl, Nq6, hh6⟩ := hQ6
        have N6 := Fr.app N0 Nq6
        show own_Ends p e below s _ _ _ (T6.setTop (mkF m 87 #[.val (.int i0), .val (.int k), .val (.ref a_F0), .val (.int (1 : Int32))] [(.int (1 : Int32))]))
        refine own_pre (S' := (T6.setTop (mkF m 88 #[.val (.int i0), .val (.int k), .val (.ref a_F0), .val (.int (1 : Int32))] [(.int (1 : Int32)), (.int (1 : Int32))]))) (fun tt_ kk_ => XS.iloadN X6.here hx rfl (hb hby at_87) rfl kk_) ?_
        refine own_pre (S' := (T6.setTop (mkF m 91 #[.val (.int i0), .val (.int k), .val (.ref a_F0), .val (.int (1 : Int32))] []))) (fun tt_ kk_ => XS.icmpNo X6.here hx rfl (hb hby at_88) rfl (teq (by decide : ((1 : Int32) = (1 : Int32)))).2 kk_) ?_
        refine own_pre (S' := (T6.setTop (mkF m 92 #[.val (.int i0), .val (.int k), .val (.ref a_F0), .val (.int (1 : Int32))] [(.int (1 : Int32))]))) (fun tt_ kk_ => XS.iconst X6.here hx rfl (hb hby at_91) kk_) ?_
        refine own_pre (S' := (T6.setTop (mkF m 96 #[.val (.int i0), .val (.int k), .val (.ref a_F0), .val (.int (1 : Int32))] [(.int (1 : Int32))]))) (fun tt_ kk_ => XS.goto X6.here hx rfl (pc0 := 92) (pc' := 96) rfl (hb hby at_92) (by decide) (by decide) kk_) ?_
        refine own_ret (t := .boolean) X6 hx hlk hrt rfl (Or.inl ⟨rfl, by simp, _, rfl⟩) (hb hby at_96) (by decide) (by decide) ?_
        exact ⟨rfl, N6⟩
      · -- pc 37: not k = (2 : Int32)
        refine own_pre (S' := (T0.setTop (mkF m 49 #[.val (.int i0), .val (.int k), .unset, .unset] []))) (fun tt_ kk_ => XS.icmpYes X0.here hx rfl (pc0 := 37) (pc' := 49) rfl (hb hby at_37) rfl (feq c37).2 (by decide) (by decide) kk_) ?_
        refine own_pre (S' := (T0.setTop (mkF m 50 #[.val (.int i0), .val (.int k), .unset, .unset] [(.int k)]))) (fun tt_ kk_ => XS.iloadN X0.here hx rfl (hb hby at_49) rfl kk_) ?_
        refine own_pre (S' := (T0.setTop (mkF m 51 #[.val (.int i0), .val (.int k), .unset, .unset] [(.int (3 : Int32)), (.int k)]))) (fun tt_ kk_ => XS.iconst X0.here hx rfl (hb hby at_50) kk_) ?_
        by_cases c51 : k = (3 : Int32)
        · -- pc 51: k = (3 : Int32)
          refine own_pre (S' := (T0.setTop (mkF m 54 #[.val (.int i0), .val (.int k), .unset, .unset] []))) (fun tt_ kk_ => XS.icmpNo X0.here hx rfl (hb hby at_51) rfl (teq c51).2 kk_) ?_
          obtain ⟨T7, X7, e7, st7⟩ := getS2 X0 hx hZ hown (host := "") (Or.inl (hw _ (List.mem_of_getElem? (i := 10) rfl))) Via.refl e0 S_F1 (g := (mkF m 54 #[.val (.int i0), .val (.int k), .unset, .unset] [])) rfl (hb hby at_54)
          refine own_pre (S' := (T7.setTop (mkF m 57 #[.val (.int i0), .val (.int k), .unset, .unset] [(.ref a_F1)]))) st7 ?_
          refine own_pre (S' := (T7.setTop (mkF m 58 #[.val (.int i0), .val (.int k), .val (.ref a_F1), .unset] []))) (fun tt_ kk_ => XS.astoreN X7.here hx rfl (hb hby at_57) rfl rfl (l' := #[.val (.int i0), .val (.int k), .val (.ref a_F1), .unset]) rfl kk_) ?_
          refine own_pre (S' := (T7.setTop (mkF m 59 #[.val (.int i0), .val (.int k), .val (.ref a_F1), .unset] [(.int (1 : Int32))]))) (fun tt_ kk_ => XS.iconst X7.here hx rfl (hb hby at_58) kk_) ?_
          refine own_pre (S' := (T7.setTop (mkF m 60 #[.val (.int i0), .val (.int k), .val (.ref a_F1), .val (.int (1 : Int32))] []))) (fun tt_ kk_ => XS.istoreN X7.here hx rfl (hb hby at_59) rfl (l' := #[.val (.int i0), .val (.int k), .val (.ref a_F1), .val (.int (1 : Int32))]) rfl kk_) ?_
          refine own_pre (S' := (T7.setTop (mkF m 83 #[.val (.int i0), .val (.int k), .val (.ref a_F1), .val (.int (1 : Int32))] []))) (fun tt_ kk_ => XS.goto X7.here hx rfl (pc0 := 60) (pc' := 83) rfl (hb hby at_60) (by decide) (by decide) kk_) ?_
          refine own_pre (S' := (T7.setTop (mkF m 84 #[.val (.int i0), .val (.int k), .val (.ref a_F1), .val (.int (1 : Int32))] [(.ref a_F1)]))) (fun tt_ kk_ => XS.aloadN X7.here hx rfl (hb hby at_83) rfl rfl kk_) ?_
          refine own_callV (C := "com/example/bidsmith/bidsmith/market/SearcherState") (y := (⟨"com/example/bidsmith/bidsmith/market/SearcherState", "searches", "()Z"⟩ : MethodName)) (b := a_F1) X7 hx hZ hown (hw _ (List.mem_of_getElem? (i := 4) rfl)) (hw _ (List.mem_of_getElem? (i := 5) rfl)) (hw _ (List.mem_of_getElem? (i := 7) rfl)) (hw _ (List.mem_of_getElem? (i := 6) rfl)) (hw _ (List.mem_of_getElem? (i := 8) rfl)) (hw _ (List.mem_of_getElem? (i := 2) rfl)) (by decide) e7 E_F1 (hM := own_sea l Z a0 hw [] a_F1 a_NS a_T (1 : Int32) h0 n0 Z0 ((if_neg (Ne.symm ne_NS_F1)).trans (if_neg ne_F1_T)) S_NS S_T) (W := 0) (pc := 84) (Ls := #[.val (.int i0), .val (.int k), .val (.ref a_F1), .val (.int (1 : Int32))]) (argsL := []) (rest := []) (st0 := [(.ref a_F1)]) (by rw [hml]; rfl) (lenOf own_pd0 rfl) rfl (Nat.le_of_eq rfl) (hb hby at_84) (by decide) (by decide) (by decide) (by decide) ?_
          intro v8 T8 L8 X8 hQ8
          obtain ⟨rfl, Nq8, hh8⟩ := hQ8
          have N8 := Fr.app N0 Nq8
          show own_Ends p e below s _ _ _ (T8.setTop (mkF m 87 #[.val (.int i0), .val (.int k), .val (.ref a_F1), .val (.int (1 : Int32))] [(.int (1 : Int32))]))
          refine own_pre (S' := (T8.setTop (mkF m 88 #[.val (.int i0), .val (.int k), .val (.ref a_F1), .val (.int (1 : Int32))] [(.int (1 : Int32)), (.int (1 : Int32))]))) (fun tt_ kk_ => XS.iloadN X8.here hx rfl (hb hby at_87) rfl kk_) ?_
          refine own_pre (S' := (T8.setTop (mkF m 91 #[.val (.int i0), .val (.int k), .val (.ref a_F1), .val (.int (1 : Int32))] []))) (fun tt_ kk_ => XS.icmpNo X8.here hx rfl (hb hby at_88) rfl (teq (by decide : ((1 : Int32) = (1 : Int32)))).2 kk_) ?_
          refine own_pre (S' := (T8.setTop (mkF m 92 #[.val (.int i0), .val (.int k), .val (.ref a_F1), .val (.int (1 : Int32))] [(.int (1 : Int32))]))) (fun tt_ kk_ => XS.iconst X8.here hx rfl (hb hby at_91) kk_) ?_
          refine own_pre (S' := (T8.setTop (mkF m 96 #[.val (.int i0), .val (.int k), .val (.ref a_F1), .val (.int (1 : Int32))] [(.int (1 : Int32))]))) (fun tt_ kk_ => XS.goto X8.here hx rfl (pc0 := 92) (pc' := 96) rfl (hb hby at_92) (by decide) (by decide) kk_) ?_
          refine own_ret (t := .boolean) X8 hx hlk hrt rfl (Or.inl ⟨rfl, by simp, _, rfl⟩) (hb hby at_96) (by decide) (by decide) ?_
          exact ⟨rfl, N8⟩
        · -- pc 51: not k = (3 : Int32)
          refine own_pre (S' := (T0.setTop (mkF m 63 #[.val (.int i0), .val (.int k), .unset, .unset] []))) (fun tt_ kk_ => XS.icmpYes X0.here hx rfl (pc0 := 51) (pc' := 63) rfl (hb hby at_51) rfl (feq c51).2 (by decide) (by decide) kk_) ?_
          refine own_pre (S' := (T0.setTop (mkF m 64 #[.val (.int i0), .val (.int k), .unset, .unset] [(.int k)]))) (fun tt_ kk_ => XS.iloadN X0.here hx rfl (hb hby at_63) rfl kk_) ?_
          refine own_pre (S' := (T0.setTop (mkF m 65 #[.val (.int i0), .val (.int k), .unset, .unset] [(.int (4 : Int32)), (.int k)]))) (fun tt_ kk_ => XS.iconst X0.here hx rfl (hb hby at_64) kk_) ?_
          by_cases c65 : k = (4 : Int32)
          · -- pc 65: k = (4 : Int32)
            refine own_pre (S' := (T0.setTop (mkF m 68 #[.val (.int i0), .val (.int k), .unset, .unset] []))) (fun tt_ kk_ => XS.icmpNo X0.here hx rfl (hb hby at_65) rfl (teq c65).2 kk_) ?_
            obtain ⟨T9, X9, e9, st9⟩ := getS2 X0 hx hZ hown (host := "") (Or.inl (hw _ (List.mem_of_getElem? (i := 19) rfl))) Via.refl e0 S_F2 (g := (mkF m 68 #[.val (.int i0), .val (.int k), .unset, .unset] [])) rfl (hb hby at_68)
            refine own_pre (S' := (T9.setTop (mkF m 71 #[.val (.int i0), .val (.int k), .unset, .unset] [(.ref a_F2)]))) st9 ?_
            refine own_pre (S' := (T9.setTop (mkF m 72 #[.val (.int i0), .val (.int k), .val (.ref a_F2), .unset] []))) (fun tt_ kk_ => XS.astoreN X9.here hx rfl (hb hby at_71) rfl rfl (l' := #[.val (.int i0), .val (.int k), .val (.ref a_F2), .unset]) rfl kk_) ?_
            refine own_pre (S' := (T9.setTop (mkF m 73 #[.val (.int i0), .val (.int k), .val (.ref a_F2), .unset] [(.int (1 : Int32))]))) (fun tt_ kk_ => XS.iconst X9.here hx rfl (hb hby at_72) kk_) ?_
            refine own_pre (S' := (T9.setTop (mkF m 74 #[.val (.int i0), .val (.int k), .val (.ref a_F2), .val (.int (1 : Int32))] []))) (fun tt_ kk_ => XS.istoreN X9.here hx rfl (hb hby at_73) rfl (l' := #[.val (.int i0), .val (.int k), .val (.ref a_F2), .val (.int (1 : Int32))]) rfl kk_) ?_
            refine own_pre (S' := (T9.setTop (mkF m 83 #[.val (.int i0), .val (.int k), .val (.ref a_F2), .val (.int (1 : Int32))] []))) (fun tt_ kk_ => XS.goto X9.here hx rfl (pc0 := 74) (pc' := 83) rfl (hb hby at_74) (by decide) (by decide) kk_) ?_
            refine own_pre (S' := (T9.setTop (mkF m 84 #[.val (.int i0), .val (.int k), .val (.ref a_F2), .val (.int (1 : Int32))] [(.ref a_F2)]))) (fun tt_ kk_ => XS.aloadN X9.here hx rfl (hb hby at_83) rfl rfl kk_) ?_
            refine own_callV (C := "com/example/bidsmith/bidsmith/market/SearcherState") (y := (⟨"com/example/bidsmith/bidsmith/market/SearcherState", "searches", "()Z"⟩ : MethodName)) (b := a_F2) X9 hx hZ hown (hw _ (List.mem_of_getElem? (i := 4) rfl)) (hw _ (List.mem_of_getElem? (i := 5) rfl)) (hw _ (List.mem_of_getElem? (i := 7) rfl)) (hw _ (List.mem_of_getElem? (i := 6) rfl)) (hw _ (List.mem_of_getElem? (i := 8) rfl)) (hw _ (List.mem_of_getElem? (i := 2) rfl)) (by decide) e9 E_F2 (hM := own_sea l Z a0 hw [] a_F2 a_NS a_T (1 : Int32) h0 n0 Z0 ((if_neg (Ne.symm ne_NS_F2)).trans (if_neg (Ne.symm ne_T_F2))) S_NS S_T) (W := 0) (pc := 84) (Ls := #[.val (.int i0), .val (.int k), .val (.ref a_F2), .val (.int (1 : Int32))]) (argsL := []) (rest := []) (st0 := [(.ref a_F2)]) (by rw [hml]; rfl) (lenOf own_pd0 rfl) rfl (Nat.le_of_eq rfl) (hb hby at_84) (by decide) (by decide) (by decide) (by decide) ?_
            intro v10 T10 L10 X10 hQ10
            obtain ⟨rfl, Nq10, hh10⟩ := hQ10
            have N10 := Fr.app N0 Nq10
            show own_Ends p e below s _ _ _ (T10.setTop (mkF m 87 #[.val (.int i0), .val (.int k), .val (.ref a_F2), .val (.int (1 : Int32))] [(.int (1 : Int32))]))
            refine own_pre (S' := (T10.setTop (mkF m 88 #[.val (.int i0), .val (.int k), .val (.ref a_F2), .val (.int (1 : Int32))] [(.int (1 : Int32)), (.int (1 : Int32))]))) (fun tt_ kk_ => XS.iloadN X10.here hx rfl (hb hby at_87) rfl kk_) ?_
            refine own_pre (S' := (T10.setTop (mkF m 91 #[.val (.int i0), .val (.int k), .val (.ref a_F2), .val (.int (1 : Int32))] []))) (fun tt_ kk_ => XS.icmpNo X10.here hx rfl (hb hby at_88) rfl (teq (by decide : ((1 : Int32) = (1 : Int32)))).2 kk_) ?_
            refine own_pre (S' := (T10.setTop (mkF m 92 #[.val (.int i0), .val (.int k), .val (.ref a_F2), .val (.int (1 : Int32))] [(.int (1 : Int32))]))) (fun tt_ kk_ => XS.iconst X10.here hx rfl (hb hby at_91) kk_) ?_
            refine own_pre (S' := (T10.setTop (mkF m 96 #[.val (.int i0), .val (.int k), .val (.ref a_F2), .val (.int (1 : Int32))] [(.int (1 : Int32))]))) (fun tt_ kk_ => XS.goto X10.here hx rfl (pc0 := 92) (pc' := 96) rfl (hb hby at_92) (by decide) (by decide) kk_) ?_
            refine own_ret (t := .boolean) X10 hx hlk hrt rfl (Or.inl ⟨rfl, by simp, _, rfl⟩) (hb hby at_96) (by decide) (by decide) ?_
            exact ⟨rfl, N10⟩
          · -- pc 65: not k = (4 : Int32)
            refine own_pre (S' := (T0.setTop (mkF m 77 #[.val (.int i0), .val (.int k), .unset, .unset] []))) (fun tt_ kk_ => XS.icmpYes X0.here hx rfl (pc0 := 65) (pc' := 77) rfl (hb hby at_65) rfl (feq c65).2 (by decide) (by decide) kk_) ?_
            obtain ⟨T11, X11, e11, st11⟩ := getS2 X0 hx hZ hown (host := "") (Or.inl (hw _ (List.mem_of_getElem? (i := 18) rfl))) Via.refl e0 S_T (g := (mkF m 77 #[.val (.int i0), .val (.int k), .unset, .unset] [])) rfl (hb hby at_77)
            refine own_pre (S' := (T11.setTop (mkF m 80 #[.val (.int i0), .val (.int k), .unset, .unset] [(.ref a_T)]))) st11 ?_
            refine own_pre (S' := (T11.setTop (mkF m 81 #[.val (.int i0), .val (.int k), .val (.ref a_T), .unset] []))) (fun tt_ kk_ => XS.astoreN X11.here hx rfl (hb hby at_80) rfl rfl (l' := #[.val (.int i0), .val (.int k), .val (.ref a_T), .unset]) rfl kk_) ?_
            refine own_pre (S' := (T11.setTop (mkF m 82 #[.val (.int i0), .val (.int k), .val (.ref a_T), .unset] [(.int (0 : Int32))]))) (fun tt_ kk_ => XS.iconst X11.here hx rfl (hb hby at_81) kk_) ?_
            refine own_pre (S' := (T11.setTop (mkF m 83 #[.val (.int i0), .val (.int k), .val (.ref a_T), .val (.int (0 : Int32))] []))) (fun tt_ kk_ => XS.istoreN X11.here hx rfl (hb hby at_82) rfl (l' := #[.val (.int i0), .val (.int k), .val (.ref a_T), .val (.int (0 : Int32))]) rfl kk_) ?_
            refine own_pre (S' := (T11.setTop (mkF m 84 #[.val (.int i0), .val (.int k), .val (.ref a_T), .val (.int (0 : Int32))] [(.ref a_T)]))) (fun tt_ kk_ => XS.aloadN X11.here hx rfl (hb hby at_83) rfl rfl kk_) ?_
            refine own_callV (C := "com/example/bidsmith/bidsmith/market/SearcherState") (y := (⟨"com/example/bidsmith/bidsmith/market/SearcherState", "searches", "()Z"⟩ : MethodName)) (b := a_T) X11 hx hZ hown (hw _ (List.mem_of_getElem? (i := 4) rfl)) (hw _ (List.mem_of_getElem? (i := 5) rfl)) (hw _ (List.mem_of_getElem? (i := 7) rfl)) (hw _ (List.mem_of_getElem? (i := 6) rfl)) (hw _ (List.mem_of_getElem? (i := 8) rfl)) (hw _ (List.mem_of_getElem? (i := 2) rfl)) (by decide) e11 E_T (hM := own_sea l Z a0 hw [] a_T a_NS a_T (0 : Int32) h0 n0 Z0 ((if_neg (Ne.symm ne_NS_T)).trans (if_pos rfl)) S_NS S_T) (W := 0) (pc := 84) (Ls := #[.val (.int i0), .val (.int k), .val (.ref a_T), .val (.int (0 : Int32))]) (argsL := []) (rest := []) (st0 := [(.ref a_T)]) (by rw [hml]; rfl) (lenOf own_pd0 rfl) rfl (Nat.le_of_eq rfl) (hb hby at_84) (by decide) (by decide) (by decide) (by decide) ?_
            intro v12 T12 L12 X12 hQ12
            obtain ⟨rfl, Nq12, hh12⟩ := hQ12
            have N12 := Fr.app N0 Nq12
            show own_Ends p e below s _ _ _ (T12.setTop (mkF m 87 #[.val (.int i0), .val (.int k), .val (.ref a_T), .val (.int (0 : Int32))] [(.int (0 : Int32))]))
            refine own_pre (S' := (T12.setTop (mkF m 88 #[.val (.int i0), .val (.int k), .val (.ref a_T), .val (.int (0 : Int32))] [(.int (0 : Int32)), (.int (0 : Int32))]))) (fun tt_ kk_ => XS.iloadN X12.here hx rfl (hb hby at_87) rfl kk_) ?_
            refine own_pre (S' := (T12.setTop (mkF m 91 #[.val (.int i0), .val (.int k), .val (.ref a_T), .val (.int (0 : Int32))] []))) (fun tt_ kk_ => XS.icmpNo X12.here hx rfl (hb hby at_88) rfl (teq (by decide : ((0 : Int32) = (0 : Int32)))).2 kk_) ?_
            refine own_pre (S' := (T12.setTop (mkF m 92 #[.val (.int i0), .val (.int k), .val (.ref a_T), .val (.int (0 : Int32))] [(.int (1 : Int32))]))) (fun tt_ kk_ => XS.iconst X12.here hx rfl (hb hby at_91) kk_) ?_
            refine own_pre (S' := (T12.setTop (mkF m 96 #[.val (.int i0), .val (.int k), .val (.ref a_T), .val (.int (0 : Int32))] [(.int (1 : Int32))]))) (fun tt_ kk_ => XS.goto X12.here hx rfl (pc0 := 92) (pc' := 96) rfl (hb hby at_92) (by decide) (by decide) kk_) ?_
            refine own_ret (t := .boolean) X12 hx hlk hrt rfl (Or.inl ⟨rfl, by simp, _, rfl⟩) (hb hby at_96) (by decide) (by decide) ?_
            exact ⟨rfl, N12⟩
set_option maxRecDepth 65536 in
set_option maxHeartbeats 40000000 in
theorem comes_1 {Post : Tables → Env → Array Value → State → Outcome → State → Prop} (hpost : ∀ tb e args s v u, (limb_1_1.after args s (.returned v) u = true ∧ limb_1_2.after args s (.returned v) u = true ∧ True) → FrameEnd s (.returned v) u (Jvm.fieldLocs frame_1_writes args s ++ Jvm.arrayLocs frame_1_arrays args s ++ Jvm.staticLocs frame_1_statics s) 0 0 → Post tb e args s (.returned v) u) :
    ArmFor flags0 classFile x code maxLocals ret World_1 tables_1 room_1 Calls_1 rest_1 Pre_1 Post := by
  intro l hfl _ _ p e ha hc hk s m args below hf hA hF happ hP
  obtain ⟨hcalls, hrest, hpre⟩ := hP
  obtain ⟨-, -, -, hnamed, -, -, -, hat⟩ := (Spec.applies_iff hf).mp happ
  obtain ⟨hg, hn⟩ := and_e (Cond.before_iff.mp (show (Jvm.Cond.and given_1 narrow_1).before args s = true from hpre))
  obtain ⟨hcount, hgg⟩ := and_e hg
  have hk0 := hgg
  obtain ⟨w0, rfl⟩ : ∃ w0 : Value, args = #[w0] := by
    have hs : args.size = 1 := by simpa [Cond.value, given_1] using hcount
    obtain ⟨L⟩ := args
    match L, hs with
    | [w0], _ => exact ⟨w0, rfl⟩
  have hw := fun d (hd : d ∈ tables_1) => atoms_spec (ws := Jvm.Cond.code x code maxLocals ret :: tables_1) hat d (List.mem_cons_of_mem _ hd)
  have hfit : Fit s := fun {y c} hc i hi => by
    obtain ⟨ha, rfl⟩ := Array.getElem?_eq_some_iff.mp hc
    have q := List.all_eq_true.mp ((Array.all_eq_true_iff_forall_mem.mp hF) _ (Array.getElem_mem ha)) i (List.mem_range.mpr hi)
    simpa [Array.getElem?_eq_getElem hi] using q
  obtain ⟨i0, ei0⟩ := is_v hk0
  obtain rfl : w0 = (.int i0) := Option.some.inj ei0
  obtain ⟨hn0, hr0⟩ := and_e hn
  obtain ⟨hn1, hr1⟩ := and_e hr0
  obtain ⟨hn2, hr2⟩ := and_e hr1
  obtain ⟨hn3, hr3⟩ := and_e hr2
  obtain ⟨hn4, hr4⟩ := and_e hr3
  obtain ⟨hn5, hr5⟩ := and_e hr4
  obtain ⟨hn6, hr6⟩ := and_e hr5
  obtain ⟨hn7, hr7⟩ := and_e hr6
  obtain ⟨hn8, hr8⟩ := and_e hr7
  obtain ⟨hn9, hr9⟩ := and_e hr8
  obtain ⟨hn10, hn11⟩ := and_e hr9
  obtain ⟨a_NS, ev_NS⟩ := exa_v hn0
  have S_NS : Sta s s.heap "com/example/bidsmith/bidsmith/market/SearcherState" "NS" "Lcom/example/bidsmith/bidsmith/market/SearcherState;" (.ref a_NS) := Sta.start ev_NS (Or.inr ⟨(hw _ (List.mem_of_getElem? (i := 2) rfl)), (hw _ (List.mem_of_getElem? (i := 3) rfl))⟩)
  have E_NS : Exa s s.heap a_NS "com/example/bidsmith/bidsmith/market/SearcherState" := Exa.start ev_NS hn0
  obtain ⟨a_F1, ev_F1⟩ := exa_v hn1
  have S_F1 : Sta s s.heap "com/example/bidsmith/bidsmith/market/SearcherState" "F1" "Lcom/example/bidsmith/bidsmith/market/SearcherState;" (.ref a_F1) := Sta.start ev_F1 (Or.inr ⟨(hw _ (List.mem_of_getElem? (i := 2) rfl)), (hw _ (List.mem_of_getElem? (i := 11) rfl))⟩)
  have E_F1 : Exa s s.heap a_F1 "com/example/bidsmith/bidsmith/market/SearcherState" := Exa.start ev_F1 hn1
  obtain ⟨a_T, ev_T⟩ := exa_v hn4
  have S_T : Sta s s.heap "com/example/bidsmith/bidsmith/market/SearcherState" "T" "Lcom/example/bidsmith/bidsmith/market/SearcherState;" (.ref a_T) := Sta.start ev_T (Or.inr ⟨(hw _ (List.mem_of_getElem? (i := 2) rfl)), (hw _ (List.mem_of_getElem? (i := 13) rfl))⟩)
  have E_T : Exa s s.heap a_T "com/example/bidsmith/bidsmith/market/SearcherState" := Exa.start ev_T hn4
  obtain ⟨a_F0, ev_F0⟩ := exa_v hn6
  have S_F0 : Sta s s.heap "com/example/bidsmith/bidsmith/market/SearcherState" "F0" "Lcom/example/bidsmith/bidsmith/market/SearcherState;" (.ref a_F0) := Sta.start ev_F0 (Or.inr ⟨(hw _ (List.mem_of_getElem? (i := 2) rfl)), (hw _ (List.mem_of_getElem? (i := 15) rfl))⟩)
  have E_F0 : Exa s s.heap a_F0 "com/example/bidsmith/bidsmith/market/SearcherState" := Exa.start ev_F0 hn6
  obtain ⟨a_IS, ev_IS⟩ := exa_v hn8
  have S_IS : Sta s s.heap "com/example/bidsmith/bidsmith/market/SearcherState" "IS" "Lcom/example/bidsmith/bidsmith/market/SearcherState;" (.ref a_IS) := Sta.start ev_IS (Or.inr ⟨(hw _ (List.mem_of_getElem? (i := 2) rfl)), (hw _ (List.mem_of_getElem? (i := 17) rfl))⟩)
  have E_IS : Exa s s.heap a_IS "com/example/bidsmith/bidsmith/market/SearcherState" := Exa.start ev_IS hn8
  obtain ⟨a_F2, ev_F2⟩ := exa_v hn10
  have S_F2 : Sta s s.heap "com/example/bidsmith/bidsmith/market/SearcherState" "F2" "Lcom/example/bidsmith/bidsmith/market/SearcherState;" (.ref a_F2) := Sta.start ev_F2 (Or.inr ⟨(hw _ (List.mem_of_getElem? (i := 2) rfl)), (hw _ (List.mem_of_getElem? (i := 20) rfl))⟩)
  have E_F2 : Exa s s.heap a_F2 "com/example/bidsmith/bidsmith/market/SearcherState" := Exa.start ev_F2 hn10
  have O_F1 := own_fieldOf ev_F1 hn2
  have O_NS := own_fieldOf ev_NS hn3
  have O_T := own_fieldOf ev_T hn5
  have O_F0 := own_fieldOf ev_F0 hn7
  have O_IS := own_fieldOf ev_IS hn9
  have O_F2 := own_fieldOf ev_F2 hn11
  have ne_NS_F1 : a_NS ≠ a_F1 := Fld.ne O_NS O_F1 (fun q => absurd (Value.int.inj q) (by decide))
  have ne_NS_T : a_NS ≠ a_T := Fld.ne O_NS O_T (fun q => absurd (Value.int.inj q) (by decide))
  have ne_NS_F0 : a_NS ≠ a_F0 := Fld.ne O_NS O_F0 (fun q => absurd (Value.int.inj q) (by decide))
  have ne_NS_IS : a_NS ≠ a_IS := Fld.ne O_NS O_IS (fun q => absurd (Value.int.inj q) (by decide))
  have ne_NS_F2 : a_NS ≠ a_F2 := Fld.ne O_NS O_F2 (fun q => absurd (Value.int.inj q) (by decide))
  have ne_F1_T : a_F1 ≠ a_T := Fld.ne O_F1 O_T (fun q => absurd (Value.int.inj q) (by decide))
  have ne_F1_F0 : a_F1 ≠ a_F0 := Fld.ne O_F1 O_F0 (fun q => absurd (Value.int.inj q) (by decide))
  have ne_F1_IS : a_F1 ≠ a_IS := Fld.ne O_F1 O_IS (fun q => absurd (Value.int.inj q) (by decide))
  have ne_F1_F2 : a_F1 ≠ a_F2 := Fld.ne O_F1 O_F2 (fun q => absurd (Value.int.inj q) (by decide))
  have ne_T_F0 : a_T ≠ a_F0 := Fld.ne O_T O_F0 (fun q => absurd (Value.int.inj q) (by decide))
  have ne_T_IS : a_T ≠ a_IS := Fld.ne O_T O_IS (fun q => absurd (Value.int.inj q) (by decide))
  have ne_T_F2 : a_T ≠ a_F2 := Fld.ne O_T O_F2 (fun q => absurd (Value.int.inj q) (by decide))
  have ne_F0_IS : a_F0 ≠ a_IS := Fld.ne O_F0 O_IS (fun q => absurd (Value.int.inj q) (by decide))
  have ne_F0_F2 : a_F0 ≠ a_F2 := Fld.ne O_F0 O_F2 (fun q => absurd (Value.int.inj q) (by decide))
  have ne_IS_F2 : a_IS ≠ a_F2 := Fld.ne O_IS O_F2 (fun q => absurd (Value.int.inj q) (by decide))
  obtain ⟨n, o, h1, h2, h3, _, L, rfl, ⟨rfl, N⟩, hq⟩ := own_law l s _ hw tables_1 i0 a_NS a_F1 a_T a_F0 a_IS a_F2 s.heap s.heap.size (Nat.le_refl _) S_NS E_NS S_F1 E_F1 S_T E_T S_F0 E_F0 S_IS E_IS S_F2 E_F2 ne_NS_F1 ne_NS_T ne_NS_F0 ne_NS_IS ne_NS_F2 ne_F1_T ne_F1_F0 ne_F1_IS ne_F1_F2 ne_T_F0 ne_T_IS ne_T_F2 ne_F0_IS ne_F0_F2 ne_IS_F2 p e ha hc hk s m _ below hf ((Spec.applies_iff_loose hf).mp happ).1 ⟨rfl, State.Warmed39.refl s, rfl⟩ trivial
  refine ⟨n, _, h1, h2, h3, hpost _ _ _ _ _ _ ⟨Cond.after_iff.mpr rfl, Cond.after_iff.mpr (eq_i res_at (Term.int_eval (1)) rfl), trivial⟩ ⟨hq.1, hq.2.1, (hq.2.2.sift fun y hy => Or.inr (N y hy)).mono (by decide) (by decide)⟩⟩
theorem main_1_1 : Claimed_1_1 := comes_1 fun _ _ _ _ _ _ h hF => ⟨h.1, hF⟩
theorem main_1_2 : Claimed_1_2 := comes_1 fun _ _ _ _ _ _ h hF => ⟨h.2.1, hF⟩
end Jvm.Pilot.@@N@@
namespace Jvm.Pilot.@@N@@
open Jvm Jvm.ClassFile Sem Op Lib Jvm.Free Jvm.Stand Jvm.Pilot.@@N@@.Jvm.D
/-! MADE BY PROGRAM (witnessworld.py) out of the Statement's table words and the real class files: 12 classes; the members and pool entries that the words name. The judged class is class 1, her method 1. -/
namespace start1
open Jvm.ClassFile
def u (s : String) : CpInfo := .utf8 (stringToUtf16 s)
/-- a pool by its gaps: so many unusable entries, then the entry; so many at the end -/
def gap : Nat → List CpInfo → List CpInfo
  | 0, r => r
  | n + 1, r => .unusable :: gap n r
def poolList (es : List (Nat × CpInfo)) (last : Nat) : List CpInfo := es.foldr (fun e r => gap e.1 (e.2 :: r)) (gap last [])
def pool (es : List (Nat × CpInfo)) (last : Nat) : Array CpInfo := ⟨poolList es last⟩
def fileOf (pool : Array CpInfo) (this : Nat) (attrs : Array Attribute := #[]) (ms : Array MethodInfo := #[]) (fl : Nat := 33) (sup : Nat := 0) (ifs : Array Nat := #[]) (fds : Array FieldInfo := #[]) : ClassFile where
  minorVersion := 0
  majorVersion := 65
  constantPool := pool
  accessFlags := fl
  thisClass := this
  superClass := sup
  interfaces := ifs
  fields := fds
  methods := ms
  attributes := attrs
def plain (name : String) (sup : Option ClassId) : Class where
  name := name
  kind := .ordinary
  loader := none
  accessFlags := 33
  super := sup
  interfaces := #[]
  cf := none
  fields := #[]
  methods := #[]
  instanceTypes := #[]
  staticTypes := #[]
  resolved := #[]
  callSites := []
  init := .initialized
  statics := none
  mirror := none

def pool0 : Array CpInfo := pool [(5, u "<init>"), (0, u "()V"), (1, .class_ 10), (1, u "java/lang/Object")] 113

def k0m0 : Method := { name := "<init>", desc := "()V", sig := { parameters := [], returnType := none }, accessFlags := 1, code := none }
/-- java/lang/Object -/
def k0 : Class := { plain "java/lang/Object" none with
  accessFlags := 33
  interfaces := #[]
  cf := some (fileOf pool0 8 #[] #[{ accessFlags := 1, nameIndex := 5, descriptorIndex := 6, attributes := #[] }] 33 0 #[] #[])
  fields := #[]
  methods := #[k0m0]
  instanceTypes := #[]
  staticTypes := #[]
  resolved := Array.replicate 124 none
  statics := none }

def pool1 : Array CpInfo := pool [(2, .class_ 4), (1, u "java/lang/Object"), (0, u "<init>"), (0, u "()V"), (0, .integer 2147483647), (0, .fieldref 9 10), (0, .class_ 11), (0, .nameAndType 12 13), (0, u "com/example/bidsmith/bidsmith/market/SearcherState"), (0, u "NS"), (0, u "Lcom/example/bidsmith/bidsmith/market/SearcherState;"), (0, .fieldref 9 15), (0, .nameAndType 16 13), (0, u "IS"), (0, .fieldref 9 18), (0, .nameAndType 19 13), (0, u "F0"), (0, .fieldref 9 21), (0, .nameAndType 22 13), (0, u "F1"), (0, .fieldref 9 24), (0, .nameAndType 25 13), (0, u "F2"), (0, .fieldref 9 27), (0, .nameAndType 28 13), (0, u "T"), (0, .methodref 9 30), (0, .nameAndType 31 32), (0, u "searches"), (0, u "()Z"), (0, .class_ 34), (0, u "com/example/bidsmith/bidsmith/market/SearcherStateSearchesPinLaw"), (2, u "law"), (0, u "(I)Z")] 3

def k1m0 : Method := { name := "<init>", desc := "()V", sig := { parameters := [], returnType := none }, accessFlags := 2, code := none }
def k1c1 : Code := { maxStack := 2, maxLocals := 4, code := code, exceptionTable := #[], attributes := #[] }
def k1m1 : Method := { name := "law", desc := "(I)Z", sig := { parameters := [.int], returnType := some .boolean }, accessFlags := 9, code := some k1c1 }
/-- com/example/bidsmith/bidsmith/market/SearcherStateSearchesPinLaw -/
def k1 : Class := { plain "com/example/bidsmith/bidsmith/market/SearcherStateSearchesPinLaw" (some 0) with
  accessFlags := 49
  interfaces := #[]
  cf := some (fileOf pool1 33 #[] #[{ accessFlags := 2, nameIndex := 5, descriptorIndex := 6, attributes := #[] }, { accessFlags := 9, nameIndex := 37, descriptorIndex := 38, attributes := #[] }] 49 2 #[] #[])
  fields := #[]
  methods := #[k1m0, k1m1]
  instanceTypes := #[]
  staticTypes := #[]
  resolved := Array.replicate 42 none
  statics := none }

def pool2 : Array CpInfo := pool [(1, .class_ 2), (0, u "java/lang/constant/Constable"), (0, .class_ 4), (0, u "java/lang/Object")] 6

/-- java/lang/constant/Constable -/
def k2 : Class := { plain "java/lang/constant/Constable" (some 0) with
  accessFlags := 1537
  interfaces := #[]
  cf := some (fileOf pool2 1 #[] #[] 1537 3 #[] #[])
  fields := #[]
  methods := #[]
  instanceTypes := #[]
  staticTypes := #[]
  resolved := Array.replicate 11 none
  statics := none }

def pool3 : Array CpInfo := pool [(1, .class_ 2), (0, u "java/lang/Comparable"), (0, .class_ 4), (0, u "java/lang/Object")] 7

/-- java/lang/Comparable -/
def k3 : Class := { plain "java/lang/Comparable" (some 0) with
  accessFlags := 1537
  interfaces := #[]
  cf := some (fileOf pool3 1 #[] #[] 1537 3 #[] #[])
  fields := #[]
  methods := #[]
  instanceTypes := #[]
  staticTypes := #[]
  resolved := Array.replicate 12 none
  statics := none }

def pool4 : Array CpInfo := pool [(1, .class_ 2), (0, u "java/io/Serializable"), (0, .class_ 4), (0, u "java/lang/Object")] 2

/-- java/io/Serializable -/
def k4 : Class := { plain "java/io/Serializable" (some 0) with
  accessFlags := 1537
  interfaces := #[]
  cf := some (fileOf pool4 1 #[] #[] 1537 3 #[] #[])
  fields := #[]
  methods := #[]
  instanceTypes := #[]
  staticTypes := #[]
  resolved := Array.replicate 7 none
  statics := none }

def pool5 : Array CpInfo := pool [(2, .class_ 4), (1, u "java/lang/Enum"), (0, u "name"), (0, u "Ljava/lang/String;"), (2, u "ordinal"), (0, u "I"), (1, .class_ 14), (1, u "java/lang/Object"), (4, u "hash"), (86, .class_ 108), (1, u "java/lang/Enum$EnumDesc"), (2, .class_ 112), (0, u "java/lang/constant/Constable"), (0, .class_ 114), (0, u "java/lang/Comparable"), (0, .class_ 116), (0, u "java/io/Serializable")] 87

/-- java/lang/Enum -/
def k5 : Class := { plain "java/lang/Enum" (some 0) with
  accessFlags := 1057
  interfaces := #[2, 3, 4]
  cf := some (fileOf pool5 2 #[.nestMembers #[106]] #[] 1057 12 #[111, 113, 115] #[{ accessFlags := 18, nameIndex := 5, descriptorIndex := 6, attributes := #[] }, { accessFlags := 18, nameIndex := 9, descriptorIndex := 10, attributes := #[] }, { accessFlags := 2, nameIndex := 19, descriptorIndex := 10, attributes := #[] }])
  fields := #[{ name := "name", type := (.object "java/lang/String"), accessFlags := 18, slot := 0, constantValue := 0 }, { name := "ordinal", type := .int, accessFlags := 18, slot := 1, constantValue := 0 }, { name := "hash", type := .int, accessFlags := 2, slot := 2, constantValue := 0 }]
  methods := #[]
  instanceTypes := #[(.object "java/lang/String"), .int, .int]
  staticTypes := #[]
  resolved := Array.replicate 204 none
  statics := none }

def pool6 : Array CpInfo := pool [(1, .class_ 2), (0, u "com/example/bidsmith/bidsmith/market/SearcherState"), (0, .fieldref 1 4), (0, .nameAndType 5 6), (0, u "NS"), (0, u "Lcom/example/bidsmith/bidsmith/market/SearcherState;"), (2, u "IS"), (2, u "F0"), (2, u "F1"), (2, u "F2"), (0, .fieldref 1 20), (0, .nameAndType 21 6), (0, u "T"), (2, u "$VALUES"), (0, u "[Lcom/example/bidsmith/bidsmith/market/SearcherState;"), (6, .class_ 34), (1, u "java/lang/Enum"), (73, u "searches"), (0, u "()Z")] 29

def k6c0 : Code := { maxStack := 2, maxLocals := 1, code := prog_61_method_4_code, exceptionTable := #[], attributes := #[] }
def k6m0 : Method := { name := "searches", desc := "()Z", sig := { parameters := [], returnType := some .boolean }, accessFlags := 1, code := some k6c0 }
/-- com/example/bidsmith/bidsmith/market/SearcherState -/
def k6 : Class := { plain "com/example/bidsmith/bidsmith/market/SearcherState" (some 5) with
  accessFlags := 16433
  interfaces := #[]
  cf := some (fileOf pool6 1 #[] #[{ accessFlags := 1, nameIndex := 108, descriptorIndex := 109, attributes := #[] }] 16433 32 #[] #[{ accessFlags := 16409, nameIndex := 5, descriptorIndex := 6, attributes := #[] }, { accessFlags := 16409, nameIndex := 9, descriptorIndex := 6, attributes := #[] }, { accessFlags := 16409, nameIndex := 12, descriptorIndex := 6, attributes := #[] }, { accessFlags := 16409, nameIndex := 15, descriptorIndex := 6, attributes := #[] }, { accessFlags := 16409, nameIndex := 18, descriptorIndex := 6, attributes := #[] }, { accessFlags := 16409, nameIndex := 21, descriptorIndex := 6, attributes := #[] }, { accessFlags := 4122, nameIndex := 24, descriptorIndex := 25, attributes := #[] }])
  fields := #[{ name := "NS", type := (.object "com/example/bidsmith/bidsmith/market/SearcherState"), accessFlags := 16409, slot := 0, constantValue := 0 }, { name := "IS", type := (.object "com/example/bidsmith/bidsmith/market/SearcherState"), accessFlags := 16409, slot := 1, constantValue := 0 }, { name := "F0", type := (.object "com/example/bidsmith/bidsmith/market/SearcherState"), accessFlags := 16409, slot := 2, constantValue := 0 }, { name := "F1", type := (.object "com/example/bidsmith/bidsmith/market/SearcherState"), accessFlags := 16409, slot := 3, constantValue := 0 }, { name := "F2", type := (.object "com/example/bidsmith/bidsmith/market/SearcherState"), accessFlags := 16409, slot := 4, constantValue := 0 }, { name := "T", type := (.object "com/example/bidsmith/bidsmith/market/SearcherState"), accessFlags := 16409, slot := 5, constantValue := 0 }, { name := "$VALUES", type := (.array (.object "com/example/bidsmith/bidsmith/market/SearcherState")), accessFlags := 4122, slot := 6, constantValue := 0 }]
  methods := #[k6m0]
  instanceTypes := #[(.object "java/lang/String"), .int, .int]
  staticTypes := #[(.object "com/example/bidsmith/bidsmith/market/SearcherState"), (.object "com/example/bidsmith/bidsmith/market/SearcherState"), (.object "com/example/bidsmith/bidsmith/market/SearcherState"), (.object "com/example/bidsmith/bidsmith/market/SearcherState"), (.object "com/example/bidsmith/bidsmith/market/SearcherState"), (.object "com/example/bidsmith/bidsmith/market/SearcherState"), (.array (.object "com/example/bidsmith/bidsmith/market/SearcherState"))]
  resolved := Array.replicate 139 none
  statics := some 0 }

def pool7 : Array CpInfo := pool [(1, u "java/lang/Cloneable"), (0, .class_ 1), (0, u "java/lang/Object"), (0, .class_ 3)] 3

/-- java/lang/Cloneable -/
def k7 : Class := { plain "java/lang/Cloneable" (some 0) with
  accessFlags := 1537
  interfaces := #[]
  cf := some (fileOf pool7 2 #[] #[] 1537 4 #[] #[])
  fields := #[]
  methods := #[]
  instanceTypes := #[]
  staticTypes := #[]
  resolved := Array.replicate 8 none
  statics := none }

/-- the primitive byte -/
def k8 : Class := { plain "byte" none with kind := .primitive 'B', accessFlags := 0x411 }
/-- [B -/
def k9 : Class := { plain "[B" (some 0) with kind := .array 8 .byte, interfaces := #[7, 4], accessFlags := 1041 }

/-- the primitive int -/
def k10 : Class := { plain "int" none with kind := .primitive 'I', accessFlags := 0x411 }
/-- [I -/
def k11 : Class := { plain "[I" (some 0) with kind := .array 10 .int, interfaces := #[7, 4], accessFlags := 1041 }

def heap : Heap := #[{ cls := 6, slots := #[.ref 1, .ref 5, .ref 4, .ref 2, .ref 6, .ref 3, .null], vm := .statics 6 },
  { cls := 6, slots := #[.null, .int 0, .int 0], vm := .none },
  { cls := 6, slots := #[.null, .int 3, .int 0], vm := .none },
  { cls := 6, slots := #[.null, .int 5, .int 0], vm := .none },
  { cls := 6, slots := #[.null, .int 2, .int 0], vm := .none },
  { cls := 6, slots := #[.null, .int 1, .int 0], vm := .none },
  { cls := 6, slots := #[.null, .int 4, .int 0], vm := .none }]
def classes : Array Class := #[k0, k1, k2, k3, k4, k5, k6, k7, k8, k9, k10, k11]
def interned : List (Array UInt16 × Addr) := []
def slotsUsed : Nat := 25
def theMethod : MethodId := ⟨1, 1⟩
def args0 : Array Value := #[.int 5]
def aboutOver (below : List Frame) : State where
  vm := { classes := classes, interned := interned.toArray }
  heap := heap
  slotsUsed := slotsUsed
  threads := #[{ frames := .invoking theMethod args0 :: below }]
def below0 : List Frame := [.native { method := ⟨0, 0⟩, args := #[] }]
def about1 : State := aboutOver below0
def p0 : Program := .bare "" "" ""
def e0 : Env := launch0.env 0 0 0
theorem w_frames : about1.frames = Frame.invoking theMethod args0 :: below0 := rfl
set_option maxRecDepth 65536 in
theorem w_args : argsFit about1.vm theMethod args0 = true := by decide +kernel
set_option maxRecDepth 65536 in
theorem w_heap : heapFits about1 = true := by decide +kernel
set_option maxRecDepth 65536 in
theorem w_runnable : about1.curStatus? = some .runnable := by decide +kernel
set_option maxRecDepth 65536 in
theorem w_alone : about1.alone = true := by decide +kernel
set_option maxRecDepth 65536 in
theorem w_named : about1.methodNamed? x = some theMethod := by decide +kernel
set_option maxRecDepth 65536 in
theorem w_hears : about1.hears theMethod below0 = true := by decide +kernel
set_option maxRecDepth 65536 in
theorem w_ripe : about1.ripe theMethod args0 below0 = true := by decide +kernel
theorem w_running : about1.status = .running := rfl
set_option maxRecDepth 65536 in
theorem w_room : about1.hasRoom e0.platform room_1 = true :=
  launch0.hasRoom_least _ room_1 (by decide +kernel) (by decide +kernel) (by decide +kernel) (by decide +kernel) (by decide +kernel) (by decide +kernel)
theorem allAtoms_all (ts : List Jvm.Cond) (a : Array Jvm.Value) (st : Jvm.State) : (allAtoms ts).before a st = ts.all (fun c => c.before a st) := by
  induction ts with
  | nil => rfl
  | cons c t ih =>
    show (Jvm.Cond.and c (allAtoms t)).before a st = _
    rw [Jvm.Cond.before_and, ih, List.all_cons]
def words1 : List Jvm.Cond := Jvm.Cond.code x code maxLocals ret :: tables_1
/-- a 'code' word, met by the world's own term for the bytes: nothing is compared byte by byte -/
theorem code_word {y : MethodName} {bytes : ByteArray} {mx : Nat} {rt : Option FieldType} {a : Array Value} {s : State} {m : MethodId} {meth : Method} {c : Code} (h1 : s.methodNamed? y = some m) (h2 : s.vm.method? m = some meth) (h3 : meth.code = some c) (h4 : c.code = bytes)
    (h5 : (c.maxLocals == mx && c.exceptionTable.isEmpty && decide (c.maxStack ≤ mostOperands) && decide (meth.sig.returnType = rt) && !meth.locks && decide (parseMethodDescriptor y.desc = some meth.sig)) = true) : (Jvm.Cond.code y bytes mx rt).before a s = true := by
  simp only [Bool.and_eq_true, beq_iff_eq, Bool.not_eq_true', decide_eq_true_eq] at h5
  obtain ⟨⟨⟨⟨⟨g1, g2⟩, g3⟩, g4⟩, g5⟩, g6⟩ := h5
  simp [Cond.before, Cond.holds, Cond.value, h1, h2, h3, h4, g1, g2, g3, g4, g5, g6]
def isCode : Jvm.Cond → Bool
  | .code _ _ _ _ => true
  | _ => false
theorem all_split {L : List Jvm.Cond} {P : Jvm.Cond → Bool} (h1 : L.all (fun c => isCode c || P c) = true) (h2 : ∀ c ∈ L.filter isCode, P c = true) : L.all P = true := by
  refine List.all_eq_true.mpr fun c hc => ?_
  have h := List.all_eq_true.mp h1 c hc
  rcases Bool.eq_false_or_eq_true (isCode c) with hi | hi
  · exact h2 c (List.mem_filter.mpr ⟨hc, hi⟩)
  · simpa [hi] using h
set_option maxRecDepth 65536 in
theorem w_c0 : (Jvm.Cond.code x code maxLocals ret).before args0 about1 = true := code_word (m := ⟨1, 1⟩) (meth := k1m1) (c := k1c1) (by decide +kernel) rfl rfl rfl (by decide +kernel)
set_option maxRecDepth 65536 in
theorem w_c1 : (Jvm.Cond.code ({ cls := "com/example/bidsmith/bidsmith/market/SearcherState", name := "searches", desc := "()Z" } : Jvm.MethodName) prog_61_method_4_code (1 : Nat) (Option.some Jvm.ClassFile.FieldType.boolean)).before args0 about1 = true := code_word (m := ⟨6, 0⟩) (meth := k6m0) (c := k6c0) (by decide +kernel) rfl rfl rfl (by decide +kernel)
def codes1 : List Jvm.Cond := [Jvm.Cond.code x code maxLocals ret, Jvm.Cond.code ({ cls := "com/example/bidsmith/bidsmith/market/SearcherState", name := "searches", desc := "()Z" } : Jvm.MethodName) prog_61_method_4_code (1 : Nat) (Option.some Jvm.ClassFile.FieldType.boolean)]
set_option maxRecDepth 65536 in
theorem codes_eq : words1.filter isCode = codes1 := rfl
theorem w_codes : ∀ c ∈ words1.filter isCode, c.before args0 about1 = true := by
  rw [codes_eq]
  intro c hc
  simp only [codes1, List.mem_cons, List.not_mem_nil, or_false] at hc
  rcases hc with rfl | rfl
  · exact w_c0
  · exact w_c1
set_option maxRecDepth 65536 in
theorem w_t1 : words1.all (fun c => isCode c || c.before args0 about1) = true := by decide +kernel
theorem w_tables : (allAtoms (Jvm.Cond.code x code maxLocals ret :: tables_1)).before args0 about1 = true := by
  rw [allAtoms_all]
  show words1.all (fun c => c.before args0 about1) = true
  refine all_split ?_ w_codes
  rw [w_t1]
set_option maxRecDepth 65536 in
theorem w_case : (Jvm.Cond.and given_1 narrow_1).before args0 about1 = true := by decide +kernel
theorem w_applies : (headSpec (Jvm.Cond.code x code maxLocals ret :: tables_1) room_1).applies x e0.platform about1 = true :=
  (Spec.applies_iff w_frames).mpr ⟨w_running, w_runnable, w_alone, w_named, w_hears, w_ripe, w_room, w_tables⟩
theorem atStart : AtStart classFile x code maxLocals ret World_1 tables_1 room_1 Calls_1 rest_1 Pre_1 launch0 p0 e0 about1 theMethod args0 below0 :=
  ⟨lists_1, trivial, launch0.admits_env _ _ _, launch0.least_env, fairChoices_fair.cas, fairChoices_fair.clock, w_frames, w_args, w_heap, w_applies, trivial, trivial, w_case⟩
end start1
theorem witness_1 : WitnessClaimed_1 := ⟨start1.p0, start1.e0, start1.about1, start1.theMethod, start1.args0, start1.below0, start1.atStart⟩
end Jvm.Pilot.@@N@@
