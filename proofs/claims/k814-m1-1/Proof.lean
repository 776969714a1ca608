import JvmDerived
import JvmDerived.Pilot.@@N@@Statement
import JvmDerived.Pilot.@@N@@Code
set_option linter.unusedVariables false
set_option linter.unusedSimpArgs false
namespace Jvm.Pilot.@@N@@
open Jvm Jvm.ClassFile Sem Op Lib Jvm.Free Jvm.Stand Jvm.LawKit Jvm.RoadKit Bundle Jvm.Pilot.@@N@@.Jvm.D
section Own
variable {p : Program} {l : Launch} {e : Env} {R : Room} {s : State} {m : MethodId} {args : Array Value} {below : List Frame} {meth : Method} {c : Code} {T : State} {locs : List Loc} {cells slots : Nat} {Z : State} {a0 : Array Value} {h : Heap} {Q : Option Value → Heap → List Loc → Prop} {kc kn : Nat}
/-- from S the method comes to its end, and what it leaves answers to Q -/
def own_Ends (p : Program) (e : Env) (below : List Frame) (s : State) (Q : Option Value → Heap → List Loc → Prop) (kc kn : Nat) (S : State) : Prop :=
  ∃ s₂ o, Steps p.tables e below S s₂ ∧ s₂.status = .running ∧ Ended s₂ below o ∧ ∃ v L, o = .returned v ∧ Q v s₂.heap L ∧ FrameEnd s o s₂ L kc kn
theorem own_pre {S S' : State} (st : ∀ t, Steps p.tables e below S' t → Steps p.tables e below S t) (k : own_Ends p e below s Q kc kn S') : own_Ends p e below s Q kc kn S := by
  obtain ⟨s₂, o, h1, r⟩ := k
  exact ⟨s₂, o, st _ h1, r⟩
theorem own_ret (X : Stand p l e R s m args below meth c T locs cells slots) (hx : p.tables.exec = Jvm.exec) (hlk : meth.locks = false) {pc : Nat} {Ls : Array Slot} {w : Value} {t : FieldType} {i : Instr} {rest : List Value} (hret : meth.sig.returnType = some t) (hn : narrow t w = w)
    (hi : (i = .ireturn ∧ (t = .int ∨ t = .boolean ∨ t = .byte ∨ t = .char ∨ t = .short) ∧ ∃ z, w = .int z) ∨ (i = .lreturn ∧ t = .long ∧ ∃ z, w = .long z) ∨ (i = .dreturn ∧ t = .double ∧ ∃ z, w = .double z) ∨ (i = .freturn ∧ t = .float ∧ ∃ z, w = .float z) ∨ (i = .areturn ∧ t.isReference = true ∧ w.isRef = true))
    (hd : decode c.code pc = .ok (i, 1)) (h1 : cells ≤ kc) (h2 : slots ≤ kn) (hQ : Q (some w) T.heap locs) : own_Ends p e below s Q kc kn (T.setTop (mkF m pc Ls (w :: rest))) := by
  obtain ⟨fs, hr, hrun, hended, hW, hsame⟩ := X.leave (v := some w) (fun h => by rw [hret] at h; cases h) hlk
  exact ⟨_, _, retOut X hx hret hn hi hd hr, hrun, hended, _, _, rfl, hQ, ⟨_, rfl⟩, hW, hsame.mono h1 h2⟩
theorem own_retV (X : Stand p l e R s m args below meth c T locs cells slots) (hx : p.tables.exec = Jvm.exec) (hlk : meth.locks = false) {pc : Nat} {Ls : Array Slot} (hret : meth.sig.returnType = none)
    (hd : decode c.code pc = .ok (.return_, 1)) (h1 : cells ≤ kc) (h2 : slots ≤ kn) (hQ : Q none T.heap locs) : own_Ends p e below s Q kc kn (T.setTop (mkF m pc Ls [])) := by
  obtain ⟨fs, hr, hrun, hended, hW, hsame⟩ := X.leave (v := none) (fun _ => rfl) hlk
  exact ⟨_, _, X.returnOut hx hret hd hr, hrun, hended, _, _, rfl, hQ, ⟨_, rfl⟩, hW, hsame.mono h1 h2⟩
/-- a contract: called with these arguments over this heap it returns, and Q says what it left -/
abbrev own_Met (l : Launch) (Z : State) (y : MethodName) (bytes : ByteArray) (maxL : Nat) (ret : Option FieldType) (ws : List Jvm.Cond) (rm : Room) (as' : Array Value) (h0 : Heap) (Q : Option Value → Heap → List Loc → Prop) : Prop :=
  MetFree l y (head1 (Jvm.Cond.code y bytes maxL ret :: ws) rm) (fun a U => a = as' ∧ Z.Warmed39 U.vm ∧ U.heap = h0) (fun _ _ _ _ _ => True) (fun _ U o U' => ∃ v L, o = .returned v ∧ Q v U'.heap L ∧ FrameEnd U o U' L rm.cells rm.slots)
theorem own_body {y : MethodName} {bytes : ByteArray} {maxL : Nat} {ret : Option FieldType} {ws : List Jvm.Cond} {rm : Room} {as' : Array Value} {h0 : Heap} (pn : plainFor y = true) (F : MethodId → JFrame) (hF : ∀ m, entryFrame m as' maxL = F m)
    (body : ∀ (p : Program) (e : Env) (s : State) (m : MethodId) (below : List Frame) (meth : Method) (c : Code) (T : State), p.tables.exec = Jvm.exec → c.code = bytes → c.maxLocals = maxL → meth.locks = false → meth.sig.returnType = ret → Z.Warmed39 s.vm → s.vm.findClass y.cls = some m.cls → meth.name = y.name →
      Stand p l e rm s m as' below meth c T [] 0 0 → T.heap = h0 → own_Ends p e below s Q rm.cells rm.slots (T.setTop (F m))) : own_Met l Z y bytes maxL ret ws rm as' h0 Q := by
  refine MetFree.of_bodySF pn hisR ?_
  intro p e s m args below meth c s₁ Bd hml0 hP hK
  obtain ⟨rfl, hZ, hh⟩ := hP
  have := body p e s m below meth c s₁ Bd.exec Bd.bytes hml0 (BodyLoose.notSynchronized Bd) Bd.returns hZ (findClass_of_methodNamed Bd.named) (name_of_methodNamed Bd.named Bd.method).1 (Stand.of_body Bd) (by rw [← hh, Bd.state]; rfl)
  rw [← hF m] at this
  exact this
theorem own_callS (X : Stand p l e R s m args below meth c T locs cells slots) (hx : p.tables.exec = Jvm.exec) (hZ : Z.Warmed39 s.vm) {own : String} {index : Nat} {y : MethodName} {bytes : ByteArray} {maxL : Nat} {ret : Option FieldType} {rm : Room} {Qc : Option Value → Heap → List Loc → Prop}
    (hown : s.vm.findClass own = some m.cls) (w1 : (Cond.methodLink own index y).before a0 Z = true) (w2 : (Cond.static y).before a0 Z = true) (w3 : (Cond.initialized y.cls).before a0 Z = true) (w4 : (Cond.code y bytes maxL ret).before a0 Z = true)
    (hy : y.cls ≠ "java/lang/invoke/MethodHandle" ∧ y.cls ≠ "java/lang/invoke/VarHandle") (eT : T.heap = h) {argsL rest st0 : List Value} (hM : own_Met l Z y bytes maxL ret [] rm argsL.toArray h Qc) {W pc : Nat} {Ls : Array Slot}
    (hsz : Ls.size = c.maxLocals) (hlen : ∀ sig, parseMethodDescriptor y.desc = some sig → argsL.length = sig.parameters.length) (hst : st0 = argsL.reverse ++ rest) (hW : (rest.map fun v => v.category).sum ≤ W) (hd : decode c.code pc = .ok (.invokestatic index, 3))
    (hf : rm.frames + 1 ≤ R.frames) (hl : W + (maxL + 11) + rm.locals ≤ R.locals) (hc : cells + rm.cells ≤ R.cells) (hs : slots + rm.slots ≤ R.slots)
    (k : ∀ v T' L, Stand p l e R s m args below meth c T' (locs ++ L) (cells + rm.cells) (slots + rm.slots) → Qc v T'.heap L → own_Ends p e below s Q kc kn (T'.setTop (mkF m (pc + 3) Ls (v.toList ++ rest)))) :
    own_Ends p e below s Q kc kn (T.setTop (mkF m pc Ls st0)) := by
  obtain ⟨v, _, ⟨T', L', k', n'⟩, -, X', ⟨Lc, hQ, l1, y1, z1⟩, st⟩ := Jvm.LawKit.callS X hx (y := y) hown (mvT hZ w1) (mvT hZ w2) (mvT hZ w3) (mvT hZ w4) hy (backOf (W := W) hM hZ w4 w3 hf hl) (g := mkF m pc Ls st0) rfl hsz (argsL := argsL) (rest := rest) hlen hst (by show 2 * 0 + _ ≤ _; simpa using hW) hd (fun _ _ => ⟨rfl, eT, hc, hs⟩)
  dsimp only [Pt.U, Pt.locs, Pt.cells, Pt.slots] at X' l1 y1 z1 st hQ
  subst l1 y1 z1
  exact own_pre st (k v T' Lc X' hQ)
theorem own_callI (X : Stand p l e R s m args below meth c T locs cells slots) (hx : p.tables.exec = Jvm.exec) (hZ : Z.Warmed39 s.vm) {own : String} {index : Nat} {y : MethodName} {bytes : ByteArray} {maxL : Nat} {rm : Room} {Qc : Option Value → Heap → List Loc → Prop} {b : Addr}
    (hown : s.vm.findClass own = some m.cls) (hy1 : y.name = "<init>") (w1 : (Cond.methodLink own index y).before a0 Z = true) (w2 : (Cond.instanceMethod y).before a0 Z = true) (w4 : (Cond.code y bytes maxL none).before a0 Z = true) (w3 : (Cond.initialized y.cls).before a0 Z = true)
    (hy : y.cls ≠ "java/lang/invoke/MethodHandle" ∧ y.cls ≠ "java/lang/invoke/VarHandle") (eT : T.heap = h) {argsL rest st0 : List Value} (hM : own_Met l Z y bytes maxL none [] rm (.ref b :: argsL).toArray h Qc) {W pc : Nat} {Ls : Array Slot}
    (hsz : Ls.size = c.maxLocals) (hlen : ∀ sig, parseMethodDescriptor y.desc = some sig → argsL.length = sig.parameters.length) (hst : st0 = argsL.reverse ++ .ref b :: rest) (hW : (rest.map fun v => v.category).sum ≤ W) (hd : decode c.code pc = .ok (.invokespecial index, 3))
    (hf : rm.frames + 1 ≤ R.frames) (hl : W + (maxL + 11) + rm.locals ≤ R.locals) (hc : cells + rm.cells ≤ R.cells) (hs : slots + rm.slots ≤ R.slots)
    (k : ∀ v T' L, Stand p l e R s m args below meth c T' (locs ++ L) (cells + rm.cells) (slots + rm.slots) → Qc v T'.heap L → own_Ends p e below s Q kc kn (T'.setTop (mkF m (pc + 3) Ls (v.toList ++ rest)))) :
    own_Ends p e below s Q kc kn (T.setTop (mkF m pc Ls st0)) := by
  obtain ⟨v, _, ⟨T', L', k', n'⟩, -, X', ⟨Lc, hQ, l1, y1, z1⟩, st⟩ := X.specialBack hx (y := y) hy1 hown (mvT hZ w1) (mvT hZ w2) (mvT hZ w4) hy (backOf (W := W) hM hZ w4 w3 hf hl) (g := mkF m pc Ls st0) rfl hsz (Steps.refl _) (a := b) (argsL := argsL) (rest := rest) hlen hst (by show 2 * 0 + _ ≤ _; simpa using hW) hd (fun _ _ => ⟨rfl, eT, hc, hs⟩)
  dsimp only [Pt.U, Pt.locs, Pt.cells, Pt.slots] at X' l1 y1 z1 st hQ
  subst l1 y1 z1
  exact own_pre (fun t k => st.trans k) (k v T' Lc X' hQ)
theorem own_callV (X : Stand p l e R s m args below meth c T locs cells slots) (hx : p.tables.exec = Jvm.exec) (hZ : Z.Warmed39 s.vm) {own C : String} {index : Nat} {y : MethodName} {bytes : ByteArray} {maxL : Nat} {ret : Option FieldType} {rm : Room} {Qc : Option Value → Heap → List Loc → Prop} {b : Addr}
    (hown : s.vm.findClass own = some m.cls) (w1 : (Cond.methodLink own index y).before a0 Z = true) (w2 : (Cond.declares y).before a0 Z = true) (w3 : (Cond.selects C y y).before a0 Z = true) (w4 : (Cond.instanceMethod y).before a0 Z = true) (w5 : (Cond.code y bytes maxL ret).before a0 Z = true) (w6 : (Cond.initialized y.cls).before a0 Z = true)
    (hy : y.cls ≠ "java/lang/invoke/MethodHandle" ∧ y.cls ≠ "java/lang/invoke/VarHandle") (eT : T.heap = h) (E : Exa Z h b C) {argsL rest st0 : List Value} (hM : own_Met l Z y bytes maxL ret [] rm (.ref b :: argsL).toArray h Qc) {W pc : Nat} {Ls : Array Slot}
    (hsz : Ls.size = c.maxLocals) (hlen : ∀ sig, parseMethodDescriptor y.desc = some sig → argsL.length = sig.parameters.length) (hst : st0 = argsL.reverse ++ .ref b :: rest) (hW : (rest.map fun v => v.category).sum ≤ W) (hd : decode c.code pc = .ok (.invokevirtual index, 3))
    (hf : rm.frames + 1 ≤ R.frames) (hl : W + (maxL + 11) + rm.locals ≤ R.locals) (hc : cells + rm.cells ≤ R.cells) (hs : slots + rm.slots ≤ R.slots)
    (k : ∀ v T' L, Stand p l e R s m args below meth c T' (locs ++ L) (cells + rm.cells) (slots + rm.slots) → Qc v T'.heap L → own_Ends p e below s Q kc kn (T'.setTop (mkF m (pc + 3) Ls (v.toList ++ rest)))) :
    own_Ends p e below s Q kc kn (T.setTop (mkF m pc Ls st0)) := by
  obtain ⟨cq, kq, qa, qb, qc⟩ := isOf hZ eT E
  obtain ⟨v, _, ⟨T', L', k', n'⟩, -, X', ⟨Lc, hQ, l1, y1, z1⟩, st⟩ := X.virtualBack hx (y := y) (z := y) hown (mvT hZ w1) (mvT hZ w2) (notFace_of_selects (args := #[]) (mvT hZ w3)) (mvT hZ w3) (mvT hZ w4) hy (backOf (W := W) hM hZ w5 w6 hf hl) qa qc (g := mkF m pc Ls st0) rfl hsz (Steps.refl _) (argsL := argsL) (rest := rest) hlen hst (by show 2 * 0 + _ ≤ _; simpa using hW) hd (fun _ _ => ⟨rfl, eT, hc, hs⟩)
  dsimp only [Pt.U, Pt.locs, Pt.cells, Pt.slots] at X' l1 y1 z1 st hQ
  subst l1 y1 z1
  exact own_pre (fun t k => st.trans k) (k v T' Lc X' hQ)
theorem own_eqi {t : Term} {k : Int32} {args : Array Value} {s : State} (h : (Jvm.Cond.eq t (Term.int k)).value args s none s [] = some true) : t.eval args s none [] s = some (.int k) := by
  obtain ⟨x, y, h1, h2, -, h3⟩ := cmp_v (Or.inl h)
  have h4 : y = .int k := (Option.some.inj ((Term.int_eval k).symm.trans h2)).symm
  subst h4
  obtain ⟨z, rfl⟩ := h3
  have h5 : (Jvm.Cond.eq t (Term.int k)).value args s none s [] = some (decide (z = k)) := by simp [Cond.value, h1, h2]
  rw [h1, gotT h5 h]
theorem own_fieldOf {t : Term} {C n d : String} {k : Int32} {a : Addr} {args : Array Value} {s : State} (ht : t.eval args s none [] s = some (.ref a)) (h : (Jvm.Cond.eq (Term.field t C n d) (Term.int k)).value args s none s [] = some true) : Fld s s.heap a C n d (.int k) :=
  Fld.start ((fld_at ht).symm.trans (own_eqi h))
theorem own_st1 {Ls Ls' : Array Slot} {k : Nat} {o : Slot} {v : Value} (hold : Ls[k]? = some o) (ho : One o) (hv : v.category = 1) (he : Ls.setIfInBounds k (.val v) = Ls') : storeLocals Ls k v = some Ls' := he ▸ XS.store1 hold ho hv
theorem own_catV {v : Value} (hv : v.isRef = true) : v.category = 1 := by rcases ref_cases hv with rfl | ⟨_, rfl⟩ <;> rfl
theorem own_narV {v : Value} {t : FieldType} (hv : v.isRef = true) (ht : t.isReference = true) : narrow t v = v := by
  rcases ref_cases hv with rfl | ⟨_, rfl⟩ <;> cases t <;> first | rfl | (cases ht; done)
theorem own_narC {x : Int32} (h : 0 ≤ x.toInt ∧ x.toInt ≤ 65535) : nar .char x = x := by
  have q := c_i2c x
  rw [← Int32.toInt_inj]
  show (x.toUInt32.toUInt16.toUInt32.toInt32).toInt = x.toInt
  omega
theorem own_narZ {x : Int32} (h : x = 0 ∨ x = 1) : narrow .boolean (.int x) = .int x := by rcases h with rfl | rfl <;> rfl
def own_plain (h : Heap) (x : Addr) : Prop := ∃ c : Cell, h[x]? = some c ∧ c.vm.isStatics = false
theorem own_plainE {a : Addr} {C : String} (F : Exa Z h a C) : own_plain h a := by obtain ⟨c, k, h1, -, -, h4, -⟩ := F; exact ⟨c, h1, h4⟩
theorem own_sta_keep {h' : Heap} {ws : List Addr} {C n d : String} {v : Value} (F : Sta Z h C n d v) (K : Keep h h' ws) (q : ∀ x ∈ ws, own_plain h x) : Sta Z h' C n d v := by
  obtain ⟨cf, i, k, f, st, cell, h1, h2, h3, h4, h5, h6, h7⟩ := F
  refine ⟨cf, i, k, f, st, cell, h1, h2, h3, h4, K.2.1 _ _ h5 fun y => ?_, h6, h7⟩
  obtain ⟨c, z1, z2⟩ := q _ y
  cases h5.symm.trans z1
  rw [z2] at h6; cases h6
end Own
theorem own_m255 (x : Int32) : 0 ≤ (x &&& (255 : Int32)).toInt ∧ (x &&& (255 : Int32)).toInt ≤ 65535 := by
  have h := c_mask x 255 8 (by decide) (by decide)
  rw [h]; omega
theorem own_m64k (x : Int32) : 0 ≤ (x &&& (65535 : Int32)).toInt ∧ (x &&& (65535 : Int32)).toInt ≤ 65535 := by
  have h := c_mask x 65535 16 (by decide) (by decide)
  rw [h]; omega
theorem own_m15 (x : Int32) : 0 ≤ ((8224 : Int32) + (x &&& (15 : Int32))).toInt ∧ ((8224 : Int32) + (x &&& (15 : Int32))).toInt ≤ 65535 := by
  have h := c_mask x 15 4 (by decide) (by decide)
  have h1 := c_iadd (8224 : Int32) (x &&& (15 : Int32))
  have h2 := rng32 ((8224 : Int32) + (x &&& (15 : Int32)))
  rw [h] at h1
  simp only [Int32.reduceToInt] at h1
  omega
theorem own_d1_0 : decode prog_30_method_6_code 0 = .ok (.aload_n 0, 1) := by decide +kernel
theorem own_d1_1 : decode prog_30_method_6_code 1 = .ok (.getstatic 3, 3) := by decide +kernel
theorem own_d1_4 : decode prog_30_method_6_code 4 = .ok (.if_acmp .ne 15, 3) := by decide +kernel
theorem own_d1_7 : decode prog_30_method_6_code 7 = .ok (.iload_n 1, 1) := by decide +kernel
theorem own_d1_8 : decode prog_30_method_6_code 8 = .ok (.bipush 13, 2) := by decide +kernel
theorem own_d1_10 : decode prog_30_method_6_code 10 = .ok (.if_icmp .ne 7, 3) := by decide +kernel
theorem own_d1_13 : decode prog_30_method_6_code 13 = .ok (.iconst 1, 1) := by decide +kernel
theorem own_d1_14 : decode prog_30_method_6_code 14 = .ok (.goto 4, 3) := by decide +kernel
theorem own_d1_17 : decode prog_30_method_6_code 17 = .ok (.iconst 0, 1) := by decide +kernel
theorem own_d1_18 : decode prog_30_method_6_code 18 = .ok (.ireturn, 1) := by decide +kernel
theorem own_d1_19 : decode prog_30_method_6_code 19 = .ok (.iload_n 1, 1) := by decide +kernel
theorem own_d1_20 : decode prog_30_method_6_code 20 = .ok (.bipush 32, 2) := by decide +kernel
theorem own_d1_22 : decode prog_30_method_6_code 22 = .ok (.if_icmp .ge 21, 3) := by decide +kernel
theorem own_d1_25 : decode prog_30_method_6_code 25 = .ok (.iload_n 1, 1) := by decide +kernel
theorem own_d1_26 : decode prog_30_method_6_code 26 = .ok (.bipush 9, 2) := by decide +kernel
theorem own_d1_28 : decode prog_30_method_6_code 28 = .ok (.if_icmp .eq 13, 3) := by decide +kernel
theorem own_d1_31 : decode prog_30_method_6_code 31 = .ok (.iload_n 1, 1) := by decide +kernel
theorem own_d1_32 : decode prog_30_method_6_code 32 = .ok (.bipush 10, 2) := by decide +kernel
theorem own_d1_34 : decode prog_30_method_6_code 34 = .ok (.if_icmp .eq 7, 3) := by decide +kernel
theorem own_d1_37 : decode prog_30_method_6_code 37 = .ok (.iconst 1, 1) := by decide +kernel
theorem own_d1_38 : decode prog_30_method_6_code 38 = .ok (.goto 4, 3) := by decide +kernel
theorem own_d1_41 : decode prog_30_method_6_code 41 = .ok (.iconst 0, 1) := by decide +kernel
theorem own_d1_42 : decode prog_30_method_6_code 42 = .ok (.ireturn, 1) := by decide +kernel
theorem own_d1_43 : decode prog_30_method_6_code 43 = .ok (.iload_n 1, 1) := by decide +kernel
theorem own_d1_44 : decode prog_30_method_6_code 44 = .ok (.bipush 127, 2) := by decide +kernel
theorem own_d1_46 : decode prog_30_method_6_code 46 = .ok (.if_icmp .lt 10, 3) := by decide +kernel
theorem own_d1_49 : decode prog_30_method_6_code 49 = .ok (.iload_n 1, 1) := by decide +kernel
theorem own_d1_50 : decode prog_30_method_6_code 50 = .ok (.sipush 159, 3) := by decide +kernel
theorem own_d1_53 : decode prog_30_method_6_code 53 = .ok (.if_icmp .le 10, 3) := by decide +kernel
theorem own_d1_56 : decode prog_30_method_6_code 56 = .ok (.iload_n 1, 1) := by decide +kernel
theorem own_d1_57 : decode prog_30_method_6_code 57 = .ok (.sipush 8232, 3) := by decide +kernel
theorem own_d1_60 : decode prog_30_method_6_code 60 = .ok (.if_icmp .ne 7, 3) := by decide +kernel
theorem own_d1_63 : decode prog_30_method_6_code 63 = .ok (.iconst 1, 1) := by decide +kernel
theorem own_d1_64 : decode prog_30_method_6_code 64 = .ok (.goto 4, 3) := by decide +kernel
theorem own_d1_67 : decode prog_30_method_6_code 67 = .ok (.iconst 0, 1) := by decide +kernel
theorem own_d1_68 : decode prog_30_method_6_code 68 = .ok (.ireturn, 1) := by decide +kernel
theorem own_pn0 : plainFor (⟨"com/example/cadmus/cadmus/XmlVersion", "needsReference", "(C)Z"⟩ : MethodName) = true := by first | exact plainFor_of_name (by first | (simp [plainName, overriddenIn]; done) | decide +kernel) | decide +kernel
theorem own_pn1 : plainFor (⟨"com/example/cadmus/cadmus/XmlVersionNeedsReferencePinLaw", "law", "(II)Z"⟩ : MethodName) = true := by first | exact plainFor_of_name (by first | (simp [plainName, overriddenIn]; done) | decide +kernel) | decide +kernel
theorem own_pd0 : parseMethodDescriptor "(C)Z" = some ⟨[.char], some .boolean⟩ := by decide +kernel
theorem own_ef_own_nr (m : MethodId) (x0 : Addr) (x1 : Int32) : entryFrame m #[(.ref x0), (.int x1)] 2 = mkF m 0 #[.val (.ref x0), .val (.int x1)] [] := by first | (simp [entryFrame, mkF, argsToLocals, Value.category]; done) | rfl
theorem own_ef_own_law (m : MethodId) (x0 : Int32) (x1 : Int32) : entryFrame m #[(.int x0), (.int x1)] maxLocals = mkF m 0 #[.val (.int x0), .val (.int x1), .unset, .unset, .unset, .unset, .unset] [] := by first | (simp [entryFrame, mkF, argsToLocals, Value.category, maxLocals]; done) | rfl
set_option maxRecDepth 65536 in
set_option maxHeartbeats 40000000 in
theorem own_nr (l : Launch) (Z : State) (a0 : Array Value) (hw : ∀ d ∈ tables_1, d.before a0 Z = true) (ws : List Jvm.Cond) (a a10 : Addr) (cc r : Int32) (h0 : Heap) (n0 : Nat) (Z0 : n0 ≤ h0.size) (hr1 : a = a10 → (cc.toInt = 13 ∧ r = 1) ∨ (¬ cc.toInt = 13 ∧ r = 0)) (hr2 : ¬ a = a10 → (((cc.toInt < 32 ∧ cc.toInt ≠ 9 ∧ cc.toInt ≠ 10) ∨ (127 ≤ cc.toInt ∧ cc.toInt ≤ 159) ∨ cc.toInt = 8232) ∧ r = 1) ∨ (¬ ((cc.toInt < 32 ∧ cc.toInt ≠ 9 ∧ cc.toInt ≠ 10) ∨ (127 ≤ cc.toInt ∧ cc.toInt ≤ 159) ∨ cc.toInt = 8232) ∧ r = 0)) (S_0 : Sta Z h0 "com/example/cadmus/cadmus/XmlVersion" "XML_1_0" "Lcom/example/cadmus/cadmus/XmlVersion;" (.ref a10)) :
    own_Met l Z (⟨"com/example/cadmus/cadmus/XmlVersion", "needsReference", "(C)Z"⟩ : MethodName) prog_30_method_6_code 2 (some .boolean) ws ({ frames := 0, cells := 0, slots := 0, locals := 0 } : Room) #[(.ref a), (.int cc)] h0 (fun v h L => v = some (.int r) ∧ Fr n0 L ∧ h = h0) := by
  refine own_body own_pn0 (fun m => mkF m 0 #[.val (.ref a), .val (.int cc)] []) (fun m => own_ef_own_nr m a cc) ?_
  intro p e s m below meth c T0 hx hby hml hlk hrt hZ hown hnm X0 e0
  have hown : s.vm.findClass "com/example/cadmus/cadmus/XmlVersion" = some m.cls := hown
  have N0 := Fr.nil n0
  refine own_pre (S' := (T0.setTop (mkF m 1 #[.val (.ref a), .val (.int cc)] [(.ref a)]))) (fun t k => XS.aloadN X0.here hx rfl (hb hby own_d1_0) rfl rfl k) ?_
  obtain ⟨T1, X1, e1, st1⟩ := getS2 X0 hx hZ hown (host := "") (Or.inl (hw _ (List.mem_of_getElem? (i := 9) rfl))) Via.refl e0 S_0 (g := (mkF m 1 #[.val (.ref a), .val (.int cc)] [(.ref a)])) rfl (hb hby own_d1_1)
  refine own_pre (S' := (T1.setTop (mkF m 4 #[.val (.ref a), .val (.int cc)] [(.ref a10), (.ref a)]))) st1 ?_
  by_cases c4 : a = a10
  · -- pc 4
    refine own_pre (S' := (T1.setTop (mkF m 7 #[.val (.ref a), .val (.int cc)] []))) (fun t k => Jvm.RoadKit.acmp (g := (mkF m 4 #[.val (.ref a), .val (.int cc)] [(.ref a10), (.ref a)])) X1 hx rfl rfl rfl (pc0 := 4) (pc' := 7) (same := true) rfl (hb hby own_d1_4) rfl (decide_eq_true (congrArg Value.ref c4)) (by decide) (by decide) k) ?_
    refine own_pre (S' := (T1.setTop (mkF m 8 #[.val (.ref a), .val (.int cc)] [(.int cc)]))) (fun t k => XS.iloadN X1.here hx rfl (hb hby own_d1_7) rfl k) ?_
    refine own_pre (S' := (T1.setTop (mkF m 10 #[.val (.ref a), .val (.int cc)] [(.int (13 : Int32)), (.int cc)]))) (fun t k => XS.bipush X1.here hx rfl (hb hby own_d1_8) k) ?_
    by_cases c10 : cc = (13 : Int32)
    · -- pc 10: cc = (13 : Int32)
      refine own_pre (S' := (T1.setTop (mkF m 13 #[.val (.ref a), .val (.int cc)] []))) (fun t k => XS.icmpNo X1.here hx rfl (hb hby own_d1_10) rfl (teq c10).2 k) ?_
      refine own_pre (S' := (T1.setTop (mkF m 14 #[.val (.ref a), .val (.int cc)] [(.int (1 : Int32))]))) (fun t k => XS.iconst X1.here hx rfl (hb hby own_d1_13) k) ?_
      refine own_pre (S' := (T1.setTop (mkF m 18 #[.val (.ref a), .val (.int cc)] [(.int (1 : Int32))]))) (fun t k => XS.goto X1.here hx rfl (pc0 := 14) (pc' := 18) rfl (hb hby own_d1_14) (by decide) (by decide) k) ?_
      refine own_ret (t := .boolean) X1 hx hlk hrt rfl (Or.inl ⟨rfl, by simp, _, rfl⟩) (hb hby own_d1_18) (by decide) (by decide) ?_
      have hr := hr1 c4
      refine ⟨?_, N0, e1⟩
      rcases hr with ⟨q, rfl⟩ | ⟨q, rfl⟩ <;> first | rfl | (exfalso; simp only [Int32.lt_iff_toInt_lt, ← Int32.toInt_inj, Int32.reduceToInt] at c10; omega)
    · -- pc 10: not cc = (13 : Int32)
      refine own_pre (S' := (T1.setTop (mkF m 17 #[.val (.ref a), .val (.int cc)] []))) (fun t k => XS.icmpYes X1.here hx rfl (pc0 := 10) (pc' := 17) rfl (hb hby own_d1_10) rfl (feq c10).2 (by decide) (by decide) k) ?_
      refine own_pre (S' := (T1.setTop (mkF m 18 #[.val (.ref a), .val (.int cc)] [(.int (0 : Int32))]))) (fun t k => XS.iconst X1.here hx rfl (hb hby own_d1_17) k) ?_
      refine own_ret (t := .boolean) X1 hx hlk hrt rfl (Or.inl ⟨rfl, by simp, _, rfl⟩) (hb hby own_d1_18) (by decide) (by decide) ?_
      have hr := hr1 c4
      refine ⟨?_, N0, e1⟩
      rcases hr with ⟨q, rfl⟩ | ⟨q, rfl⟩ <;> first | rfl | (exfalso; simp only [Int32.lt_iff_toInt_lt, ← Int32.toInt_inj, Int32.reduceToInt] at c10; omega)
  · -- pc 4
    refine own_pre (S' := (T1.setTop (mkF m 19 #[.val (.ref a), .val (.int cc)] []))) (fun t k => Jvm.RoadKit.acmp (g := (mkF m 4 #[.val (.ref a), .val (.int cc)] [(.ref a10), (.ref a)])) X1 hx rfl rfl rfl (pc0 := 4) (pc' := 19) (same := false) rfl (hb hby own_d1_4) rfl (decide_eq_false fun q => c4 (Value.ref.inj q)) (by decide) (by decide) k) ?_
    refine own_pre (S' := (T1.setTop (mkF m 20 #[.val (.ref a), .val (.int cc)] [(.int cc)]))) (fun t k => XS.iloadN X1.here hx rfl (hb hby own_d1_19) rfl k) ?_
    refine own_pre (S' := (T1.setTop (mkF m 22 #[.val (.ref a), .val (.int cc)] [(.int (32 : Int32)), (.int cc)]))) (fun t k => XS.bipush X1.here hx rfl (hb hby own_d1_20) k) ?_
    by_cases c22 : cc < (32 : Int32)
    · -- pc 22: cc < (32 : Int32)
      refine own_pre (S' := (T1.setTop (mkF m 25 #[.val (.ref a), .val (.int cc)] []))) (fun t k => XS.icmpNo X1.here hx rfl (hb hby own_d1_22) rfl (tlt c22).2.1 k) ?_
      refine own_pre (S' := (T1.setTop (mkF m 26 #[.val (.ref a), .val (.int cc)] [(.int cc)]))) (fun t k => XS.iloadN X1.here hx rfl (hb hby own_d1_25) rfl k) ?_
      refine own_pre (S' := (T1.setTop (mkF m 28 #[.val (.ref a), .val (.int cc)] [(.int (9 : Int32)), (.int cc)]))) (fun t k => XS.bipush X1.here hx rfl (hb hby own_d1_26) k) ?_
      by_cases c28 : cc = (9 : Int32)
      · -- pc 28: cc = (9 : Int32)
        refine own_pre (S' := (T1.setTop (mkF m 41 #[.val (.ref a), .val (.int cc)] []))) (fun t k => XS.icmpYes X1.here hx rfl (pc0 := 28) (pc' := 41) rfl (hb hby own_d1_28) rfl (teq c28).1 (by decide) (by decide) k) ?_
        refine own_pre (S' := (T1.setTop (mkF m 42 #[.val (.ref a), .val (.int cc)] [(.int (0 : Int32))]))) (fun t k => XS.iconst X1.here hx rfl (hb hby own_d1_41) k) ?_
        refine own_ret (t := .boolean) X1 hx hlk hrt rfl (Or.inl ⟨rfl, by simp, _, rfl⟩) (hb hby own_d1_42) (by decide) (by decide) ?_
        have hr := hr2 c4
        refine ⟨?_, N0, e1⟩
        rcases hr with ⟨q, rfl⟩ | ⟨q, rfl⟩ <;> first | rfl | (exfalso; simp only [Int32.lt_iff_toInt_lt, ← Int32.toInt_inj, Int32.reduceToInt] at c22 c28; omega)
      · -- pc 28: not cc = (9 : Int32)
        refine own_pre (S' := (T1.setTop (mkF m 31 #[.val (.ref a), .val (.int cc)] []))) (fun t k => XS.icmpNo X1.here hx rfl (hb hby own_d1_28) rfl (feq c28).1 k) ?_
        refine own_pre (S' := (T1.setTop (mkF m 32 #[.val (.ref a), .val (.int cc)] [(.int cc)]))) (fun t k => XS.iloadN X1.here hx rfl (hb hby own_d1_31) rfl k) ?_
        refine own_pre (S' := (T1.setTop (mkF m 34 #[.val (.ref a), .val (.int cc)] [(.int (10 : Int32)), (.int cc)]))) (fun t k => XS.bipush X1.here hx rfl (hb hby own_d1_32) k) ?_
        by_cases c34 : cc = (10 : Int32)
        · -- pc 34: cc = (10 : Int32)
          refine own_pre (S' := (T1.setTop (mkF m 41 #[.val (.ref a), .val (.int cc)] []))) (fun t k => XS.icmpYes X1.here hx rfl (pc0 := 34) (pc' := 41) rfl (hb hby own_d1_34) rfl (teq c34).1 (by decide) (by decide) k) ?_
          refine own_pre (S' := (T1.setTop (mkF m 42 #[.val (.ref a), .val (.int cc)] [(.int (0 : Int32))]))) (fun t k => XS.iconst X1.here hx rfl (hb hby own_d1_41) k) ?_
          refine own_ret (t := .boolean) X1 hx hlk hrt rfl (Or.inl ⟨rfl, by simp, _, rfl⟩) (hb hby own_d1_42) (by decide) (by decide) ?_
          have hr := hr2 c4
          refine ⟨?_, N0, e1⟩
          rcases hr with ⟨q, rfl⟩ | ⟨q, rfl⟩ <;> first | rfl | (exfalso; simp only [Int32.lt_iff_toInt_lt, ← Int32.toInt_inj, Int32.reduceToInt] at c22 c28 c34; omega)
        · -- pc 34: not cc = (10 : Int32)
          refine own_pre (S' := (T1.setTop (mkF m 37 #[.val (.ref a), .val (.int cc)] []))) (fun t k => XS.icmpNo X1.here hx rfl (hb hby own_d1_34) rfl (feq c34).1 k) ?_
          refine own_pre (S' := (T1.setTop (mkF m 38 #[.val (.ref a), .val (.int cc)] [(.int (1 : Int32))]))) (fun t k => XS.iconst X1.here hx rfl (hb hby own_d1_37) k) ?_
          refine own_pre (S' := (T1.setTop (mkF m 42 #[.val (.ref a), .val (.int cc)] [(.int (1 : Int32))]))) (fun t k => XS.goto X1.here hx rfl (pc0 := 38) (pc' := 42) rfl (hb hby own_d1_38) (by decide) (by decide) k) ?_
          refine own_ret (t := .boolean) X1 hx hlk hrt rfl (Or.inl ⟨rfl, by simp, _, rfl⟩) (hb hby own_d1_42) (by decide) (by decide) ?_
          have hr := hr2 c4
          refine ⟨?_, N0, e1⟩
          rcases hr with ⟨q, rfl⟩ | ⟨q, rfl⟩ <;> first | rfl | (exfalso; simp only [Int32.lt_iff_toInt_lt, ← Int32.toInt_inj, Int32.reduceToInt] at c22 c28 c34; omega)
    · -- pc 22: not cc < (32 : Int32)
      refine own_pre (S' := (T1.setTop (mkF m 43 #[.val (.ref a), .val (.int cc)] []))) (fun t k => XS.icmpYes X1.here hx rfl (pc0 := 22) (pc' := 43) rfl (hb hby own_d1_22) rfl (flt c22).2.1 (by decide) (by decide) k) ?_
      refine own_pre (S' := (T1.setTop (mkF m 44 #[.val (.ref a), .val (.int cc)] [(.int cc)]))) (fun t k => XS.iloadN X1.here hx rfl (hb hby own_d1_43) rfl k) ?_
      refine own_pre (S' := (T1.setTop (mkF m 46 #[.val (.ref a), .val (.int cc)] [(.int (127 : Int32)), (.int cc)]))) (fun t k => XS.bipush X1.here hx rfl (hb hby own_d1_44) k) ?_
      by_cases c46 : cc < (127 : Int32)
      · -- pc 46: cc < (127 : Int32)
        refine own_pre (S' := (T1.setTop (mkF m 56 #[.val (.ref a), .val (.int cc)] []))) (fun t k => XS.icmpYes X1.here hx rfl (pc0 := 46) (pc' := 56) rfl (hb hby own_d1_46) rfl (tlt c46).1 (by decide) (by decide) k) ?_
        refine own_pre (S' := (T1.setTop (mkF m 57 #[.val (.ref a), .val (.int cc)] [(.int cc)]))) (fun t k => XS.iloadN X1.here hx rfl (hb hby own_d1_56) rfl k) ?_
        refine own_pre (S' := (T1.setTop (mkF m 60 #[.val (.ref a), .val (.int cc)] [(.int (8232 : Int32)), (.int cc)]))) (fun t k => XS.sipush X1.here hx rfl (hb hby own_d1_57) k) ?_
        by_cases c60 : cc = (8232 : Int32)
        · -- pc 60: cc = (8232 : Int32)
          refine own_pre (S' := (T1.setTop (mkF m 63 #[.val (.ref a), .val (.int cc)] []))) (fun t k => XS.icmpNo X1.here hx rfl (hb hby own_d1_60) rfl (teq c60).2 k) ?_
          refine own_pre (S' := (T1.setTop (mkF m 64 #[.val (.ref a), .val (.int cc)] [(.int (1 : Int32))]))) (fun t k => XS.iconst X1.here hx rfl (hb hby own_d1_63) k) ?_
          refine own_pre (S' := (T1.setTop (mkF m 68 #[.val (.ref a), .val (.int cc)] [(.int (1 : Int32))]))) (fun t k => XS.goto X1.here hx rfl (pc0 := 64) (pc' := 68) rfl (hb hby own_d1_64) (by decide) (by decide) k) ?_
          refine own_ret (t := .boolean) X1 hx hlk hrt rfl (Or.inl ⟨rfl, by simp, _, rfl⟩) (hb hby own_d1_68) (by decide) (by decide) ?_
          have hr := hr2 c4
          refine ⟨?_, N0, e1⟩
          rcases hr with ⟨q, rfl⟩ | ⟨q, rfl⟩ <;> first | rfl | (exfalso; simp only [Int32.lt_iff_toInt_lt, ← Int32.toInt_inj, Int32.reduceToInt] at c22 c46 c60; omega)
        · -- pc 60: not cc = (8232 : Int32)
          refine own_pre (S' := (T1.setTop (mkF m 67 #[.val (.ref a), .val (.int cc)] []))) (fun t k => XS.icmpYes X1.here hx rfl (pc0 := 60) (pc' := 67) rfl (hb hby own_d1_60) rfl (feq c60).2 (by decide) (by decide) k) ?_
          refine own_pre (S' := (T1.setTop (mkF m 68 #[.val (.ref a), .val (.int cc)] [(.int (0 : Int32))]))) (fun t k => XS.iconst X1.here hx rfl (hb hby own_d1_67) k) ?_
          refine own_ret (t := .boolean) X1 hx hlk hrt rfl (Or.inl ⟨rfl, by simp, _, rfl⟩) (hb hby own_d1_68) (by decide) (by decide) ?_
          have hr := hr2 c4
          refine ⟨?_, N0, e1⟩
          rcases hr with ⟨q, rfl⟩ | ⟨q, rfl⟩ <;> first | rfl | (exfalso; simp only [Int32.lt_iff_toInt_lt, ← Int32.toInt_inj, Int32.reduceToInt] at c22 c46 c60; omega)
      · -- pc 46: not cc < (127 : Int32)
        refine own_pre (S' := (T1.setTop (mkF m 49 #[.val (.ref a), .val (.int cc)] []))) (fun t k => XS.icmpNo X1.here hx rfl (hb hby own_d1_46) rfl (flt c46).1 k) ?_
        refine own_pre (S' := (T1.setTop (mkF m 50 #[.val (.ref a), .val (.int cc)] [(.int cc)]))) (fun t k => XS.iloadN X1.here hx rfl (hb hby own_d1_49) rfl k) ?_
        refine own_pre (S' := (T1.setTop (mkF m 53 #[.val (.ref a), .val (.int cc)] [(.int (159 : Int32)), (.int cc)]))) (fun t k => XS.sipush X1.here hx rfl (hb hby own_d1_50) k) ?_
        by_cases c53 : (159 : Int32) < cc
        · -- pc 53: (159 : Int32) < cc
          refine own_pre (S' := (T1.setTop (mkF m 56 #[.val (.ref a), .val (.int cc)] []))) (fun t k => XS.icmpNo X1.here hx rfl (hb hby own_d1_53) rfl (tlt c53).2.2.2 k) ?_
          refine own_pre (S' := (T1.setTop (mkF m 57 #[.val (.ref a), .val (.int cc)] [(.int cc)]))) (fun t k => XS.iloadN X1.here hx rfl (hb hby own_d1_56) rfl k) ?_
          refine own_pre (S' := (T1.setTop (mkF m 60 #[.val (.ref a), .val (.int cc)] [(.int (8232 : Int32)), (.int cc)]))) (fun t k => XS.sipush X1.here hx rfl (hb hby own_d1_57) k) ?_
          by_cases c60 : cc = (8232 : Int32)
          · -- pc 60: cc = (8232 : Int32)
            refine own_pre (S' := (T1.setTop (mkF m 63 #[.val (.ref a), .val (.int cc)] []))) (fun t k => XS.icmpNo X1.here hx rfl (hb hby own_d1_60) rfl (teq c60).2 k) ?_
            refine own_pre (S' := (T1.setTop (mkF m 64 #[.val (.ref a), .val (.int cc)] [(.int (1 : Int32))]))) (fun t k => XS.iconst X1.here hx rfl (hb hby own_d1_63) k) ?_
            refine own_pre (S' := (T1.setTop (mkF m 68 #[.val (.ref a), .val (.int cc)] [(.int (1 : Int32))]))) (fun t k => XS.goto X1.here hx rfl (pc0 := 64) (pc' := 68) rfl (hb hby own_d1_64) (by decide) (by decide) k) ?_
            refine own_ret (t := .boolean) X1 hx hlk hrt rfl (Or.inl ⟨rfl, by simp, _, rfl⟩) (hb hby own_d1_68) (by decide) (by decide) ?_
            have hr := hr2 c4
            refine ⟨?_, N0, e1⟩
            rcases hr with ⟨q, rfl⟩ | ⟨q, rfl⟩ <;> first | rfl | (exfalso; simp only [Int32.lt_iff_toInt_lt, ← Int32.toInt_inj, Int32.reduceToInt] at c22 c46 c53 c60; omega)
          · -- pc 60: not cc = (8232 : Int32)
            refine own_pre (S' := (T1.setTop (mkF m 67 #[.val (.ref a), .val (.int cc)] []))) (fun t k => XS.icmpYes X1.here hx rfl (pc0 := 60) (pc' := 67) rfl (hb hby own_d1_60) rfl (feq c60).2 (by decide) (by decide) k) ?_
            refine own_pre (S' := (T1.setTop (mkF m 68 #[.val (.ref a), .val (.int cc)] [(.int (0 : Int32))]))) (fun t k => XS.iconst X1.here hx rfl (hb hby own_d1_67) k) ?_
            refine own_ret (t := .boolean) X1 hx hlk hrt rfl (Or.inl ⟨rfl, by simp, _, rfl⟩) (hb hby own_d1_68) (by decide) (by decide) ?_
            have hr := hr2 c4
            refine ⟨?_, N0, e1⟩
            rcases hr with ⟨q, rfl⟩ | ⟨q, rfl⟩ <;> first | rfl | (exfalso; simp only [Int32.lt_iff_toInt_lt, ← Int32.toInt_inj, Int32.reduceToInt] at c22 c46 c53 c60; omega)
        · -- pc 53: not (159 : Int32) < cc
          refine own_pre (S' := (T1.setTop (mkF m 63 #[.val (.ref a), .val (.int cc)] []))) (fun t k => XS.icmpYes X1.here hx rfl (pc0 := 53) (pc' := 63) rfl (hb hby own_d1_53) rfl (flt c53).2.2.2 (by decide) (by decide) k) ?_
          refine own_pre (S' := (T1.setTop (mkF m 64 #[.val (.ref a), .val (.int cc)] [(.int (1 : Int32))]))) (fun t k => XS.iconst X1.here hx rfl (hb hby own_d1_63) k) ?_
          refine own_pre (S' := (T1.setTop (mkF m 68 #[.val (.ref a), .val (.int cc)] [(.int (1 : Int32))]))) (fun t k => XS.goto X1.here hx rfl (pc0 := 64) (pc' := 68) rfl (hb hby own_d1_64) (by decide) (by decide) k) ?_
          refine own_ret (t := .boolean) X1 hx hlk hrt rfl (Or.inl ⟨rfl, by simp, _, rfl⟩) (hb hby own_d1_68) (by decide) (by decide) ?_
          have hr := hr2 c4
          refine ⟨?_, N0, e1⟩
          rcases hr with ⟨q, rfl⟩ | ⟨q, rfl⟩ <;> first | rfl | (exfalso; simp only [Int32.lt_iff_toInt_lt, ← Int32.toInt_inj, Int32.reduceToInt] at c22 c46 c53; omega)
set_option maxRecDepth 65536 in
set_option maxHeartbeats 40000000 in
theorem own_law (l : Launch) (Z : State) (a0 : Array Value) (hw : ∀ d ∈ tables_1, d.before a0 Z = true) (ws : List Jvm.Cond) (i0 i1 : Int32) (a_XML_1_0 : Addr) (a_XML_1_1 : Addr) (h0 : Heap) (n0 : Nat) (Z0 : n0 ≤ h0.size) (S_XML_1_0 : Sta Z h0 "com/example/cadmus/cadmus/XmlVersion" "XML_1_0" "Lcom/example/cadmus/cadmus/XmlVersion;" (.ref a_XML_1_0)) (E_XML_1_0 : Exa Z h0 a_XML_1_0 "com/example/cadmus/cadmus/XmlVersion") (S_XML_1_1 : Sta Z h0 "com/example/cadmus/cadmus/XmlVersion" "XML_1_1" "Lcom/example/cadmus/cadmus/XmlVersion;" (.ref a_XML_1_1)) (E_XML_1_1 : Exa Z h0 a_XML_1_1 "com/example/cadmus/cadmus/XmlVersion") (ne_XML_1_0_XML_1_1 : a_XML_1_0 ≠ a_XML_1_1) :
    own_Met l Z x code maxLocals ret ws room_1 #[(.int i0), (.int i1)] h0 (fun v h L => v = some (.int 1) ∧ Fr n0 L) := by
  refine own_body own_pn1 (fun m => mkF m 0 #[.val (.int i0), .val (.int i1), .unset, .unset, .unset, .unset, .unset] []) (fun m => own_ef_own_law m i0 i1) ?_
  intro p e s m below meth c T0 hx hby hml hlk hrt hZ hown hnm X0 e0
  have hown : s.vm.findClass "com/example/cadmus/cadmus/XmlVersionNeedsReferencePinLaw" = some m.cls := hown
  have N0 := Fr.nil n0
  have J1 : ∀ (code : Int32) (hc : 0 ≤ code.toInt ∧ code.toInt ≤ 65535), own_Ends p e below s (fun v h L => v = some (.int 1) ∧ Fr n0 L) room_1.cells room_1.slots (T0.setTop (mkF m 50 #[.val (.int i0), .val (.int i1), .val (.int (1 : Int32)), .val (.int code), .unset, .unset, .unset] [])) := by
    intro code hc
    refine own_pre (S' := (T0.setTop (mkF m 51 #[.val (.int i0), .val (.int i1), .val (.int (1 : Int32)), .val (.int code), .unset, .unset, .unset] [(.int code)]))) (fun t k => XS.iloadN X0.here hx rfl (hb hby at_50) rfl k) ?_
    refine own_pre (S' := (T0.setTop (mkF m 52 #[.val (.int i0), .val (.int i1), .val (.int (1 : Int32)), .val (.int code), .unset, .unset, .unset] [(.int (code.toUInt32.toUInt16.toUInt32.toInt32))]))) (fun t k => XS.i2c X0.here hx rfl (hb hby at_51) rfl k) ?_
    refine own_pre (S' := (T0.setTop (mkF m 54 #[.val (.int i0), .val (.int i1), .val (.int (1 : Int32)), .val (.int code), .val (.int (code.toUInt32.toUInt16.toUInt32.toInt32)), .unset, .unset] []))) (fun t k => XS.istore X0.here hx rfl (hb hby at_52) rfl (l' := #[.val (.int i0), .val (.int i1), .val (.int (1 : Int32)), .val (.int code), .val (.int (code.toUInt32.toUInt16.toUInt32.toInt32)), .unset, .unset]) rfl k) ?_
    refine own_pre (S' := (T0.setTop (mkF m 55 #[.val (.int i0), .val (.int i1), .val (.int (1 : Int32)), .val (.int code), .val (.int (code.toUInt32.toUInt16.toUInt32.toInt32)), .unset, .unset] [(.int (1 : Int32))]))) (fun t k => XS.iloadN X0.here hx rfl (hb hby at_54) rfl k) ?_
    refine own_pre (S' := (T0.setTop (mkF m 58 #[.val (.int i0), .val (.int i1), .val (.int (1 : Int32)), .val (.int code), .val (.int (code.toUInt32.toUInt16.toUInt32.toInt32)), .unset, .unset] []))) (fun t k => XS.ifNo X0.here hx rfl (hb hby at_55) rfl ((if0 _ _).trans (feq (by decide : ¬ ((1 : Int32) = (0 : Int32)))).1) k) ?_
    obtain ⟨T1, X1, e1, st1⟩ := getS2 X0 hx hZ hown (host := "") (Or.inl (hw _ (List.mem_of_getElem? (i := 10) rfl))) Via.refl e0 S_XML_1_1 (g := (mkF m 58 #[.val (.int i0), .val (.int i1), .val (.int (1 : Int32)), .val (.int code), .val (.int (code.toUInt32.toUInt16.toUInt32.toInt32)), .unset, .unset] [])) rfl (hb hby at_58)
    refine own_pre (S' := (T1.setTop (mkF m 61 #[.val (.int i0), .val (.int i1), .val (.int (1 : Int32)), .val (.int code), .val (.int (code.toUInt32.toUInt16.toUInt32.toInt32)), .unset, .unset] [(.ref a_XML_1_1)]))) st1 ?_
    refine own_pre (S' := (T1.setTop (mkF m 67 #[.val (.int i0), .val (.int i1), .val (.int (1 : Int32)), .val (.int code), .val (.int (code.toUInt32.toUInt16.toUInt32.toInt32)), .unset, .unset] [(.ref a_XML_1_1)]))) (fun t k => XS.goto X1.here hx rfl (pc0 := 61) (pc' := 67) rfl (hb hby at_61) (by decide) (by decide) k) ?_
    refine own_pre (S' := (T1.setTop (mkF m 69 #[.val (.int i0), .val (.int i1), .val (.int (1 : Int32)), .val (.int code), .val (.int (code.toUInt32.toUInt16.toUInt32.toInt32)), .val (.ref a_XML_1_1), .unset] []))) (fun t k => XS.astore X1.here hx rfl (hb hby at_67) rfl rfl (l' := #[.val (.int i0), .val (.int i1), .val (.int (1 : Int32)), .val (.int code), .val (.int (code.toUInt32.toUInt16.toUInt32.toInt32)), .val (.ref a_XML_1_1), .unset]) rfl k) ?_
    refine own_pre (S' := (T1.setTop (mkF m 70 #[.val (.int i0), .val (.int i1), .val (.int (1 : Int32)), .val (.int code), .val (.int (code.toUInt32.toUInt16.toUInt32.toInt32)), .val (.ref a_XML_1_1), .unset] [(.int (1 : Int32))]))) (fun t k => XS.iloadN X1.here hx rfl (hb hby at_69) rfl k) ?_
    refine own_pre (S' := (T1.setTop (mkF m 89 #[.val (.int i0), .val (.int i1), .val (.int (1 : Int32)), .val (.int code), .val (.int (code.toUInt32.toUInt16.toUInt32.toInt32)), .val (.ref a_XML_1_1), .unset] []))) (fun t k => XS.ifYes X1.here hx rfl (pc0 := 70) (pc' := 89) rfl (hb hby at_70) rfl ((if0 _ _).trans (feq (by decide : ¬ ((1 : Int32) = (0 : Int32)))).2) (by decide) (by decide) k) ?_
    refine own_pre (S' := (T1.setTop (mkF m 90 #[.val (.int i0), .val (.int i1), .val (.int (1 : Int32)), .val (.int code), .val (.int (code.toUInt32.toUInt16.toUInt32.toInt32)), .val (.ref a_XML_1_1), .unset] [(.int code)]))) (fun t k => XS.iloadN X1.here hx rfl (hb hby at_89) rfl k) ?_
    refine own_pre (S' := (T1.setTop (mkF m 92 #[.val (.int i0), .val (.int i1), .val (.int (1 : Int32)), .val (.int code), .val (.int (code.toUInt32.toUInt16.toUInt32.toInt32)), .val (.ref a_XML_1_1), .unset] [(.int (8 : Int32)), (.int code)]))) (fun t k => XS.bipush X1.here hx rfl (hb hby at_90) k) ?_
    by_cases c92 : (8 : Int32) < code
    · -- pc 92: (8 : Int32) < code
      refine own_pre (S' := (T1.setTop (mkF m 95 #[.val (.int i0), .val (.int i1), .val (.int (1 : Int32)), .val (.int code), .val (.int (code.toUInt32.toUInt16.toUInt32.toInt32)), .val (.ref a_XML_1_1), .unset] []))) (fun t k => XS.icmpNo X1.here hx rfl (hb hby at_92) rfl (tlt c92).2.2.2 k) ?_
      refine own_pre (S' := (T1.setTop (mkF m 96 #[.val (.int i0), .val (.int i1), .val (.int (1 : Int32)), .val (.int code), .val (.int (code.toUInt32.toUInt16.toUInt32.toInt32)), .val (.ref a_XML_1_1), .unset] [(.int code)]))) (fun t k => XS.iloadN X1.here hx rfl (hb hby at_95) rfl k) ?_
      refine own_pre (S' := (T1.setTop (mkF m 98 #[.val (.int i0), .val (.int i1), .val (.int (1 : Int32)), .val (.int code), .val (.int (code.toUInt32.toUInt16.toUInt32.toInt32)), .val (.ref a_XML_1_1), .unset] [(.int (11 : Int32)), (.int code)]))) (fun t k => XS.bipush X1.here hx rfl (hb hby at_96) k) ?_
      by_cases c98 : code < (11 : Int32)
      · -- pc 98: code < (11 : Int32)
        refine own_pre (S' := (T1.setTop (mkF m 107 #[.val (.int i0), .val (.int i1), .val (.int (1 : Int32)), .val (.int code), .val (.int (code.toUInt32.toUInt16.toUInt32.toInt32)), .val (.ref a_XML_1_1), .unset] []))) (fun t k => XS.icmpYes X1.here hx rfl (pc0 := 98) (pc' := 107) rfl (hb hby at_98) rfl (tlt c98).1 (by decide) (by decide) k) ?_
        refine own_pre (S' := (T1.setTop (mkF m 108 #[.val (.int i0), .val (.int i1), .val (.int (1 : Int32)), .val (.int code), .val (.int (code.toUInt32.toUInt16.toUInt32.toInt32)), .val (.ref a_XML_1_1), .unset] [(.int code)]))) (fun t k => XS.iloadN X1.here hx rfl (hb hby at_107) rfl k) ?_
        refine own_pre (S' := (T1.setTop (mkF m 110 #[.val (.int i0), .val (.int i1), .val (.int (1 : Int32)), .val (.int code), .val (.int (code.toUInt32.toUInt16.toUInt32.toInt32)), .val (.ref a_XML_1_1), .unset] [(.int (127 : Int32)), (.int code)]))) (fun t k => XS.bipush X1.here hx rfl (hb hby at_108) k) ?_
        by_cases c110 : code < (127 : Int32)
        · -- pc 110: code < (127 : Int32)
          refine own_pre (S' := (T1.setTop (mkF m 120 #[.val (.int i0), .val (.int i1), .val (.int (1 : Int32)), .val (.int code), .val (.int (code.toUInt32.toUInt16.toUInt32.toInt32)), .val (.ref a_XML_1_1), .unset] []))) (fun t k => XS.icmpYes X1.here hx rfl (pc0 := 110) (pc' := 120) rfl (hb hby at_110) rfl (tlt c110).1 (by decide) (by decide) k) ?_
          refine own_pre (S' := (T1.setTop (mkF m 121 #[.val (.int i0), .val (.int i1), .val (.int (1 : Int32)), .val (.int code), .val (.int (code.toUInt32.toUInt16.toUInt32.toInt32)), .val (.ref a_XML_1_1), .unset] [(.int code)]))) (fun t k => XS.iloadN X1.here hx rfl (hb hby at_120) rfl k) ?_
          refine own_pre (S' := (T1.setTop (mkF m 124 #[.val (.int i0), .val (.int i1), .val (.int (1 : Int32)), .val (.int code), .val (.int (code.toUInt32.toUInt16.toUInt32.toInt32)), .val (.ref a_XML_1_1), .unset] [(.int (8232 : Int32)), (.int code)]))) (fun t k => XS.sipush X1.here hx rfl (hb hby at_121) k) ?_
          by_cases c124 : code = (8232 : Int32)
          · -- pc 124: code = (8232 : Int32)
            refine own_pre (S' := (T1.setTop (mkF m 127 #[.val (.int i0), .val (.int i1), .val (.int (1 : Int32)), .val (.int code), .val (.int (code.toUInt32.toUInt16.toUInt32.toInt32)), .val (.ref a_XML_1_1), .unset] []))) (fun t k => XS.icmpNo X1.here hx rfl (hb hby at_124) rfl (teq c124).2 k) ?_
            refine own_pre (S' := (T1.setTop (mkF m 128 #[.val (.int i0), .val (.int i1), .val (.int (1 : Int32)), .val (.int code), .val (.int (code.toUInt32.toUInt16.toUInt32.toInt32)), .val (.ref a_XML_1_1), .unset] [(.int (1 : Int32))]))) (fun t k => XS.iconst X1.here hx rfl (hb hby at_127) k) ?_
            refine own_pre (S' := (T1.setTop (mkF m 132 #[.val (.int i0), .val (.int i1), .val (.int (1 : Int32)), .val (.int code), .val (.int (code.toUInt32.toUInt16.toUInt32.toInt32)), .val (.ref a_XML_1_1), .unset] [(.int (1 : Int32))]))) (fun t k => XS.goto X1.here hx rfl (pc0 := 128) (pc' := 132) rfl (hb hby at_128) (by decide) (by decide) k) ?_
            refine own_pre (S' := (T1.setTop (mkF m 134 #[.val (.int i0), .val (.int i1), .val (.int (1 : Int32)), .val (.int code), .val (.int (code.toUInt32.toUInt16.toUInt32.toInt32)), .val (.ref a_XML_1_1), .val (.int (1 : Int32))] []))) (fun t k => XS.istore X1.here hx rfl (hb hby at_132) rfl (l' := #[.val (.int i0), .val (.int i1), .val (.int (1 : Int32)), .val (.int code), .val (.int (code.toUInt32.toUInt16.toUInt32.toInt32)), .val (.ref a_XML_1_1), .val (.int (1 : Int32))]) rfl k) ?_
            refine own_pre (S' := (T1.setTop (mkF m 136 #[.val (.int i0), .val (.int i1), .val (.int (1 : Int32)), .val (.int code), .val (.int (code.toUInt32.toUInt16.toUInt32.toInt32)), .val (.ref a_XML_1_1), .val (.int (1 : Int32))] [(.ref a_XML_1_1)]))) (fun t k => XS.aload X1.here hx rfl (hb hby at_134) rfl rfl k) ?_
            refine own_pre (S' := (T1.setTop (mkF m 138 #[.val (.int i0), .val (.int i1), .val (.int (1 : Int32)), .val (.int code), .val (.int (code.toUInt32.toUInt16.toUInt32.toInt32)), .val (.ref a_XML_1_1), .val (.int (1 : Int32))] [(.int (code.toUInt32.toUInt16.toUInt32.toInt32)), (.ref a_XML_1_1)]))) (fun t k => XS.iload X1.here hx rfl (hb hby at_136) rfl k) ?_
            have hic := c_i2c code
            simp only [Int32.lt_iff_toInt_lt, ← Int32.toInt_inj, Int32.reduceToInt] at c92 c98 c110 c124
            refine own_callV (C := "com/example/cadmus/cadmus/XmlVersion") (y := (⟨"com/example/cadmus/cadmus/XmlVersion", "needsReference", "(C)Z"⟩ : MethodName)) (b := a_XML_1_1) X1 hx hZ hown (hw _ (List.mem_of_getElem? (i := 4) rfl)) (hw _ (List.mem_of_getElem? (i := 5) rfl)) (hw _ (List.mem_of_getElem? (i := 7) rfl)) (hw _ (List.mem_of_getElem? (i := 6) rfl)) (hw _ (List.mem_of_getElem? (i := 8) rfl)) (hw _ (List.mem_of_getElem? (i := 2) rfl)) (by decide) e1 E_XML_1_1 (hM := own_nr l Z a0 hw [] a_XML_1_1 a_XML_1_0 (code.toUInt32.toUInt16.toUInt32.toInt32) (1 : Int32) h0 n0 Z0 (fun q => absurd q (Ne.symm ne_XML_1_0_XML_1_1)) (fun _ => by first | (left; exact ⟨by omega, rfl⟩) | (right; exact ⟨by omega, rfl⟩)) S_XML_1_0) (W := 0) (pc := 138) (Ls := #[.val (.int i0), .val (.int i1), .val (.int (1 : Int32)), .val (.int code), .val (.int (code.toUInt32.toUInt16.toUInt32.toInt32)), .val (.ref a_XML_1_1), .val (.int (1 : Int32))]) (argsL := [(.int (code.toUInt32.toUInt16.toUInt32.toInt32))]) (rest := []) (st0 := [(.int (code.toUInt32.toUInt16.toUInt32.toInt32)), (.ref a_XML_1_1)]) (by rw [hml]; rfl) (lenOf own_pd0 rfl) rfl (Nat.le_of_eq rfl) (hb hby at_138) (by decide) (by decide) (by decide) (by decide) ?_
            intro v2 T2 L2 X2 hQ2
            obtain ⟨rfl, Nq2, hh2⟩ := hQ2
            have N2 := Fr.app N0 Nq2
            show own_Ends p e below s _ _ _ (T2.setTop (mkF m 141 #[.val (.int i0), .val (.int i1), .val (.int (1 : Int32)), .val (.int code), .val (.int (code.toUInt32.toUInt16.toUInt32.toInt32)), .val (.ref a_XML_1_1), .val (.int (1 : Int32))] [(.int (1 : Int32))]))
            refine own_pre (S' := (T2.setTop (mkF m 143 #[.val (.int i0), .val (.int i1), .val (.int (1 : Int32)), .val (.int code), .val (.int (code.toUInt32.toUInt16.toUInt32.toInt32)), .val (.ref a_XML_1_1), .val (.int (1 : Int32))] [(.int (1 : Int32)), (.int (1 : Int32))]))) (fun t k => XS.iload X2.here hx rfl (hb hby at_141) rfl k) ?_
            refine own_pre (S' := (T2.setTop (mkF m 146 #[.val (.int i0), .val (.int i1), .val (.int (1 : Int32)), .val (.int code), .val (.int (code.toUInt32.toUInt16.toUInt32.toInt32)), .val (.ref a_XML_1_1), .val (.int (1 : Int32))] []))) (fun t k => XS.icmpNo X2.here hx rfl (hb hby at_143) rfl (teq (by decide : ((1 : Int32) = (1 : Int32)))).2 k) ?_
            refine own_pre (S' := (T2.setTop (mkF m 147 #[.val (.int i0), .val (.int i1), .val (.int (1 : Int32)), .val (.int code), .val (.int (code.toUInt32.toUInt16.toUInt32.toInt32)), .val (.ref a_XML_1_1), .val (.int (1 : Int32))] [(.int (1 : Int32))]))) (fun t k => XS.iconst X2.here hx rfl (hb hby at_146) k) ?_
            refine own_pre (S' := (T2.setTop (mkF m 151 #[.val (.int i0), .val (.int i1), .val (.int (1 : Int32)), .val (.int code), .val (.int (code.toUInt32.toUInt16.toUInt32.toInt32)), .val (.ref a_XML_1_1), .val (.int (1 : Int32))] [(.int (1 : Int32))]))) (fun t k => XS.goto X2.here hx rfl (pc0 := 147) (pc' := 151) rfl (hb hby at_147) (by decide) (by decide) k) ?_
            refine own_ret (t := .boolean) X2 hx hlk hrt rfl (Or.inl ⟨rfl, by simp, _, rfl⟩) (hb hby at_151) (by decide) (by decide) ?_
            exact ⟨rfl, N2⟩
          · -- pc 124: not code = (8232 : Int32)
            refine own_pre (S' := (T1.setTop (mkF m 131 #[.val (.int i0), .val (.int i1), .val (.int (1 : Int32)), .val (.int code), .val (.int (code.toUInt32.toUInt16.toUInt32.toInt32)), .val (.ref a_XML_1_1), .unset] []))) (fun t k => XS.icmpYes X1.here hx rfl (pc0 := 124) (pc' := 131) rfl (hb hby at_124) rfl (feq c124).2 (by decide) (by decide) k) ?_
            refine own_pre (S' := (T1.setTop (mkF m 132 #[.val (.int i0), .val (.int i1), .val (.int (1 : Int32)), .val (.int code), .val (.int (code.toUInt32.toUInt16.toUInt32.toInt32)), .val (.ref a_XML_1_1), .unset] [(.int (0 : Int32))]))) (fun t k => XS.iconst X1.here hx rfl (hb hby at_131) k) ?_
            refine own_pre (S' := (T1.setTop (mkF m 134 #[.val (.int i0), .val (.int i1), .val (.int (1 : Int32)), .val (.int code), .val (.int (code.toUInt32.toUInt16.toUInt32.toInt32)), .val (.ref a_XML_1_1), .val (.int (0 : Int32))] []))) (fun t k => XS.istore X1.here hx rfl (hb hby at_132) rfl (l' := #[.val (.int i0), .val (.int i1), .val (.int (1 : Int32)), .val (.int code), .val (.int (code.toUInt32.toUInt16.toUInt32.toInt32)), .val (.ref a_XML_1_1), .val (.int (0 : Int32))]) rfl k) ?_
            refine own_pre (S' := (T1.setTop (mkF m 136 #[.val (.int i0), .val (.int i1), .val (.int (1 : Int32)), .val (.int code), .val (.int (code.toUInt32.toUInt16.toUInt32.toInt32)), .val (.ref a_XML_1_1), .val (.int (0 : Int32))] [(.ref a_XML_1_1)]))) (fun t k => XS.aload X1.here hx rfl (hb hby at_134) rfl rfl k) ?_
            refine own_pre (S' := (T1.setTop (mkF m 138 #[.val (.int i0), .val (.int i1), .val (.int (1 : Int32)), .val (.int code), .val (.int (code.toUInt32.toUInt16.toUInt32.toInt32)), .val (.ref a_XML_1_1), .val (.int (0 : Int32))] [(.int (code.toUInt32.toUInt16.toUInt32.toInt32)), (.ref a_XML_1_1)]))) (fun t k => XS.iload X1.here hx rfl (hb hby at_136) rfl k) ?_
            have hic := c_i2c code
            simp only [Int32.lt_iff_toInt_lt, ← Int32.toInt_inj, Int32.reduceToInt] at c92 c98 c110 c124
            refine own_callV (C := "com/example/cadmus/cadmus/XmlVersion") (y := (⟨"com/example/cadmus/cadmus/XmlVersion", "needsReference", "(C)Z"⟩ : MethodName)) (b := a_XML_1_1) X1 hx hZ hown (hw _ (List.mem_of_getElem? (i := 4) rfl)) (hw _ (List.mem_of_getElem? (i := 5) rfl)) (hw _ (List.mem_of_getElem? (i := 7) rfl)) (hw _ (List.mem_of_getElem? (i := 6) rfl)) (hw _ (List.mem_of_getElem? (i := 8) rfl)) (hw _ (List.mem_of_getElem? (i := 2) rfl)) (by decide) e1 E_XML_1_1 (hM := own_nr l Z a0 hw [] a_XML_1_1 a_XML_1_0 (code.toUInt32.toUInt16.toUInt32.toInt32) (0 : Int32) h0 n0 Z0 (fun q => absurd q (Ne.symm ne_XML_1_0_XML_1_1)) (fun _ => by first | (left; exact ⟨by omega, rfl⟩) | (right; exact ⟨by omega, rfl⟩)) S_XML_1_0) (W := 0) (pc := 138) (Ls := #[.val (.int i0), .val (.int i1), .val (.int (1 : Int32)), .val (.int code), .val (.int (code.toUInt32.toUInt16.toUInt32.toInt32)), .val (.ref a_XML_1_1), .val (.int (0 : Int32))]) (argsL := [(.int (code.toUInt32.toUInt16.toUInt32.toInt32))]) (rest := []) (st0 := [(.int (code.toUInt32.toUInt16.toUInt32.toInt32)), (.ref a_XML_1_1)]) (by rw [hml]; rfl) (lenOf own_pd0 rfl) rfl (Nat.le_of_eq rfl) (hb hby at_138) (by decide) (by decide) (by decide) (by decide) ?_
            intro v3 T3 L3 X3 hQ3
            obtain ⟨rfl, Nq3, hh3⟩ := hQ3
            have N3 := Fr.app N0 Nq3
            show own_Ends p e below s _ _ _ (T3.setTop (mkF m 141 #[.val (.int i0), .val (.int i1), .val (.int (1 : Int32)), .val (.int code), .val (.int (code.toUInt32.toUInt16.toUInt32.toInt32)), .val (.ref a_XML_1_1), .val (.int (0 : Int32))] [(.int (0 : Int32))]))
            refine own_pre (S' := (T3.setTop (mkF m 143 #[.val (.int i0), .val (.int i1), .val (.int (1 : Int32)), .val (.int code), .val (.int (code.toUInt32.toUInt16.toUInt32.toInt32)), .val (.ref a_XML_1_1), .val (.int (0 : Int32))] [(.int (0 : Int32)), (.int (0 : Int32))]))) (fun t k => XS.iload X3.here hx rfl (hb hby at_141) rfl k) ?_
            refine own_pre (S' := (T3.setTop (mkF m 146 #[.val (.int i0), .val (.int i1), .val (.int (1 : Int32)), .val (.int code), .val (.int (code.toUInt32.toUInt16.toUInt32.toInt32)), .val (.ref a_XML_1_1), .val (.int (0 : Int32))] []))) (fun t k => XS.icmpNo X3.here hx rfl (hb hby at_143) rfl (teq (by decide : ((0 : Int32) = (0 : Int32)))).2 k) ?_
            refine own_pre (S' := (T3.setTop (mkF m 147 #[.val (.int i0), .val (.int i1), .val (.int (1 : Int32)), .val (.int code), .val (.int (code.toUInt32.toUInt16.toUInt32.toInt32)), .val (.ref a_XML_1_1), .val (.int (0 : Int32))] [(.int (1 : Int32))]))) (fun t k => XS.iconst X3.here hx rfl (hb hby at_146) k) ?_
            refine own_pre (S' := (T3.setTop (mkF m 151 #[.val (.int i0), .val (.int i1), .val (.int (1 : Int32)), .val (.int code), .val (.int (code.toUInt32.toUInt16.toUInt32.toInt32)), .val (.ref a_XML_1_1), .val (.int (0 : Int32))] [(.int (1 : Int32))]))) (fun t k => XS.goto X3.here hx rfl (pc0 := 147) (pc' := 151) rfl (hb hby at_147) (by decide) (by decide) k) ?_
            refine own_ret (t := .boolean) X3 hx hlk hrt rfl (Or.inl ⟨rfl, by simp, _, rfl⟩) (hb hby at_151) (by decide) (by decide) ?_
            exact ⟨rfl, N3⟩
        · -- pc 110: not code < (127 : Int32)
          refine own_pre (S' := (T1.setTop (mkF m 113 #[.val (.int i0), .val (.int i1), .val (.int (1 : Int32)), .val (.int code), .val (.int (code.toUInt32.toUInt16.toUInt32.toInt32)), .val (.ref a_XML_1_1), .unset] []))) (fun t k => XS.icmpNo X1.here hx rfl (hb hby at_110) rfl (flt c110).1 k) ?_
          refine own_pre (S' := (T1.setTop (mkF m 114 #[.val (.int i0), .val (.int i1), .val (.int (1 : Int32)), .val (.int code), .val (.int (code.toUInt32.toUInt16.toUInt32.toInt32)), .val (.ref a_XML_1_1), .unset] [(.int code)]))) (fun t k => XS.iloadN X1.here hx rfl (hb hby at_113) rfl k) ?_
          refine own_pre (S' := (T1.setTop (mkF m 117 #[.val (.int i0), .val (.int i1), .val (.int (1 : Int32)), .val (.int code), .val (.int (code.toUInt32.toUInt16.toUInt32.toInt32)), .val (.ref a_XML_1_1), .unset] [(.int (159 : Int32)), (.int code)]))) (fun t k => XS.sipush X1.here hx rfl (hb hby at_114) k) ?_
          by_cases c117 : (159 : Int32) < code
          · -- pc 117: (159 : Int32) < code
            refine own_pre (S' := (T1.setTop (mkF m 120 #[.val (.int i0), .val (.int i1), .val (.int (1 : Int32)), .val (.int code), .val (.int (code.toUInt32.toUInt16.toUInt32.toInt32)), .val (.ref a_XML_1_1), .unset] []))) (fun t k => XS.icmpNo X1.here hx rfl (hb hby at_117) rfl (tlt c117).2.2.2 k) ?_
            refine own_pre (S' := (T1.setTop (mkF m 121 #[.val (.int i0), .val (.int i1), .val (.int (1 : Int32)), .val (.int code), .val (.int (code.toUInt32.toUInt16.toUInt32.toInt32)), .val (.ref a_XML_1_1), .unset] [(.int code)]))) (fun t k => XS.iloadN X1.here hx rfl (hb hby at_120) rfl k) ?_
            refine own_pre (S' := (T1.setTop (mkF m 124 #[.val (.int i0), .val (.int i1), .val (.int (1 : Int32)), .val (.int code), .val (.int (code.toUInt32.toUInt16.toUInt32.toInt32)), .val (.ref a_XML_1_1), .unset] [(.int (8232 : Int32)), (.int code)]))) (fun t k => XS.sipush X1.here hx rfl (hb hby at_121) k) ?_
            by_cases c124 : code = (8232 : Int32)
            · -- pc 124: code = (8232 : Int32)
              refine own_pre (S' := (T1.setTop (mkF m 127 #[.val (.int i0), .val (.int i1), .val (.int (1 : Int32)), .val (.int code), .val (.int (code.toUInt32.toUInt16.toUInt32.toInt32)), .val (.ref a_XML_1_1), .unset] []))) (fun t k => XS.icmpNo X1.here hx rfl (hb hby at_124) rfl (teq c124).2 k) ?_
              refine own_pre (S' := (T1.setTop (mkF m 128 #[.val (.int i0), .val (.int i1), .val (.int (1 : Int32)), .val (.int code), .val (.int (code.toUInt32.toUInt16.toUInt32.toInt32)), .val (.ref a_XML_1_1), .unset] [(.int (1 : Int32))]))) (fun t k => XS.iconst X1.here hx rfl (hb hby at_127) k) ?_
              refine own_pre (S' := (T1.setTop (mkF m 132 #[.val (.int i0), .val (.int i1), .val (.int (1 : Int32)), .val (.int code), .val (.int (code.toUInt32.toUInt16.toUInt32.toInt32)), .val (.ref a_XML_1_1), .unset] [(.int (1 : Int32))]))) (fun t k => XS.goto X1.here hx rfl (pc0 := 128) (pc' := 132) rfl (hb hby at_128) (by decide) (by decide) k) ?_
              refine own_pre (S' := (T1.setTop (mkF m 134 #[.val (.int i0), .val (.int i1), .val (.int (1 : Int32)), .val (.int code), .val (.int (code.toUInt32.toUInt16.toUInt32.toInt32)), .val (.ref a_XML_1_1), .val (.int (1 : Int32))] []))) (fun t k => XS.istore X1.here hx rfl (hb hby at_132) rfl (l' := #[.val (.int i0), .val (.int i1), .val (.int (1 : Int32)), .val (.int code), .val (.int (code.toUInt32.toUInt16.toUInt32.toInt32)), .val (.ref a_XML_1_1), .val (.int (1 : Int32))]) rfl k) ?_
              refine own_pre (S' := (T1.setTop (mkF m 136 #[.val (.int i0), .val (.int i1), .val (.int (1 : Int32)), .val (.int code), .val (.int (code.toUInt32.toUInt16.toUInt32.toInt32)), .val (.ref a_XML_1_1), .val (.int (1 : Int32))] [(.ref a_XML_1_1)]))) (fun t k => XS.aload X1.here hx rfl (hb hby at_134) rfl rfl k) ?_
              refine own_pre (S' := (T1.setTop (mkF m 138 #[.val (.int i0), .val (.int i1), .val (.int (1 : Int32)), .val (.int code), .val (.int (code.toUInt32.toUInt16.toUInt32.toInt32)), .val (.ref a_XML_1_1), .val (.int (1 : Int32))] [(.int (code.toUInt32.toUInt16.toUInt32.toInt32)), (.ref a_XML_1_1)]))) (fun t k => XS.iload X1.here hx rfl (hb hby at_136) rfl k) ?_
              have hic := c_i2c code
              simp only [Int32.lt_iff_toInt_lt, ← Int32.toInt_inj, Int32.reduceToInt] at c92 c98 c110 c117 c124
              refine own_callV (C := "com/example/cadmus/cadmus/XmlVersion") (y := (⟨"com/example/cadmus/cadmus/XmlVersion", "needsReference", "(C)Z"⟩ : MethodName)) (b := a_XML_1_1) X1 hx hZ hown (hw _ (List.mem_of_getElem? (i := 4) rfl)) (hw _ (List.mem_of_getElem? (i := 5) rfl)) (hw _ (List.mem_of_getElem? (i := 7) rfl)) (hw _ (List.mem_of_getElem? (i := 6) rfl)) (hw _ (List.mem_of_getElem? (i := 8) rfl)) (hw _ (List.mem_of_getElem? (i := 2) rfl)) (by decide) e1 E_XML_1_1 (hM := own_nr l Z a0 hw [] a_XML_1_1 a_XML_1_0 (code.toUInt32.toUInt16.toUInt32.toInt32) (1 : Int32) h0 n0 Z0 (fun q => absurd q (Ne.symm ne_XML_1_0_XML_1_1)) (fun _ => by first | (left; exact ⟨by omega, rfl⟩) | (right; exact ⟨by omega, rfl⟩)) S_XML_1_0) (W := 0) (pc := 138) (Ls := #[.val (.int i0), .val (.int i1), .val (.int (1 : Int32)), .val (.int code), .val (.int (code.toUInt32.toUInt16.toUInt32.toInt32)), .val (.ref a_XML_1_1), .val (.int (1 : Int32))]) (argsL := [(.int (code.toUInt32.toUInt16.toUInt32.toInt32))]) (rest := []) (st0 := [(.int (code.toUInt32.toUInt16.toUInt32.toInt32)), (.ref a_XML_1_1)]) (by rw [hml]; rfl) (lenOf own_pd0 rfl) rfl (Nat.le_of_eq rfl) (hb hby at_138) (by decide) (by decide) (by decide) (by decide) ?_
              intro v4 T4 L4 X4 hQ4
              obtain ⟨rfl, Nq4, hh4⟩ := hQ4
              have N4 := Fr.app N0 Nq4
              show own_Ends p e below s _ _ _ (T4.setTop (mkF m 141 #[.val (.int i0), .val (.int i1), .val (.int (1 : Int32)), .val (.int code), .val (.int (code.toUInt32.toUInt16.toUInt32.toInt32)), .val (.ref a_XML_1_1), .val (.int (1 : Int32))] [(.int (1 : Int32))]))
              refine own_pre (S' := (T4.setTop (mkF m 143 #[.val (.int i0), .val (.int i1), .val (.int (1 : Int32)), .val (.int code), .val (.int (code.toUInt32.toUInt16.toUInt32.toInt32)), .val (.ref a_XML_1_1), .val (.int (1 : Int32))] [(.int (1 : Int32)), (.int (1 : Int32))]))) (fun t k => XS.iload X4.here hx rfl (hb hby at_141) rfl k) ?_
              refine own_pre (S' := (T4.setTop (mkF m 146 #[.val (.int i0), .val (.int i1), .val (.int (1 : Int32)), .val (.int code), .val (.int (code.toUInt32.toUInt16.toUInt32.toInt32)), .val (.ref a_XML_1_1), .val (.int (1 : Int32))] []))) (fun t k => XS.icmpNo X4.here hx rfl (hb hby at_143) rfl (teq (by decide : ((1 : Int32) = (1 : Int32)))).2 k) ?_
              refine own_pre (S' := (T4.setTop (mkF m 147 #[.val (.int i0), .val (.int i1), .val (.int (1 : Int32)), .val (.int code), .val (.int (code.toUInt32.toUInt16.toUInt32.toInt32)), .val (.ref a_XML_1_1), .val (.int (1 : Int32))] [(.int (1 : Int32))]))) (fun t k => XS.iconst X4.here hx rfl (hb hby at_146) k) ?_
              refine own_pre (S' := (T4.setTop (mkF m 151 #[.val (.int i0), .val (.int i1), .val (.int (1 : Int32)), .val (.int code), .val (.int (code.toUInt32.toUInt16.toUInt32.toInt32)), .val (.ref a_XML_1_1), .val (.int (1 : Int32))] [(.int (1 : Int32))]))) (fun t k => XS.goto X4.here hx rfl (pc0 := 147) (pc' := 151) rfl (hb hby at_147) (by decide) (by decide) k) ?_
              refine own_ret (t := .boolean) X4 hx hlk hrt rfl (Or.inl ⟨rfl, by simp, _, rfl⟩) (hb hby at_151) (by decide) (by decide) ?_
              exact ⟨rfl, N4⟩
            · -- pc 124: not code = (8232 : Int32)
              refine own_pre (S' := (T1.setTop (mkF m 131 #[.val (.int i0), .val (.int i1), .val (.int (1 : Int32)), .val (.int code), .val (.int (code.toUInt32.toUInt16.toUInt32.toInt32)), .val (.ref a_XML_1_1), .unset] []))) (fun t k => XS.icmpYes X1.here hx rfl (pc0 := 124) (pc' := 131) rfl (hb hby at_124) rfl (feq c124).2 (by decide) (by decide) k) ?_
              refine own_pre (S' := (T1.setTop (mkF m 132 #[.val (.int i0), .val (.int i1), .val (.int (1 : Int32)), .val (.int code), .val (.int (code.toUInt32.toUInt16.toUInt32.toInt32)), .val (.ref a_XML_1_1), .unset] [(.int (0 : Int32))]))) (fun t k => XS.iconst X1.here hx rfl (hb hby at_131) k) ?_
              refine own_pre (S' := (T1.setTop (mkF m 134 #[.val (.int i0), .val (.int i1), .val (.int (1 : Int32)), .val (.int code), .val (.int (code.toUInt32.toUInt16.toUInt32.toInt32)), .val (.ref a_XML_1_1), .val (.int (0 : Int32))] []))) (fun t k => XS.istore X1.here hx rfl (hb hby at_132) rfl (l' := #[.val (.int i0), .val (.int i1), .val (.int (1 : Int32)), .val (.int code), .val (.int (code.toUInt32.toUInt16.toUInt32.toInt32)), .val (.ref a_XML_1_1), .val (.int (0 : Int32))]) rfl k) ?_
              refine own_pre (S' := (T1.setTop (mkF m 136 #[.val (.int i0), .val (.int i1), .val (.int (1 : Int32)), .val (.int code), .val (.int (code.toUInt32.toUInt16.toUInt32.toInt32)), .val (.ref a_XML_1_1), .val (.int (0 : Int32))] [(.ref a_XML_1_1)]))) (fun t k => XS.aload X1.here hx rfl (hb hby at_134) rfl rfl k) ?_
              refine own_pre (S' := (T1.setTop (mkF m 138 #[.val (.int i0), .val (.int i1), .val (.int (1 : Int32)), .val (.int code), .val (.int (code.toUInt32.toUInt16.toUInt32.toInt32)), .val (.ref a_XML_1_1), .val (.int (0 : Int32))] [(.int (code.toUInt32.toUInt16.toUInt32.toInt32)), (.ref a_XML_1_1)]))) (fun t k => XS.iload X1.here hx rfl (hb hby at_136) rfl k) ?_
              have hic := c_i2c code
              simp only [Int32.lt_iff_toInt_lt, ← Int32.toInt_inj, Int32.reduceToInt] at c92 c98 c110 c117 c124
              refine own_callV (C := "com/example/cadmus/cadmus/XmlVersion") (y := (⟨"com/example/cadmus/cadmus/XmlVersion", "needsReference", "(C)Z"⟩ : MethodName)) (b := a_XML_1_1) X1 hx hZ hown (hw _ (List.mem_of_getElem? (i := 4) rfl)) (hw _ (List.mem_of_getElem? (i := 5) rfl)) (hw _ (List.mem_of_getElem? (i := 7) rfl)) (hw _ (List.mem_of_getElem? (i := 6) rfl)) (hw _ (List.mem_of_getElem? (i := 8) rfl)) (hw _ (List.mem_of_getElem? (i := 2) rfl)) (by decide) e1 E_XML_1_1 (hM := own_nr l Z a0 hw [] a_XML_1_1 a_XML_1_0 (code.toUInt32.toUInt16.toUInt32.toInt32) (0 : Int32) h0 n0 Z0 (fun q => absurd q (Ne.symm ne_XML_1_0_XML_1_1)) (fun _ => by first | (left; exact ⟨by omega, rfl⟩) | (right; exact ⟨by omega, rfl⟩)) S_XML_1_0) (W := 0) (pc := 138) (Ls := #[.val (.int i0), .val (.int i1), .val (.int (1 : Int32)), .val (.int code), .val (.int (code.toUInt32.toUInt16.toUInt32.toInt32)), .val (.ref a_XML_1_1), .val (.int (0 : Int32))]) (argsL := [(.int (code.toUInt32.toUInt16.toUInt32.toInt32))]) (rest := []) (st0 := [(.int (code.toUInt32.toUInt16.toUInt32.toInt32)), (.ref a_XML_1_1)]) (by rw [hml]; rfl) (lenOf own_pd0 rfl) rfl (Nat.le_of_eq rfl) (hb hby at_138) (by decide) (by decide) (by decide) (by decide) ?_
              intro v5 T5 L5 X5 hQ5
              obtain ⟨rfl, Nq5, hh5⟩ := hQ5
              have N5 := Fr.app N0 Nq5
              show own_Ends p e below s _ _ _ (T5.setTop (mkF m 141 #[.val (.int i0), .val (.int i1), .val (.int (1 : Int32)), .val (.int code), .val (.int (code.toUInt32.toUInt16.toUInt32.toInt32)), .val (.ref a_XML_1_1), .val (.int (0 : Int32))] [(.int (0 : Int32))]))
              refine own_pre (S' := (T5.setTop (mkF m 143 #[.val (.int i0), .val (.int i1), .val (.int (1 : Int32)), .val (.int code), .val (.int (code.toUInt32.toUInt16.toUInt32.toInt32)), .val (.ref a_XML_1_1), .val (.int (0 : Int32))] [(.int (0 : Int32)), (.int (0 : Int32))]))) (fun t k => XS.iload X5.here hx rfl (hb hby at_141) rfl k) ?_
              refine own_pre (S' := (T5.setTop (mkF m 146 #[.val (.int i0), .val (.int i1), .val (.int (1 : Int32)), .val (.int code), .val (.int (code.toUInt32.toUInt16.toUInt32.toInt32)), .val (.ref a_XML_1_1), .val (.int (0 : Int32))] []))) (fun t k => XS.icmpNo X5.here hx rfl (hb hby at_143) rfl (teq (by decide : ((0 : Int32) = (0 : Int32)))).2 k) ?_
              refine own_pre (S' := (T5.setTop (mkF m 147 #[.val (.int i0), .val (.int i1), .val (.int (1 : Int32)), .val (.int code), .val (.int (code.toUInt32.toUInt16.toUInt32.toInt32)), .val (.ref a_XML_1_1), .val (.int (0 : Int32))] [(.int (1 : Int32))]))) (fun t k => XS.iconst X5.here hx rfl (hb hby at_146) k) ?_
              refine own_pre (S' := (T5.setTop (mkF m 151 #[.val (.int i0), .val (.int i1), .val (.int (1 : Int32)), .val (.int code), .val (.int (code.toUInt32.toUInt16.toUInt32.toInt32)), .val (.ref a_XML_1_1), .val (.int (0 : Int32))] [(.int (1 : Int32))]))) (fun t k => XS.goto X5.here hx rfl (pc0 := 147) (pc' := 151) rfl (hb hby at_147) (by decide) (by decide) k) ?_
              refine own_ret (t := .boolean) X5 hx hlk hrt rfl (Or.inl ⟨rfl, by simp, _, rfl⟩) (hb hby at_151) (by decide) (by decide) ?_
              exact ⟨rfl, N5⟩
          · -- pc 117: not (159 : Int32) < code
            refine own_pre (S' := (T1.setTop (mkF m 127 #[.val (.int i0), .val (.int i1), .val (.int (1 : Int32)), .val (.int code), .val (.int (code.toUInt32.toUInt16.toUInt32.toInt32)), .val (.ref a_XML_1_1), .unset] []))) (fun t k => XS.icmpYes X1.here hx rfl (pc0 := 117) (pc' := 127) rfl (hb hby at_117) rfl (flt c117).2.2.2 (by decide) (by decide) k) ?_
            refine own_pre (S' := (T1.setTop (mkF m 128 #[.val (.int i0), .val (.int i1), .val (.int (1 : Int32)), .val (.int code), .val (.int (code.toUInt32.toUInt16.toUInt32.toInt32)), .val (.ref a_XML_1_1), .unset] [(.int (1 : Int32))]))) (fun t k => XS.iconst X1.here hx rfl (hb hby at_127) k) ?_
            refine own_pre (S' := (T1.setTop (mkF m 132 #[.val (.int i0), .val (.int i1), .val (.int (1 : Int32)), .val (.int code), .val (.int (code.toUInt32.toUInt16.toUInt32.toInt32)), .val (.ref a_XML_1_1), .unset] [(.int (1 : Int32))]))) (fun t k => XS.goto X1.here hx rfl (pc0 := 128) (pc' := 132) rfl (hb hby at_128) (by decide) (by decide) k) ?_
            refine own_pre (S' := (T1.setTop (mkF m 134 #[.val (.int i0), .val (.int i1), .val (.int (1 : Int32)), .val (.int code), .val (.int (code.toUInt32.toUInt16.toUInt32.toInt32)), .val (.ref a_XML_1_1), .val (.int (1 : Int32))] []))) (fun t k => XS.istore X1.here hx rfl (hb hby at_132) rfl (l' := #[.val (.int i0), .val (.int i1), .val (.int (1 : Int32)), .val (.int code), .val (.int (code.toUInt32.toUInt16.toUInt32.toInt32)), .val (.ref a_XML_1_1), .val (.int (1 : Int32))]) rfl k) ?_
            refine own_pre (S' := (T1.setTop (mkF m 136 #[.val (.int i0), .val (.int i1), .val (.int (1 : Int32)), .val (.int code), .val (.int (code.toUInt32.toUInt16.toUInt32.toInt32)), .val (.ref a_XML_1_1), .val (.int (1 : Int32))] [(.ref a_XML_1_1)]))) (fun t k => XS.aload X1.here hx rfl (hb hby at_134) rfl rfl k) ?_
            refine own_pre (S' := (T1.setTop (mkF m 138 #[.val (.int i0), .val (.int i1), .val (.int (1 : Int32)), .val (.int code), .val (.int (code.toUInt32.toUInt16.toUInt32.toInt32)), .val (.ref a_XML_1_1), .val (.int (1 : Int32))] [(.int (code.toUInt32.toUInt16.toUInt32.toInt32)), (.ref a_XML_1_1)]))) (fun t k => XS.iload X1.here hx rfl (hb hby at_136) rfl k) ?_
            have hic := c_i2c code
            simp only [Int32.lt_iff_toInt_lt, ← Int32.toInt_inj, Int32.reduceToInt] at c92 c98 c110 c117
            refine own_callV (C := "com/example/cadmus/cadmus/XmlVersion") (y := (⟨"com/example/cadmus/cadmus/XmlVersion", "needsReference", "(C)Z"⟩ : MethodName)) (b := a_XML_1_1) X1 hx hZ hown (hw _ (List.mem_of_getElem? (i := 4) rfl)) (hw _ (List.mem_of_getElem? (i := 5) rfl)) (hw _ (List.mem_of_getElem? (i := 7) rfl)) (hw _ (List.mem_of_getElem? (i := 6) rfl)) (hw _ (List.mem_of_getElem? (i := 8) rfl)) (hw _ (List.mem_of_getElem? (i := 2) rfl)) (by decide) e1 E_XML_1_1 (hM := own_nr l Z a0 hw [] a_XML_1_1 a_XML_1_0 (code.toUInt32.toUInt16.toUInt32.toInt32) (1 : Int32) h0 n0 Z0 (fun q => absurd q (Ne.symm ne_XML_1_0_XML_1_1)) (fun _ => by first | (left; exact ⟨by omega, rfl⟩) | (right; exact ⟨by omega, rfl⟩)) S_XML_1_0) (W := 0) (pc := 138) (Ls := #[.val (.int i0), .val (.int i1), .val (.int (1 : Int32)), .val (.int code), .val (.int (code.toUInt32.toUInt16.toUInt32.toInt32)), .val (.ref a_XML_1_1), .val (.int (1 : Int32))]) (argsL := [(.int (code.toUInt32.toUInt16.toUInt32.toInt32))]) (rest := []) (st0 := [(.int (code.toUInt32.toUInt16.toUInt32.toInt32)), (.ref a_XML_1_1)]) (by rw [hml]; rfl) (lenOf own_pd0 rfl) rfl (Nat.le_of_eq rfl) (hb hby at_138) (by decide) (by decide) (by decide) (by decide) ?_
            intro v6 T6 L6 X6 hQ6
            obtain ⟨rfl, Nq6, hh6⟩ := hQ6
            have N6 := Fr.app N0 Nq6
            show own_Ends p e below s _ _ _ (T6.setTop (mkF m 141 #[.val (.int i0), .val (.int i1), .val (.int (1 : Int32)), .val (.int code), .val (.int (code.toUInt32.toUInt16.toUInt32.toInt32)), .val (.ref a_XML_1_1), .val (.int (1 : Int32))] [(.int (1 : Int32))]))
            refine own_pre (S' := (T6.setTop (mkF m 143 #[.val (.int i0), .val (.int i1), .val (.int (1 : Int32)), .val (.int code), .val (.int (code.toUInt32.toUInt16.toUInt32.toInt32)), .val (.ref a_XML_1_1), .val (.int (1 : Int32))] [(.int (1 : Int32)), (.int (1 : Int32))]))) (fun t k => XS.iload X6.here hx rfl (hb hby at_141) rfl k) ?_
            refine own_pre (S' := (T6.setTop (mkF m 146 #[.val (.int i0), .val (.int i1), .val (.int (1 : Int32)), .val (.int code), .val (.int (code.toUInt32.toUInt16.toUInt32.toInt32)), .val (.ref a_XML_1_1), .val (.int (1 : Int32))] []))) (fun t k => XS.icmpNo X6.here hx rfl (hb hby at_143) rfl (teq (by decide : ((1 : Int32) = (1 : Int32)))).2 k) ?_
            refine own_pre (S' := (T6.setTop (mkF m 147 #[.val (.int i0), .val (.int i1), .val (.int (1 : Int32)), .val (.int code), .val (.int (code.toUInt32.toUInt16.toUInt32.toInt32)), .val (.ref a_XML_1_1), .val (.int (1 : Int32))] [(.int (1 : Int32))]))) (fun t k => XS.iconst X6.here hx rfl (hb hby at_146) k) ?_
            refine own_pre (S' := (T6.setTop (mkF m 151 #[.val (.int i0), .val (.int i1), .val (.int (1 : Int32)), .val (.int code), .val (.int (code.toUInt32.toUInt16.toUInt32.toInt32)), .val (.ref a_XML_1_1), .val (.int (1 : Int32))] [(.int (1 : Int32))]))) (fun t k => XS.goto X6.here hx rfl (pc0 := 147) (pc' := 151) rfl (hb hby at_147) (by decide) (by decide) k) ?_
            refine own_ret (t := .boolean) X6 hx hlk hrt rfl (Or.inl ⟨rfl, by simp, _, rfl⟩) (hb hby at_151) (by decide) (by decide) ?_
            exact ⟨rfl, N6⟩
      · -- pc 98: not code < (11 : Int32)
        refine own_pre (S' := (T1.setTop (mkF m 101 #[.val (.int i0), .val (.int i1), .val (.int (1 : Int32)), .val (.int code), .val (.int (code.toUInt32.toUInt16.toUInt32.toInt32)), .val (.ref a_XML_1_1), .unset] []))) (fun t k => XS.icmpNo X1.here hx rfl (hb hby at_98) rfl (flt c98).1 k) ?_
        refine own_pre (S' := (T1.setTop (mkF m 102 #[.val (.int i0), .val (.int i1), .val (.int (1 : Int32)), .val (.int code), .val (.int (code.toUInt32.toUInt16.toUInt32.toInt32)), .val (.ref a_XML_1_1), .unset] [(.int code)]))) (fun t k => XS.iloadN X1.here hx rfl (hb hby at_101) rfl k) ?_
        refine own_pre (S' := (T1.setTop (mkF m 104 #[.val (.int i0), .val (.int i1), .val (.int (1 : Int32)), .val (.int code), .val (.int (code.toUInt32.toUInt16.toUInt32.toInt32)), .val (.ref a_XML_1_1), .unset] [(.int (31 : Int32)), (.int code)]))) (fun t k => XS.bipush X1.here hx rfl (hb hby at_102) k) ?_
        by_cases c104 : (31 : Int32) < code
        · -- pc 104: (31 : Int32) < code
          refine own_pre (S' := (T1.setTop (mkF m 107 #[.val (.int i0), .val (.int i1), .val (.int (1 : Int32)), .val (.int code), .val (.int (code.toUInt32.toUInt16.toUInt32.toInt32)), .val (.ref a_XML_1_1), .unset] []))) (fun t k => XS.icmpNo X1.here hx rfl (hb hby at_104) rfl (tlt c104).2.2.2 k) ?_
          refine own_pre (S' := (T1.setTop (mkF m 108 #[.val (.int i0), .val (.int i1), .val (.int (1 : Int32)), .val (.int code), .val (.int (code.toUInt32.toUInt16.toUInt32.toInt32)), .val (.ref a_XML_1_1), .unset] [(.int code)]))) (fun t k => XS.iloadN X1.here hx rfl (hb hby at_107) rfl k) ?_
          refine own_pre (S' := (T1.setTop (mkF m 110 #[.val (.int i0), .val (.int i1), .val (.int (1 : Int32)), .val (.int code), .val (.int (code.toUInt32.toUInt16.toUInt32.toInt32)), .val (.ref a_XML_1_1), .unset] [(.int (127 : Int32)), (.int code)]))) (fun t k => XS.bipush X1.here hx rfl (hb hby at_108) k) ?_
          by_cases c110 : code < (127 : Int32)
          · -- pc 110: code < (127 : Int32)
            refine own_pre (S' := (T1.setTop (mkF m 120 #[.val (.int i0), .val (.int i1), .val (.int (1 : Int32)), .val (.int code), .val (.int (code.toUInt32.toUInt16.toUInt32.toInt32)), .val (.ref a_XML_1_1), .unset] []))) (fun t k => XS.icmpYes X1.here hx rfl (pc0 := 110) (pc' := 120) rfl (hb hby at_110) rfl (tlt c110).1 (by decide) (by decide) k) ?_
            refine own_pre (S' := (T1.setTop (mkF m 121 #[.val (.int i0), .val (.int i1), .val (.int (1 : Int32)), .val (.int code), .val (.int (code.toUInt32.toUInt16.toUInt32.toInt32)), .val (.ref a_XML_1_1), .unset] [(.int code)]))) (fun t k => XS.iloadN X1.here hx rfl (hb hby at_120) rfl k) ?_
            refine own_pre (S' := (T1.setTop (mkF m 124 #[.val (.int i0), .val (.int i1), .val (.int (1 : Int32)), .val (.int code), .val (.int (code.toUInt32.toUInt16.toUInt32.toInt32)), .val (.ref a_XML_1_1), .unset] [(.int (8232 : Int32)), (.int code)]))) (fun t k => XS.sipush X1.here hx rfl (hb hby at_121) k) ?_
            by_cases c124 : code = (8232 : Int32)
            · -- pc 124: code = (8232 : Int32)
              refine own_pre (S' := (T1.setTop (mkF m 127 #[.val (.int i0), .val (.int i1), .val (.int (1 : Int32)), .val (.int code), .val (.int (code.toUInt32.toUInt16.toUInt32.toInt32)), .val (.ref a_XML_1_1), .unset] []))) (fun t k => XS.icmpNo X1.here hx rfl (hb hby at_124) rfl (teq c124).2 k) ?_
              refine own_pre (S' := (T1.setTop (mkF m 128 #[.val (.int i0), .val (.int i1), .val (.int (1 : Int32)), .val (.int code), .val (.int (code.toUInt32.toUInt16.toUInt32.toInt32)), .val (.ref a_XML_1_1), .unset] [(.int (1 : Int32))]))) (fun t k => XS.iconst X1.here hx rfl (hb hby at_127) k) ?_
              refine own_pre (S' := (T1.setTop (mkF m 132 #[.val (.int i0), .val (.int i1), .val (.int (1 : Int32)), .val (.int code), .val (.int (code.toUInt32.toUInt16.toUInt32.toInt32)), .val (.ref a_XML_1_1), .unset] [(.int (1 : Int32))]))) (fun t k => XS.goto X1.here hx rfl (pc0 := 128) (pc' := 132) rfl (hb hby at_128) (by decide) (by decide) k) ?_
              refine own_pre (S' := (T1.setTop (mkF m 134 #[.val (.int i0), .val (.int i1), .val (.int (1 : Int32)), .val (.int code), .val (.int (code.toUInt32.toUInt16.toUInt32.toInt32)), .val (.ref a_XML_1_1), .val (.int (1 : Int32))] []))) (fun t k => XS.istore X1.here hx rfl (hb hby at_132) rfl (l' := #[.val (.int i0), .val (.int i1), .val (.int (1 : Int32)), .val (.int code), .val (.int (code.toUInt32.toUInt16.toUInt32.toInt32)), .val (.ref a_XML_1_1), .val (.int (1 : Int32))]) rfl k) ?_
              refine own_pre (S' := (T1.setTop (mkF m 136 #[.val (.int i0), .val (.int i1), .val (.int (1 : Int32)), .val (.int code), .val (.int (code.toUInt32.toUInt16.toUInt32.toInt32)), .val (.ref a_XML_1_1), .val (.int (1 : Int32))] [(.ref a_XML_1_1)]))) (fun t k => XS.aload X1.here hx rfl (hb hby at_134) rfl rfl k) ?_
              refine own_pre (S' := (T1.setTop (mkF m 138 #[.val (.int i0), .val (.int i1), .val (.int (1 : Int32)), .val (.int code), .val (.int (code.toUInt32.toUInt16.toUInt32.toInt32)), .val (.ref a_XML_1_1), .val (.int (1 : Int32))] [(.int (code.toUInt32.toUInt16.toUInt32.toInt32)), (.ref a_XML_1_1)]))) (fun t k => XS.iload X1.here hx rfl (hb hby at_136) rfl k) ?_
              have hic := c_i2c code
              simp only [Int32.lt_iff_toInt_lt, ← Int32.toInt_inj, Int32.reduceToInt] at c92 c98 c104 c110 c124
              refine own_callV (C := "com/example/cadmus/cadmus/XmlVersion") (y := (⟨"com/example/cadmus/cadmus/XmlVersion", "needsReference", "(C)Z"⟩ : MethodName)) (b := a_XML_1_1) X1 hx hZ hown (hw _ (List.mem_of_getElem? (i := 4) rfl)) (hw _ (List.mem_of_getElem? (i := 5) rfl)) (hw _ (List.mem_of_getElem? (i := 7) rfl)) (hw _ (List.mem_of_getElem? (i := 6) rfl)) (hw _ (List.mem_of_getElem? (i := 8) rfl)) (hw _ (List.mem_of_getElem? (i := 2) rfl)) (by decide) e1 E_XML_1_1 (hM := own_nr l Z a0 hw [] a_XML_1_1 a_XML_1_0 (code.toUInt32.toUInt16.toUInt32.toInt32) (1 : Int32) h0 n0 Z0 (fun q => absurd q (Ne.symm ne_XML_1_0_XML_1_1)) (fun _ => by first | (left; exact ⟨by omega, rfl⟩) | (right; exact ⟨by omega, rfl⟩)) S_XML_1_0) (W := 0) (pc := 138) (Ls := #[.val (.int i0), .val (.int i1), .val (.int (1 : Int32)), .val (.int code), .val (.int (code.toUInt32.toUInt16.toUInt32.toInt32)), .val (.ref a_XML_1_1), .val (.int (1 : Int32))]) (argsL := [(.int (code.toUInt32.toUInt16.toUInt32.toInt32))]) (rest := []) (st0 := [(.int (code.toUInt32.toUInt16.toUInt32.toInt32)), (.ref a_XML_1_1)]) (by rw [hml]; rfl) (lenOf own_pd0 rfl) rfl (Nat.le_of_eq rfl) (hb hby at_138) (by decide) (by decide) (by decide) (by decide) ?_
              intro v7 T7 L7 X7 hQ7
              obtain ⟨rfl, Nq7, hh7⟩ := hQ7
              have N7 := Fr.app N0 Nq7
              show own_Ends p e below s _ _ _ (T7.setTop (mkF m 141 #[.val (.int i0), .val (.int i1), .val (.int (1 : Int32)), .val (.int code), .val (.int (code.toUInt32.toUInt16.toUInt32.toInt32)), .val (.ref a_XML_1_1), .val (.int (1 : Int32))] [(.int (1 : Int32))]))
              refine own_pre (S' := (T7.setTop (mkF m 143 #[.val (.int i0), .val (.int i1), .val (.int (1 : Int32)), .val (.int code), .val (.int (code.toUInt32.toUInt16.toUInt32.toInt32)), .val (.ref a_XML_1_1), .val (.int (1 : Int32))] [(.int (1 : Int32)), (.int (1 : Int32))]))) (fun t k => XS.iload X7.here hx rfl (hb hby at_141) rfl k) ?_
              refine own_pre (S' := (T7.setTop (mkF m 146 #[.val (.int i0), .val (.int i1), .val (.int (1 : Int32)), .val (.int code), .val (.int (code.toUInt32.toUInt16.toUInt32.toInt32)), .val (.ref a_XML_1_1), .val (.int (1 : Int32))] []))) (fun t k => XS.icmpNo X7.here hx rfl (hb hby at_143) rfl (teq (by decide : ((1 : Int32) = (1 : Int32)))).2 k) ?_
              refine own_pre (S' := (T7.setTop (mkF m 147 #[.val (.int i0), .val (.int i1), .val (.int (1 : Int32)), .val (.int code), .val (.int (code.toUInt32.toUInt16.toUInt32.toInt32)), .val (.ref a_XML_1_1), .val (.int (1 : Int32))] [(.int (1 : Int32))]))) (fun t k => XS.iconst X7.here hx rfl (hb hby at_146) k) ?_
              refine own_pre (S' := (T7.setTop (mkF m 151 #[.val (.int i0), .val (.int i1), .val (.int (1 : Int32)), .val (.int code), .val (.int (code.toUInt32.toUInt16.toUInt32.toInt32)), .val (.ref a_XML_1_1), .val (.int (1 : Int32))] [(.int (1 : Int32))]))) (fun t k => XS.goto X7.here hx rfl (pc0 := 147) (pc' := 151) rfl (hb hby at_147) (by decide) (by decide) k) ?_
              refine own_ret (t := .boolean) X7 hx hlk hrt rfl (Or.inl ⟨rfl, by simp, _, rfl⟩) (hb hby at_151) (by decide) (by decide) ?_
              exact ⟨rfl, N7⟩
            · -- pc 124: not code = (8232 : Int32)
              refine own_pre (S' := (T1.setTop (mkF m 131 #[.val (.int i0), .val (.int i1), .val (.int (1 : Int32)), .val (.int code), .val (.int (code.toUInt32.toUInt16.toUInt32.toInt32)), .val (.ref a_XML_1_1), .unset] []))) (fun t k => XS.icmpYes X1.here hx rfl (pc0 := 124) (pc' := 131) rfl (hb hby at_124) rfl (feq c124).2 (by decide) (by decide) k) ?_
              refine own_pre (S' := (T1.setTop (mkF m 132 #[.val (.int i0), .val (.int i1), .val (.int (1 : Int32)), .val (.int code), .val (.int (code.toUInt32.toUInt16.toUInt32.toInt32)), .val (.ref a_XML_1_1), .unset] [(.int (0 : Int32))]))) (fun t k => XS.iconst X1.here hx rfl (hb hby at_131) k) ?_
              refine own_pre (S' := (T1.setTop (mkF m 134 #[.val (.int i0), .val (.int i1), .val (.int (1 : Int32)), .val (.int code), .val (.int (code.toUInt32.toUInt16.toUInt32.toInt32)), .val (.ref a_XML_1_1), .val (.int (0 : Int32))] []))) (fun t k => XS.istore X1.here hx rfl (hb hby at_132) rfl (l' := #[.val (.int i0), .val (.int i1), .val (.int (1 : Int32)), .val (.int code), .val (.int (code.toUInt32.toUInt16.toUInt32.toInt32)), .val (.ref a_XML_1_1), .val (.int (0 : Int32))]) rfl k) ?_
              refine own_pre (S' := (T1.setTop (mkF m 136 #[.val (.int i0), .val (.int i1), .val (.int (1 : Int32)), .val (.int code), .val (.int (code.toUInt32.toUInt16.toUInt32.toInt32)), .val (.ref a_XML_1_1), .val (.int (0 : Int32))] [(.ref a_XML_1_1)]))) (fun t k => XS.aload X1.here hx rfl (hb hby at_134) rfl rfl k) ?_
              refine own_pre (S' := (T1.setTop (mkF m 138 #[.val (.int i0), .val (.int i1), .val (.int (1 : Int32)), .val (.int code), .val (.int (code.toUInt32.toUInt16.toUInt32.toInt32)), .val (.ref a_XML_1_1), .val (.int (0 : Int32))] [(.int (code.toUInt32.toUInt16.toUInt32.toInt32)), (.ref a_XML_1_1)]))) (fun t k => XS.iload X1.here hx rfl (hb hby at_136) rfl k) ?_
              have hic := c_i2c code
              simp only [Int32.lt_iff_toInt_lt, ← Int32.toInt_inj, Int32.reduceToInt] at c92 c98 c104 c110 c124
              refine own_callV (C := "com/example/cadmus/cadmus/XmlVersion") (y := (⟨"com/example/cadmus/cadmus/XmlVersion", "needsReference", "(C)Z"⟩ : MethodName)) (b := a_XML_1_1) X1 hx hZ hown (hw _ (List.mem_of_getElem? (i := 4) rfl)) (hw _ (List.mem_of_getElem? (i := 5) rfl)) (hw _ (List.mem_of_getElem? (i := 7) rfl)) (hw _ (List.mem_of_getElem? (i := 6) rfl)) (hw _ (List.mem_of_getElem? (i := 8) rfl)) (hw _ (List.mem_of_getElem? (i := 2) rfl)) (by decide) e1 E_XML_1_1 (hM := own_nr l Z a0 hw [] a_XML_1_1 a_XML_1_0 (code.toUInt32.toUInt16.toUInt32.toInt32) (0 : Int32) h0 n0 Z0 (fun q => absurd q (Ne.symm ne_XML_1_0_XML_1_1)) (fun _ => by first | (left; exact ⟨by omega, rfl⟩) | (right; exact ⟨by omega, rfl⟩)) S_XML_1_0) (W := 0) (pc := 138) (Ls := #[.val (.int i0), .val (.int i1), .val (.int (1 : Int32)), .val (.int code), .val (.int (code.toUInt32.toUInt16.toUInt32.toInt32)), .val (.ref a_XML_1_1), .val (.int (0 : Int32))]) (argsL := [(.int (code.toUInt32.toUInt16.toUInt32.toInt32))]) (rest := []) (st0 := [(.int (code.toUInt32.toUInt16.toUInt32.toInt32)), (.ref a_XML_1_1)]) (by rw [hml]; rfl) (lenOf own_pd0 rfl) rfl (Nat.le_of_eq rfl) (hb hby at_138) (by decide) (by decide) (by decide) (by decide) ?_
              intro v8 T8 L8 X8 hQ8
              obtain ⟨rfl, Nq8, hh8⟩ := hQ8
              have N8 := Fr.app N0 Nq8
              show own_Ends p e below s _ _ _ (T8.setTop (mkF m 141 #[.val (.int i0), .val (.int i1), .val (.int (1 : Int32)), .val (.int code), .val (.int (code.toUInt32.toUInt16.toUInt32.toInt32)), .val (.ref a_XML_1_1), .val (.int (0 : Int32))] [(.int (0 : Int32))]))
              refine own_pre (S' := (T8.setTop (mkF m 143 #[.val (.int i0), .val (.int i1), .val (.int (1 : Int32)), .val (.int code), .val (.int (code.toUInt32.toUInt16.toUInt32.toInt32)), .val (.ref a_XML_1_1), .val (.int (0 : Int32))] [(.int (0 : Int32)), (.int (0 : Int32))]))) (fun t k => XS.iload X8.here hx rfl (hb hby at_141) rfl k) ?_
              refine own_pre (S' := (T8.setTop (mkF m 146 #[.val (.int i0), .val (.int i1), .val (.int (1 : Int32)), .val (.int code), .val (.int (code.toUInt32.toUInt16.toUInt32.toInt32)), .val (.ref a_XML_1_1), .val (.int (0 : Int32))] []))) (fun t k => XS.icmpNo X8.here hx rfl (hb hby at_143) rfl (teq (by decide : ((0 : Int32) = (0 : Int32)))).2 k) ?_
              refine own_pre (S' := (T8.setTop (mkF m 147 #[.val (.int i0), .val (.int i1), .val (.int (1 : Int32)), .val (.int code), .val (.int (code.toUInt32.toUInt16.toUInt32.toInt32)), .val (.ref a_XML_1_1), .val (.int (0 : Int32))] [(.int (1 : Int32))]))) (fun t k => XS.iconst X8.here hx rfl (hb hby at_146) k) ?_
              refine own_pre (S' := (T8.setTop (mkF m 151 #[.val (.int i0), .val (.int i1), .val (.int (1 : Int32)), .val (.int code), .val (.int (code.toUInt32.toUInt16.toUInt32.toInt32)), .val (.ref a_XML_1_1), .val (.int (0 : Int32))] [(.int (1 : Int32))]))) (fun t k => XS.goto X8.here hx rfl (pc0 := 147) (pc' := 151) rfl (hb hby at_147) (by decide) (by decide) k) ?_
              refine own_ret (t := .boolean) X8 hx hlk hrt rfl (Or.inl ⟨rfl, by simp, _, rfl⟩) (hb hby at_151) (by decide) (by decide) ?_
              exact ⟨rfl, N8⟩
          · -- pc 110: not code < (127 : Int32)
            refine own_pre (S' := (T1.setTop (mkF m 113 #[.val (.int i0), .val (.int i1), .val (.int (1 : Int32)), .val (.int code), .val (.int (code.toUInt32.toUInt16.toUInt32.toInt32)), .val (.ref a_XML_1_1), .unset] []))) (fun t k => XS.icmpNo X1.here hx rfl (hb hby at_110) rfl (flt c110).1 k) ?_
            refine own_pre (S' := (T1.setTop (mkF m 114 #[.val (.int i0), .val (.int i1), .val (.int (1 : Int32)), .val (.int code), .val (.int (code.toUInt32.toUInt16.toUInt32.toInt32)), .val (.ref a_XML_1_1), .unset] [(.int code)]))) (fun t k => XS.iloadN X1.here hx rfl (hb hby at_113) rfl k) ?_
            refine own_pre (S' := (T1.setTop (mkF m 117 #[.val (.int i0), .val (.int i1), .val (.int (1 : Int32)), .val (.int code), .val (.int (code.toUInt32.toUInt16.toUInt32.toInt32)), .val (.ref a_XML_1_1), .unset] [(.int (159 : Int32)), (.int code)]))) (fun t k => XS.sipush X1.here hx rfl (hb hby at_114) k) ?_
            by_cases c117 : (159 : Int32) < code
            · -- pc 117: (159 : Int32) < code
              refine own_pre (S' := (T1.setTop (mkF m 120 #[.val (.int i0), .val (.int i1), .val (.int (1 : Int32)), .val (.int code), .val (.int (code.toUInt32.toUInt16.toUInt32.toInt32)), .val (.ref a_XML_1_1), .unset] []))) (fun t k => XS.icmpNo X1.here hx rfl (hb hby at_117) rfl (tlt c117).2.2.2 k) ?_
              refine own_pre (S' := (T1.setTop (mkF m 121 #[.val (.int i0), .val (.int i1), .val (.int (1 : Int32)), .val (.int code), .val (.int (code.toUInt32.toUInt16.toUInt32.toInt32)), .val (.ref a_XML_1_1), .unset] [(.int code)]))) (fun t k => XS.iloadN X1.here hx rfl (hb hby at_120) rfl k) ?_
              refine own_pre (S' := (T1.setTop (mkF m 124 #[.val (.int i0), .val (.int i1), .val (.int (1 : Int32)), .val (.int code), .val (.int (code.toUInt32.toUInt16.toUInt32.toInt32)), .val (.ref a_XML_1_1), .unset] [(.int (8232 : Int32)), (.int code)]))) (fun t k => XS.sipush X1.here hx rfl (hb hby at_121) k) ?_
              by_cases c124 : code = (8232 : Int32)
              · -- pc 124: code = (8232 : Int32)
                refine own_pre (S' := (T1.setTop (mkF m 127 #[.val (.int i0), .val (.int i1), .val (.int (1 : Int32)), .val (.int code), .val (.int (code.toUInt32.toUInt16.toUInt32.toInt32)), .val (.ref a_XML_1_1), .unset] []))) (fun t k => XS.icmpNo X1.here hx rfl (hb hby at_124) rfl (teq c124).2 k) ?_
                refine own_pre (S' := (T1.setTop (mkF m 128 #[.val (.int i0), .val (.int i1), .val (.int (1 : Int32)), .val (.int code), .val (.int (code.toUInt32.toUInt16.toUInt32.toInt32)), .val (.ref a_XML_1_1), .unset] [(.int (1 : Int32))]))) (fun t k => XS.iconst X1.here hx rfl (hb hby at_127) k) ?_
                refine own_pre (S' := (T1.setTop (mkF m 132 #[.val (.int i0), .val (.int i1), .val (.int (1 : Int32)), .val (.int code), .val (.int (code.toUInt32.toUInt16.toUInt32.toInt32)), .val (.ref a_XML_1_1), .unset] [(.int (1 : Int32))]))) (fun t k => XS.goto X1.here hx rfl (pc0 := 128) (pc' := 132) rfl (hb hby at_128) (by decide) (by decide) k) ?_
                refine own_pre (S' := (T1.setTop (mkF m 134 #[.val (.int i0), .val (.int i1), .val (.int (1 : Int32)), .val (.int code), .val (.int (code.toUInt32.toUInt16.toUInt32.toInt32)), .val (.ref a_XML_1_1), .val (.int (1 : Int32))] []))) (fun t k => XS.istore X1.here hx rfl (hb hby at_132) rfl (l' := #[.val (.int i0), .val (.int i1), .val (.int (1 : Int32)), .val (.int code), .val (.int (code.toUInt32.toUInt16.toUInt32.toInt32)), .val (.ref a_XML_1_1), .val (.int (1 : Int32))]) rfl k) ?_
                refine own_pre (S' := (T1.setTop (mkF m 136 #[.val (.int i0), .val (.int i1), .val (.int (1 : Int32)), .val (.int code), .val (.int (code.toUInt32.toUInt16.toUInt32.toInt32)), .val (.ref a_XML_1_1), .val (.int (1 : Int32))] [(.ref a_XML_1_1)]))) (fun t k => XS.aload X1.here hx rfl (hb hby at_134) rfl rfl k) ?_
                refine own_pre (S' := (T1.setTop (mkF m 138 #[.val (.int i0), .val (.int i1), .val (.int (1 : Int32)), .val (.int code), .val (.int (code.toUInt32.toUInt16.toUInt32.toInt32)), .val (.ref a_XML_1_1), .val (.int (1 : Int32))] [(.int (code.toUInt32.toUInt16.toUInt32.toInt32)), (.ref a_XML_1_1)]))) (fun t k => XS.iload X1.here hx rfl (hb hby at_136) rfl k) ?_
                have hic := c_i2c code
                simp only [Int32.lt_iff_toInt_lt, ← Int32.toInt_inj, Int32.reduceToInt] at c92 c98 c104 c110 c117 c124
                refine own_callV (C := "com/example/cadmus/cadmus/XmlVersion") (y := (⟨"com/example/cadmus/cadmus/XmlVersion", "needsReference", "(C)Z"⟩ : MethodName)) (b := a_XML_1_1) X1 hx hZ hown (hw _ (List.mem_of_getElem? (i := 4) rfl)) (hw _ (List.mem_of_getElem? (i := 5) rfl)) (hw _ (List.mem_of_getElem? (i := 7) rfl)) (hw _ (List.mem_of_getElem? (i := 6) rfl)) (hw _ (List.mem_of_getElem? (i := 8) rfl)) (hw _ (List.mem_of_getElem? (i := 2) rfl)) (by decide) e1 E_XML_1_1 (hM := own_nr l Z a0 hw [] a_XML_1_1 a_XML_1_0 (code.toUInt32.toUInt16.toUInt32.toInt32) (1 : Int32) h0 n0 Z0 (fun q => absurd q (Ne.symm ne_XML_1_0_XML_1_1)) (fun _ => by first | (left; exact ⟨by omega, rfl⟩) | (right; exact ⟨by omega, rfl⟩)) S_XML_1_0) (W := 0) (pc := 138) (Ls := #[.val (.int i0), .val (.int i1), .val (.int (1 : Int32)), .val (.int code), .val (.int (code.toUInt32.toUInt16.toUInt32.toInt32)), .val (.ref a_XML_1_1), .val (.int (1 : Int32))]) (argsL := [(.int (code.toUInt32.toUInt16.toUInt32.toInt32))]) (rest := []) (st0 := [(.int (code.toUInt32.toUInt16.toUInt32.toInt32)), (.ref a_XML_1_1)]) (by rw [hml]; rfl) (lenOf own_pd0 rfl) rfl (Nat.le_of_eq rfl) (hb hby at_138) (by decide) (by decide) (by decide) (by decide) ?_
                intro v9 T9 L9 X9 hQ9
                obtain ⟨rfl, Nq9, hh9⟩ := hQ9
                have N9 := Fr.app N0 Nq9
                show own_Ends p e below s _ _ _ (T9.setTop (mkF m 141 #[.val (.int i0), .val (.int i1), .val (.int (1 : Int32)), .val (.int code), .val (.int (code.toUInt32.toUInt16.toUInt32.toInt32)), .val (.ref a_XML_1_1), .val (.int (1 : Int32))] [(.int (1 : Int32))]))
                refine own_pre (S' := (T9.setTop (mkF m 143 #[.val (.int i0), .val (.int i1), .val (.int (1 : Int32)), .val (.int code), .val (.int (code.toUInt32.toUInt16.toUInt32.toInt32)), .val (.ref a_XML_1_1), .val (.int (1 : Int32))] [(.int (1 : Int32)), (.int (1 : Int32))]))) (fun t k => XS.iload X9.here hx rfl (hb hby at_141) rfl k) ?_
                refine own_pre (S' := (T9.setTop (mkF m 146 #[.val (.int i0), .val (.int i1), .val (.int (1 : Int32)), .val (.int code), .val (.int (code.toUInt32.toUInt16.toUInt32.toInt32)), .val (.ref a_XML_1_1), .val (.int (1 : Int32))] []))) (fun t k => XS.icmpNo X9.here hx rfl (hb hby at_143) rfl (teq (by decide : ((1 : Int32) = (1 : Int32)))).2 k) ?_
                refine own_pre (S' := (T9.setTop (mkF m 147 #[.val (.int i0), .val (.int i1), .val (.int (1 : Int32)), .val (.int code), .val (.int (code.toUInt32.toUInt16.toUInt32.toInt32)), .val (.ref a_XML_1_1), .val (.int (1 : Int32))] [(.int (1 : Int32))]))) (fun t k => XS.iconst X9.here hx rfl (hb hby at_146) k) ?_
                refine own_pre (S' := (T9.setTop (mkF m 151 #[.val (.int i0), .val (.int i1), .val (.int (1 : Int32)), .val (.int code), .val (.int (code.toUInt32.toUInt16.toUInt32.toInt32)), .val (.ref a_XML_1_1), .val (.int (1 : Int32))] [(.int (1 : Int32))]))) (fun t k => XS.goto X9.here hx rfl (pc0 := 147) (pc' := 151) rfl (hb hby at_147) (by decide) (by decide) k) ?_
                refine own_ret (t := .boolean) X9 hx hlk hrt rfl (Or.inl ⟨rfl, by simp, _, rfl⟩) (hb hby at_151) (by decide) (by decide) ?_
                exact ⟨rfl, N9⟩
              · -- pc 124: not code = (8232 : Int32)
                refine own_pre (S' := (T1.setTop (mkF m 131 #[.val (.int i0), .val (.int i1), .val (.int (1 : Int32)), .val (.int code), .val (.int (code.toUInt32.toUInt16.toUInt32.toInt32)), .val (.ref a_XML_1_1), .unset] []))) (fun t k => XS.icmpYes X1.here hx rfl (pc0 := 124) (pc' := 131) rfl (hb hby at_124) rfl (feq c124).2 (by decide) (by decide) k) ?_
                refine own_pre (S' := (T1.setTop (mkF m 132 #[.val (.int i0), .val (.int i1), .val (.int (1 : Int32)), .val (.int code), .val (.int (code.toUInt32.toUInt16.toUInt32.toInt32)), .val (.ref a_XML_1_1), .unset] [(.int (0 : Int32))]))) (fun t k => XS.iconst X1.here hx rfl (hb hby at_131) k) ?_
                refine own_pre (S' := (T1.setTop (mkF m 134 #[.val (.int i0), .val (.int i1), .val (.int (1 : Int32)), .val (.int code), .val (.int (code.toUInt32.toUInt16.toUInt32.toInt32)), .val (.ref a_XML_1_1), .val (.int (0 : Int32))] []))) (fun t k => XS.istore X1.here hx rfl (hb hby at_132) rfl (l' := #[.val (.int i0), .val (.int i1), .val (.int (1 : Int32)), .val (.int code), .val (.int (code.toUInt32.toUInt16.toUInt32.toInt32)), .val (.ref a_XML_1_1), .val (.int (0 : Int32))]) rfl k) ?_
                refine own_pre (S' := (T1.setTop (mkF m 136 #[.val (.int i0), .val (.int i1), .val (.int (1 : Int32)), .val (.int code), .val (.int (code.toUInt32.toUInt16.toUInt32.toInt32)), .val (.ref a_XML_1_1), .val (.int (0 : Int32))] [(.ref a_XML_1_1)]))) (fun t k => XS.aload X1.here hx rfl (hb hby at_134) rfl rfl k) ?_
                refine own_pre (S' := (T1.setTop (mkF m 138 #[.val (.int i0), .val (.int i1), .val (.int (1 : Int32)), .val (.int code), .val (.int (code.toUInt32.toUInt16.toUInt32.toInt32)), .val (.ref a_XML_1_1), .val (.int (0 : Int32))] [(.int (code.toUInt32.toUInt16.toUInt32.toInt32)), (.ref a_XML_1_1)]))) (fun t k => XS.iload X1.here hx rfl (hb hby at_136) rfl k) ?_
                have hic := c_i2c code
                simp only [Int32.lt_iff_toInt_lt, ← Int32.toInt_inj, Int32.reduceToInt] at c92 c98 c104 c110 c117 c124
                refine own_callV (C := "com/example/cadmus/cadmus/XmlVersion") (y := (⟨"com/example/cadmus/cadmus/XmlVersion", "needsReference", "(C)Z"⟩ : MethodName)) (b := a_XML_1_1) X1 hx hZ hown (hw _ (List.mem_of_getElem? (i := 4) rfl)) (hw _ (List.mem_of_getElem? (i := 5) rfl)) (hw _ (List.mem_of_getElem? (i := 7) rfl)) (hw _ (List.mem_of_getElem? (i := 6) rfl)) (hw _ (List.mem_of_getElem? (i := 8) rfl)) (hw _ (List.mem_of_getElem? (i := 2) rfl)) (by decide) e1 E_XML_1_1 (hM := own_nr l Z a0 hw [] a_XML_1_1 a_XML_1_0 (code.toUInt32.toUInt16.toUInt32.toInt32) (0 : Int32) h0 n0 Z0 (fun q => absurd q (Ne.symm ne_XML_1_0_XML_1_1)) (fun _ => by first | (left; exact ⟨by omega, rfl⟩) | (right; exact ⟨by omega, rfl⟩)) S_XML_1_0) (W := 0) (pc := 138) (Ls := #[.val (.int i0), .val (.int i1), .val (.int (1 : Int32)), .val (.int code), .val (.int (code.toUInt32.toUInt16.toUInt32.toInt32)), .val (.ref a_XML_1_1), .val (.int (0 : Int32))]) (argsL := [(.int (code.toUInt32.toUInt16.toUInt32.toInt32))]) (rest := []) (st0 := [(.int (code.toUInt32.toUInt16.toUInt32.toInt32)), (.ref a_XML_1_1)]) (by rw [hml]; rfl) (lenOf own_pd0 rfl) rfl (Nat.le_of_eq rfl) (hb hby at_138) (by decide) (by decide) (by decide) (by decide) ?_
                intro v10 T10 L10 X10 hQ10
                obtain ⟨rfl, Nq10, hh10⟩ := hQ10
                have N10 := Fr.app N0 Nq10
                show own_Ends p e below s _ _ _ (T10.setTop (mkF m 141 #[.val (.int i0), .val (.int i1), .val (.int (1 : Int32)), .val (.int code), .val (.int (code.toUInt32.toUInt16.toUInt32.toInt32)), .val (.ref a_XML_1_1), .val (.int (0 : Int32))] [(.int (0 : Int32))]))
                refine own_pre (S' := (T10.setTop (mkF m 143 #[.val (.int i0), .val (.int i1), .val (.int (1 : Int32)), .val (.int code), .val (.int (code.toUInt32.toUInt16.toUInt32.toInt32)), .val (.ref a_XML_1_1), .val (.int (0 : Int32))] [(.int (0 : Int32)), (.int (0 : Int32))]))) (fun t k => XS.iload X10.here hx rfl (hb hby at_141) rfl k) ?_
                refine own_pre (S' := (T10.setTop (mkF m 146 #[.val (.int i0), .val (.int i1), .val (.int (1 : Int32)), .val (.int code), .val (.int (code.toUInt32.toUInt16.toUInt32.toInt32)), .val (.ref a_XML_1_1), .val (.int (0 : Int32))] []))) (fun t k => XS.icmpNo X10.here hx rfl (hb hby at_143) rfl (teq (by decide : ((0 : Int32) = (0 : Int32)))).2 k) ?_
                refine own_pre (S' := (T10.setTop (mkF m 147 #[.val (.int i0), .val (.int i1), .val (.int (1 : Int32)), .val (.int code), .val (.int (code.toUInt32.toUInt16.toUInt32.toInt32)), .val (.ref a_XML_1_1), .val (.int (0 : Int32))] [(.int (1 : Int32))]))) (fun t k => XS.iconst X10.here hx rfl (hb hby at_146) k) ?_
                refine own_pre (S' := (T10.setTop (mkF m 151 #[.val (.int i0), .val (.int i1), .val (.int (1 : Int32)), .val (.int code), .val (.int (code.toUInt32.toUInt16.toUInt32.toInt32)), .val (.ref a_XML_1_1), .val (.int (0 : Int32))] [(.int (1 : Int32))]))) (fun t k => XS.goto X10.here hx rfl (pc0 := 147) (pc' := 151) rfl (hb hby at_147) (by decide) (by decide) k) ?_
                refine own_ret (t := .boolean) X10 hx hlk hrt rfl (Or.inl ⟨rfl, by simp, _, rfl⟩) (hb hby at_151) (by decide) (by decide) ?_
                exact ⟨rfl, N10⟩
            · -- pc 117: not (159 : Int32) < code
              refine own_pre (S' := (T1.setTop (mkF m 127 #[.val (.int i0), .val (.int i1), .val (.int (1 : Int32)), .val (.int code), .val (.int (code.toUInt32.toUInt16.toUInt32.toInt32)), .val (.ref a_XML_1_1), .unset] []))) (fun t k => XS.icmpYes X1.here hx rfl (pc0 := 117) (pc' := 127) rfl (hb hby at_117) rfl (flt c117).2.2.2 (by decide) (by decide) k) ?_
              refine own_pre (S' := (T1.setTop (mkF m 128 #[.val (.int i0), .val (.int i1), .val (.int (1 : Int32)), .val (.int code), .val (.int (code.toUInt32.toUInt16.toUInt32.toInt32)), .val (.ref a_XML_1_1), .unset] [(.int (1 : Int32))]))) (fun t k => XS.iconst X1.here hx rfl (hb hby at_127) k) ?_
              refine own_pre (S' := (T1.setTop (mkF m 132 #[.val (.int i0), .val (.int i1), .val (.int (1 : Int32)), .val (.int code), .val (.int (code.toUInt32.toUInt16.toUInt32.toInt32)), .val (.ref a_XML_1_1), .unset] [(.int (1 : Int32))]))) (fun t k => XS.goto X1.here hx rfl (pc0 := 128) (pc' := 132) rfl (hb hby at_128) (by decide) (by decide) k) ?_
              refine own_pre (S' := (T1.setTop (mkF m 134 #[.val (.int i0), .val (.int i1), .val (.int (1 : Int32)), .val (.int code), .val (.int (code.toUInt32.toUInt16.toUInt32.toInt32)), .val (.ref a_XML_1_1), .val (.int (1 : Int32))] []))) (fun t k => XS.istore X1.here hx rfl (hb hby at_132) rfl (l' := #[.val (.int i0), .val (.int i1), .val (.int (1 : Int32)), .val (.int code), .val (.int (code.toUInt32.toUInt16.toUInt32.toInt32)), .val (.ref a_XML_1_1), .val (.int (1 : Int32))]) rfl k) ?_
              refine own_pre (S' := (T1.setTop (mkF m 136 #[.val (.int i0), .val (.int i1), .val (.int (1 : Int32)), .val (.int code), .val (.int (code.toUInt32.toUInt16.toUInt32.toInt32)), .val (.ref a_XML_1_1), .val (.int (1 : Int32))] [(.ref a_XML_1_1)]))) (fun t k => XS.aload X1.here hx rfl (hb hby at_134) rfl rfl k) ?_
              refine own_pre (S' := (T1.setTop (mkF m 138 #[.val (.int i0), .val (.int i1), .val (.int (1 : Int32)), .val (.int code), .val (.int (code.toUInt32.toUInt16.toUInt32.toInt32)), .val (.ref a_XML_1_1), .val (.int (1 : Int32))] [(.int (code.toUInt32.toUInt16.toUInt32.toInt32)), (.ref a_XML_1_1)]))) (fun t k => XS.iload X1.here hx rfl (hb hby at_136) rfl k) ?_
              have hic := c_i2c code
              simp only [Int32.lt_iff_toInt_lt, ← Int32.toInt_inj, Int32.reduceToInt] at c92 c98 c104 c110 c117
              refine own_callV (C := "com/example/cadmus/cadmus/XmlVersion") (y := (⟨"com/example/cadmus/cadmus/XmlVersion", "needsReference", "(C)Z"⟩ : MethodName)) (b := a_XML_1_1) X1 hx hZ hown (hw _ (List.mem_of_getElem? (i := 4) rfl)) (hw _ (List.mem_of_getElem? (i := 5) rfl)) (hw _ (List.mem_of_getElem? (i := 7) rfl)) (hw _ (List.mem_of_getElem? (i := 6) rfl)) (hw _ (List.mem_of_getElem? (i := 8) rfl)) (hw _ (List.mem_of_getElem? (i := 2) rfl)) (by decide) e1 E_XML_1_1 (hM := own_nr l Z a0 hw [] a_XML_1_1 a_XML_1_0 (code.toUInt32.toUInt16.toUInt32.toInt32) (1 : Int32) h0 n0 Z0 (fun q => absurd q (Ne.symm ne_XML_1_0_XML_1_1)) (fun _ => by first | (left; exact ⟨by omega, rfl⟩) | (right; exact ⟨by omega, rfl⟩)) S_XML_1_0) (W := 0) (pc := 138) (Ls := #[.val (.int i0), .val (.int i1), .val (.int (1 : Int32)), .val (.int code), .val (.int (code.toUInt32.toUInt16.toUInt32.toInt32)), .val (.ref a_XML_1_1), .val (.int (1 : Int32))]) (argsL := [(.int (code.toUInt32.toUInt16.toUInt32.toInt32))]) (rest := []) (st0 := [(.int (code.toUInt32.toUInt16.toUInt32.toInt32)), (.ref a_XML_1_1)]) (by rw [hml]; rfl) (lenOf own_pd0 rfl) rfl (Nat.le_of_eq rfl) (hb hby at_138) (by decide) (by decide) (by decide) (by decide) ?_
              intro v11 T11 L11 X11 hQ11
              obtain ⟨rfl, Nq11, hh11⟩ := hQ11
              have N11 := Fr.app N0 Nq11
              show own_Ends p e below s _ _ _ (T11.setTop (mkF m 141 #[.val (.int i0), .val (.int i1), .val (.int (1 : Int32)), .val (.int code), .val (.int (code.toUInt32.toUInt16.toUInt32.toInt32)), .val (.ref a_XML_1_1), .val (.int (1 : Int32))] [(.int (1 : Int32))]))
              refine own_pre (S' := (T11.setTop (mkF m 143 #[.val (.int i0), .val (.int i1), .val (.int (1 : Int32)), .val (.int code), .val (.int (code.toUInt32.toUInt16.toUInt32.toInt32)), .val (.ref a_XML_1_1), .val (.int (1 : Int32))] [(.int (1 : Int32)), (.int (1 : Int32))]))) (fun t k => XS.iload X11.here hx rfl (hb hby at_141) rfl k) ?_
              refine own_pre (S' := (T11.setTop (mkF m 146 #[.val (.int i0), .val (.int i1), .val (.int (1 : Int32)), .val (.int code), .val (.int (code.toUInt32.toUInt16.toUInt32.toInt32)), .val (.ref a_XML_1_1), .val (.int (1 : Int32))] []))) (fun t k => XS.icmpNo X11.here hx rfl (hb hby at_143) rfl (teq (by decide : ((1 : Int32) = (1 : Int32)))).2 k) ?_
              refine own_pre (S' := (T11.setTop (mkF m 147 #[.val (.int i0), .val (.int i1), .val (.int (1 : Int32)), .val (.int code), .val (.int (code.toUInt32.toUInt16.toUInt32.toInt32)), .val (.ref a_XML_1_1), .val (.int (1 : Int32))] [(.int (1 : Int32))]))) (fun t k => XS.iconst X11.here hx rfl (hb hby at_146) k) ?_
              refine own_pre (S' := (T11.setTop (mkF m 151 #[.val (.int i0), .val (.int i1), .val (.int (1 : Int32)), .val (.int code), .val (.int (code.toUInt32.toUInt16.toUInt32.toInt32)), .val (.ref a_XML_1_1), .val (.int (1 : Int32))] [(.int (1 : Int32))]))) (fun t k => XS.goto X11.here hx rfl (pc0 := 147) (pc' := 151) rfl (hb hby at_147) (by decide) (by decide) k) ?_
              refine own_ret (t := .boolean) X11 hx hlk hrt rfl (Or.inl ⟨rfl, by simp, _, rfl⟩) (hb hby at_151) (by decide) (by decide) ?_
              exact ⟨rfl, N11⟩
        · -- pc 104: not (31 : Int32) < code
          refine own_pre (S' := (T1.setTop (mkF m 127 #[.val (.int i0), .val (.int i1), .val (.int (1 : Int32)), .val (.int code), .val (.int (code.toUInt32.toUInt16.toUInt32.toInt32)), .val (.ref a_XML_1_1), .unset] []))) (fun t k => XS.icmpYes X1.here hx rfl (pc0 := 104) (pc' := 127) rfl (hb hby at_104) rfl (flt c104).2.2.2 (by decide) (by decide) k) ?_
          refine own_pre (S' := (T1.setTop (mkF m 128 #[.val (.int i0), .val (.int i1), .val (.int (1 : Int32)), .val (.int code), .val (.int (code.toUInt32.toUInt16.toUInt32.toInt32)), .val (.ref a_XML_1_1), .unset] [(.int (1 : Int32))]))) (fun t k => XS.iconst X1.here hx rfl (hb hby at_127) k) ?_
          refine own_pre (S' := (T1.setTop (mkF m 132 #[.val (.int i0), .val (.int i1), .val (.int (1 : Int32)), .val (.int code), .val (.int (code.toUInt32.toUInt16.toUInt32.toInt32)), .val (.ref a_XML_1_1), .unset] [(.int (1 : Int32))]))) (fun t k => XS.goto X1.here hx rfl (pc0 := 128) (pc' := 132) rfl (hb hby at_128) (by decide) (by decide) k) ?_
          refine own_pre (S' := (T1.setTop (mkF m 134 #[.val (.int i0), .val (.int i1), .val (.int (1 : Int32)), .val (.int code), .val (.int (code.toUInt32.toUInt16.toUInt32.toInt32)), .val (.ref a_XML_1_1), .val (.int (1 : Int32))] []))) (fun t k => XS.istore X1.here hx rfl (hb hby at_132) rfl (l' := #[.val (.int i0), .val (.int i1), .val (.int (1 : Int32)), .val (.int code), .val (.int (code.toUInt32.toUInt16.toUInt32.toInt32)), .val (.ref a_XML_1_1), .val (.int (1 : Int32))]) rfl k) ?_
          refine own_pre (S' := (T1.setTop (mkF m 136 #[.val (.int i0), .val (.int i1), .val (.int (1 : Int32)), .val (.int code), .val (.int (code.toUInt32.toUInt16.toUInt32.toInt32)), .val (.ref a_XML_1_1), .val (.int (1 : Int32))] [(.ref a_XML_1_1)]))) (fun t k => XS.aload X1.here hx rfl (hb hby at_134) rfl rfl k) ?_
          refine own_pre (S' := (T1.setTop (mkF m 138 #[.val (.int i0), .val (.int i1), .val (.int (1 : Int32)), .val (.int code), .val (.int (code.toUInt32.toUInt16.toUInt32.toInt32)), .val (.ref a_XML_1_1), .val (.int (1 : Int32))] [(.int (code.toUInt32.toUInt16.toUInt32.toInt32)), (.ref a_XML_1_1)]))) (fun t k => XS.iload X1.here hx rfl (hb hby at_136) rfl k) ?_
          have hic := c_i2c code
          simp only [Int32.lt_iff_toInt_lt, ← Int32.toInt_inj, Int32.reduceToInt] at c92 c98 c104
          refine own_callV (C := "com/example/cadmus/cadmus/XmlVersion") (y := (⟨"com/example/cadmus/cadmus/XmlVersion", "needsReference", "(C)Z"⟩ : MethodName)) (b := a_XML_1_1) X1 hx hZ hown (hw _ (List.mem_of_getElem? (i := 4) rfl)) (hw _ (List.mem_of_getElem? (i := 5) rfl)) (hw _ (List.mem_of_getElem? (i := 7) rfl)) (hw _ (List.mem_of_getElem? (i := 6) rfl)) (hw _ (List.mem_of_getElem? (i := 8) rfl)) (hw _ (List.mem_of_getElem? (i := 2) rfl)) (by decide) e1 E_XML_1_1 (hM := own_nr l Z a0 hw [] a_XML_1_1 a_XML_1_0 (code.toUInt32.toUInt16.toUInt32.toInt32) (1 : Int32) h0 n0 Z0 (fun q => absurd q (Ne.symm ne_XML_1_0_XML_1_1)) (fun _ => by first | (left; exact ⟨by omega, rfl⟩) | (right; exact ⟨by omega, rfl⟩)) S_XML_1_0) (W := 0) (pc := 138) (Ls := #[.val (.int i0), .val (.int i1), .val (.int (1 : Int32)), .val (.int code), .val (.int (code.toUInt32.toUInt16.toUInt32.toInt32)), .val (.ref a_XML_1_1), .val (.int (1 : Int32))]) (argsL := [(.int (code.toUInt32.toUInt16.toUInt32.toInt32))]) (rest := []) (st0 := [(.int (code.toUInt32.toUInt16.toUInt32.toInt32)), (.ref a_XML_1_1)]) (by rw [hml]; rfl) (lenOf own_pd0 rfl) rfl (Nat.le_of_eq rfl) (hb hby at_138) (by decide) (by decide) (by decide) (by decide) ?_
          intro v12 T12 L12 X12 hQ12
          obtain ⟨rfl, Nq12, hh12⟩ := hQ12
          have N12 := Fr.app N0 Nq12
          show own_Ends p e below s _ _ _ (T12.setTop (mkF m 141 #[.val (.int i0), .val (.int i1), .val (.int (1 : Int32)), .val (.int code), .val (.int (code.toUInt32.toUInt16.toUInt32.toInt32)), .val (.ref a_XML_1_1), .val (.int (1 : Int32))] [(.int (1 : Int32))]))
          refine own_pre (S' := (T12.setTop (mkF m 143 #[.val (.int i0), .val (.int i1), .val (.int (1 : Int32)), .val (.int code), .val (.int (code.toUInt32.toUInt16.toUInt32.toInt32)), .val (.ref a_XML_1_1), .val (.int (1 : Int32))] [(.int (1 : Int32)), (.int (1 : Int32))]))) (fun t k => XS.iload X12.here hx rfl (hb hby at_141) rfl k) ?_
          refine own_pre (S' := (T12.setTop (mkF m 146 #[.val (.int i0), .val (.int i1), .val (.int (1 : Int32)), .val (.int code), .val (.int (code.toUInt32.toUInt16.toUInt32.toInt32)), .val (.ref a_XML_1_1), .val (.int (1 : Int32))] []))) (fun t k => XS.icmpNo X12.here hx rfl (hb hby at_143) rfl (teq (by decide : ((1 : Int32) = (1 : Int32)))).2 k) ?_
          refine own_pre (S' := (T12.setTop (mkF m 147 #[.val (.int i0), .val (.int i1), .val (.int (1 : Int32)), .val (.int code), .val (.int (code.toUInt32.toUInt16.toUInt32.toInt32)), .val (.ref a_XML_1_1), .val (.int (1 : Int32))] [(.int (1 : Int32))]))) (fun t k => XS.iconst X12.here hx rfl (hb hby at_146) k) ?_
          refine own_pre (S' := (T12.setTop (mkF m 151 #[.val (.int i0), .val (.int i1), .val (.int (1 : Int32)), .val (.int code), .val (.int (code.toUInt32.toUInt16.toUInt32.toInt32)), .val (.ref a_XML_1_1), .val (.int (1 : Int32))] [(.int (1 : Int32))]))) (fun t k => XS.goto X12.here hx rfl (pc0 := 147) (pc' := 151) rfl (hb hby at_147) (by decide) (by decide) k) ?_
          refine own_ret (t := .boolean) X12 hx hlk hrt rfl (Or.inl ⟨rfl, by simp, _, rfl⟩) (hb hby at_151) (by decide) (by decide) ?_
          exact ⟨rfl, N12⟩
    · -- pc 92: not (8 : Int32) < code
      refine own_pre (S' := (T1.setTop (mkF m 127 #[.val (.int i0), .val (.int i1), .val (.int (1 : Int32)), .val (.int code), .val (.int (code.toUInt32.toUInt16.toUInt32.toInt32)), .val (.ref a_XML_1_1), .unset] []))) (fun t k => XS.icmpYes X1.here hx rfl (pc0 := 92) (pc' := 127) rfl (hb hby at_92) rfl (flt c92).2.2.2 (by decide) (by decide) k) ?_
      refine own_pre (S' := (T1.setTop (mkF m 128 #[.val (.int i0), .val (.int i1), .val (.int (1 : Int32)), .val (.int code), .val (.int (code.toUInt32.toUInt16.toUInt32.toInt32)), .val (.ref a_XML_1_1), .unset] [(.int (1 : Int32))]))) (fun t k => XS.iconst X1.here hx rfl (hb hby at_127) k) ?_
      refine own_pre (S' := (T1.setTop (mkF m 132 #[.val (.int i0), .val (.int i1), .val (.int (1 : Int32)), .val (.int code), .val (.int (code.toUInt32.toUInt16.toUInt32.toInt32)), .val (.ref a_XML_1_1), .unset] [(.int (1 : Int32))]))) (fun t k => XS.goto X1.here hx rfl (pc0 := 128) (pc' := 132) rfl (hb hby at_128) (by decide) (by decide) k) ?_
      refine own_pre (S' := (T1.setTop (mkF m 134 #[.val (.int i0), .val (.int i1), .val (.int (1 : Int32)), .val (.int code), .val (.int (code.toUInt32.toUInt16.toUInt32.toInt32)), .val (.ref a_XML_1_1), .val (.int (1 : Int32))] []))) (fun t k => XS.istore X1.here hx rfl (hb hby at_132) rfl (l' := #[.val (.int i0), .val (.int i1), .val (.int (1 : Int32)), .val (.int code), .val (.int (code.toUInt32.toUInt16.toUInt32.toInt32)), .val (.ref a_XML_1_1), .val (.int (1 : Int32))]) rfl k) ?_
      refine own_pre (S' := (T1.setTop (mkF m 136 #[.val (.int i0), .val (.int i1), .val (.int (1 : Int32)), .val (.int code), .val (.int (code.toUInt32.toUInt16.toUInt32.toInt32)), .val (.ref a_XML_1_1), .val (.int (1 : Int32))] [(.ref a_XML_1_1)]))) (fun t k => XS.aload X1.here hx rfl (hb hby at_134) rfl rfl k) ?_
      refine own_pre (S' := (T1.setTop (mkF m 138 #[.val (.int i0), .val (.int i1), .val (.int (1 : Int32)), .val (.int code), .val (.int (code.toUInt32.toUInt16.toUInt32.toInt32)), .val (.ref a_XML_1_1), .val (.int (1 : Int32))] [(.int (code.toUInt32.toUInt16.toUInt32.toInt32)), (.ref a_XML_1_1)]))) (fun t k => XS.iload X1.here hx rfl (hb hby at_136) rfl k) ?_
      have hic := c_i2c code
      simp only [Int32.lt_iff_toInt_lt, ← Int32.toInt_inj, Int32.reduceToInt] at c92
      refine own_callV (C := "com/example/cadmus/cadmus/XmlVersion") (y := (⟨"com/example/cadmus/cadmus/XmlVersion", "needsReference", "(C)Z"⟩ : MethodName)) (b := a_XML_1_1) X1 hx hZ hown (hw _ (List.mem_of_getElem? (i := 4) rfl)) (hw _ (List.mem_of_getElem? (i := 5) rfl)) (hw _ (List.mem_of_getElem? (i := 7) rfl)) (hw _ (List.mem_of_getElem? (i := 6) rfl)) (hw _ (List.mem_of_getElem? (i := 8) rfl)) (hw _ (List.mem_of_getElem? (i := 2) rfl)) (by decide) e1 E_XML_1_1 (hM := own_nr l Z a0 hw [] a_XML_1_1 a_XML_1_0 (code.toUInt32.toUInt16.toUInt32.toInt32) (1 : Int32) h0 n0 Z0 (fun q => absurd q (Ne.symm ne_XML_1_0_XML_1_1)) (fun _ => by first | (left; exact ⟨by omega, rfl⟩) | (right; exact ⟨by omega, rfl⟩)) S_XML_1_0) (W := 0) (pc := 138) (Ls := #[.val (.int i0), .val (.int i1), .val (.int (1 : Int32)), .val (.int code), .val (.int (code.toUInt32.toUInt16.toUInt32.toInt32)), .val (.ref a_XML_1_1), .val (.int (1 : Int32))]) (argsL := [(.int (code.toUInt32.toUInt16.toUInt32.toInt32))]) (rest := []) (st0 := [(.int (code.toUInt32.toUInt16.toUInt32.toInt32)), (.ref a_XML_1_1)]) (by rw [hml]; rfl) (lenOf own_pd0 rfl) rfl (Nat.le_of_eq rfl) (hb hby at_138) (by decide) (by decide) (by decide) (by decide) ?_
      intro v13 T13 L13 X13 hQ13
      obtain ⟨rfl, Nq13, hh13⟩ := hQ13
      have N13 := Fr.app N0 Nq13
      show own_Ends p e below s _ _ _ (T13.setTop (mkF m 141 #[.val (.int i0), .val (.int i1), .val (.int (1 : Int32)), .val (.int code), .val (.int (code.toUInt32.toUInt16.toUInt32.toInt32)), .val (.ref a_XML_1_1), .val (.int (1 : Int32))] [(.int (1 : Int32))]))
      refine own_pre (S' := (T13.setTop (mkF m 143 #[.val (.int i0), .val (.int i1), .val (.int (1 : Int32)), .val (.int code), .val (.int (code.toUInt32.toUInt16.toUInt32.toInt32)), .val (.ref a_XML_1_1), .val (.int (1 : Int32))] [(.int (1 : Int32)), (.int (1 : Int32))]))) (fun t k => XS.iload X13.here hx rfl (hb hby at_141) rfl k) ?_
      refine own_pre (S' := (T13.setTop (mkF m 146 #[.val (.int i0), .val (.int i1), .val (.int (1 : Int32)), .val (.int code), .val (.int (code.toUInt32.toUInt16.toUInt32.toInt32)), .val (.ref a_XML_1_1), .val (.int (1 : Int32))] []))) (fun t k => XS.icmpNo X13.here hx rfl (hb hby at_143) rfl (teq (by decide : ((1 : Int32) = (1 : Int32)))).2 k) ?_
      refine own_pre (S' := (T13.setTop (mkF m 147 #[.val (.int i0), .val (.int i1), .val (.int (1 : Int32)), .val (.int code), .val (.int (code.toUInt32.toUInt16.toUInt32.toInt32)), .val (.ref a_XML_1_1), .val (.int (1 : Int32))] [(.int (1 : Int32))]))) (fun t k => XS.iconst X13.here hx rfl (hb hby at_146) k) ?_
      refine own_pre (S' := (T13.setTop (mkF m 151 #[.val (.int i0), .val (.int i1), .val (.int (1 : Int32)), .val (.int code), .val (.int (code.toUInt32.toUInt16.toUInt32.toInt32)), .val (.ref a_XML_1_1), .val (.int (1 : Int32))] [(.int (1 : Int32))]))) (fun t k => XS.goto X13.here hx rfl (pc0 := 147) (pc' := 151) rfl (hb hby at_147) (by decide) (by decide) k) ?_
      refine own_ret (t := .boolean) X13 hx hlk hrt rfl (Or.inl ⟨rfl, by simp, _, rfl⟩) (hb hby at_151) (by decide) (by decide) ?_
      exact ⟨rfl, N13⟩
  have J0 : ∀ (code : Int32) (hc : 0 ≤ code.toInt ∧ code.toInt ≤ 65535), own_Ends p e below s (fun v h L => v = some (.int 1) ∧ Fr n0 L) room_1.cells room_1.slots (T0.setTop (mkF m 50 #[.val (.int i0), .val (.int i1), .val (.int (0 : Int32)), .val (.int code), .unset, .unset, .unset] [])) := by
    intro code hc
    refine own_pre (S' := (T0.setTop (mkF m 51 #[.val (.int i0), .val (.int i1), .val (.int (0 : Int32)), .val (.int code), .unset, .unset, .unset] [(.int code)]))) (fun t k => XS.iloadN X0.here hx rfl (hb hby at_50) rfl k) ?_
    refine own_pre (S' := (T0.setTop (mkF m 52 #[.val (.int i0), .val (.int i1), .val (.int (0 : Int32)), .val (.int code), .unset, .unset, .unset] [(.int (code.toUInt32.toUInt16.toUInt32.toInt32))]))) (fun t k => XS.i2c X0.here hx rfl (hb hby at_51) rfl k) ?_
    refine own_pre (S' := (T0.setTop (mkF m 54 #[.val (.int i0), .val (.int i1), .val (.int (0 : Int32)), .val (.int code), .val (.int (code.toUInt32.toUInt16.toUInt32.toInt32)), .unset, .unset] []))) (fun t k => XS.istore X0.here hx rfl (hb hby at_52) rfl (l' := #[.val (.int i0), .val (.int i1), .val (.int (0 : Int32)), .val (.int code), .val (.int (code.toUInt32.toUInt16.toUInt32.toInt32)), .unset, .unset]) rfl k) ?_
    refine own_pre (S' := (T0.setTop (mkF m 55 #[.val (.int i0), .val (.int i1), .val (.int (0 : Int32)), .val (.int code), .val (.int (code.toUInt32.toUInt16.toUInt32.toInt32)), .unset, .unset] [(.int (0 : Int32))]))) (fun t k => XS.iloadN X0.here hx rfl (hb hby at_54) rfl k) ?_
    refine own_pre (S' := (T0.setTop (mkF m 64 #[.val (.int i0), .val (.int i1), .val (.int (0 : Int32)), .val (.int code), .val (.int (code.toUInt32.toUInt16.toUInt32.toInt32)), .unset, .unset] []))) (fun t k => XS.ifYes X0.here hx rfl (pc0 := 55) (pc' := 64) rfl (hb hby at_55) rfl ((if0 _ _).trans (teq (by decide : ((0 : Int32) = (0 : Int32)))).1) (by decide) (by decide) k) ?_
    obtain ⟨T14, X14, e14, st14⟩ := getS2 X0 hx hZ hown (host := "") (Or.inl (hw _ (List.mem_of_getElem? (i := 1) rfl))) Via.refl e0 S_XML_1_0 (g := (mkF m 64 #[.val (.int i0), .val (.int i1), .val (.int (0 : Int32)), .val (.int code), .val (.int (code.toUInt32.toUInt16.toUInt32.toInt32)), .unset, .unset] [])) rfl (hb hby at_64)
    refine own_pre (S' := (T14.setTop (mkF m 67 #[.val (.int i0), .val (.int i1), .val (.int (0 : Int32)), .val (.int code), .val (.int (code.toUInt32.toUInt16.toUInt32.toInt32)), .unset, .unset] [(.ref a_XML_1_0)]))) st14 ?_
    refine own_pre (S' := (T14.setTop (mkF m 69 #[.val (.int i0), .val (.int i1), .val (.int (0 : Int32)), .val (.int code), .val (.int (code.toUInt32.toUInt16.toUInt32.toInt32)), .val (.ref a_XML_1_0), .unset] []))) (fun t k => XS.astore X14.here hx rfl (hb hby at_67) rfl rfl (l' := #[.val (.int i0), .val (.int i1), .val (.int (0 : Int32)), .val (.int code), .val (.int (code.toUInt32.toUInt16.toUInt32.toInt32)), .val (.ref a_XML_1_0), .unset]) rfl k) ?_
    refine own_pre (S' := (T14.setTop (mkF m 70 #[.val (.int i0), .val (.int i1), .val (.int (0 : Int32)), .val (.int code), .val (.int (code.toUInt32.toUInt16.toUInt32.toInt32)), .val (.ref a_XML_1_0), .unset] [(.int (0 : Int32))]))) (fun t k => XS.iloadN X14.here hx rfl (hb hby at_69) rfl k) ?_
    refine own_pre (S' := (T14.setTop (mkF m 73 #[.val (.int i0), .val (.int i1), .val (.int (0 : Int32)), .val (.int code), .val (.int (code.toUInt32.toUInt16.toUInt32.toInt32)), .val (.ref a_XML_1_0), .unset] []))) (fun t k => XS.ifNo X14.here hx rfl (hb hby at_70) rfl ((if0 _ _).trans (teq (by decide : ((0 : Int32) = (0 : Int32)))).2) k) ?_
    refine own_pre (S' := (T14.setTop (mkF m 74 #[.val (.int i0), .val (.int i1), .val (.int (0 : Int32)), .val (.int code), .val (.int (code.toUInt32.toUInt16.toUInt32.toInt32)), .val (.ref a_XML_1_0), .unset] [(.int code)]))) (fun t k => XS.iloadN X14.here hx rfl (hb hby at_73) rfl k) ?_
    refine own_pre (S' := (T14.setTop (mkF m 76 #[.val (.int i0), .val (.int i1), .val (.int (0 : Int32)), .val (.int code), .val (.int (code.toUInt32.toUInt16.toUInt32.toInt32)), .val (.ref a_XML_1_0), .unset] [(.int (13 : Int32)), (.int code)]))) (fun t k => XS.bipush X14.here hx rfl (hb hby at_74) k) ?_
    by_cases c76 : code = (13 : Int32)
    · -- pc 76: code = (13 : Int32)
      refine own_pre (S' := (T14.setTop (mkF m 79 #[.val (.int i0), .val (.int i1), .val (.int (0 : Int32)), .val (.int code), .val (.int (code.toUInt32.toUInt16.toUInt32.toInt32)), .val (.ref a_XML_1_0), .unset] []))) (fun t k => XS.icmpNo X14.here hx rfl (hb hby at_76) rfl (teq c76).2 k) ?_
      refine own_pre (S' := (T14.setTop (mkF m 80 #[.val (.int i0), .val (.int i1), .val (.int (0 : Int32)), .val (.int code), .val (.int (code.toUInt32.toUInt16.toUInt32.toInt32)), .val (.ref a_XML_1_0), .unset] [(.int (1 : Int32))]))) (fun t k => XS.iconst X14.here hx rfl (hb hby at_79) k) ?_
      refine own_pre (S' := (T14.setTop (mkF m 84 #[.val (.int i0), .val (.int i1), .val (.int (0 : Int32)), .val (.int code), .val (.int (code.toUInt32.toUInt16.toUInt32.toInt32)), .val (.ref a_XML_1_0), .unset] [(.int (1 : Int32))]))) (fun t k => XS.goto X14.here hx rfl (pc0 := 80) (pc' := 84) rfl (hb hby at_80) (by decide) (by decide) k) ?_
      refine own_pre (S' := (T14.setTop (mkF m 86 #[.val (.int i0), .val (.int i1), .val (.int (0 : Int32)), .val (.int code), .val (.int (code.toUInt32.toUInt16.toUInt32.toInt32)), .val (.ref a_XML_1_0), .val (.int (1 : Int32))] []))) (fun t k => XS.istore X14.here hx rfl (hb hby at_84) rfl (l' := #[.val (.int i0), .val (.int i1), .val (.int (0 : Int32)), .val (.int code), .val (.int (code.toUInt32.toUInt16.toUInt32.toInt32)), .val (.ref a_XML_1_0), .val (.int (1 : Int32))]) rfl k) ?_
      refine own_pre (S' := (T14.setTop (mkF m 134 #[.val (.int i0), .val (.int i1), .val (.int (0 : Int32)), .val (.int code), .val (.int (code.toUInt32.toUInt16.toUInt32.toInt32)), .val (.ref a_XML_1_0), .val (.int (1 : Int32))] []))) (fun t k => XS.goto X14.here hx rfl (pc0 := 86) (pc' := 134) rfl (hb hby at_86) (by decide) (by decide) k) ?_
      refine own_pre (S' := (T14.setTop (mkF m 136 #[.val (.int i0), .val (.int i1), .val (.int (0 : Int32)), .val (.int code), .val (.int (code.toUInt32.toUInt16.toUInt32.toInt32)), .val (.ref a_XML_1_0), .val (.int (1 : Int32))] [(.ref a_XML_1_0)]))) (fun t k => XS.aload X14.here hx rfl (hb hby at_134) rfl rfl k) ?_
      refine own_pre (S' := (T14.setTop (mkF m 138 #[.val (.int i0), .val (.int i1), .val (.int (0 : Int32)), .val (.int code), .val (.int (code.toUInt32.toUInt16.toUInt32.toInt32)), .val (.ref a_XML_1_0), .val (.int (1 : Int32))] [(.int (code.toUInt32.toUInt16.toUInt32.toInt32)), (.ref a_XML_1_0)]))) (fun t k => XS.iload X14.here hx rfl (hb hby at_136) rfl k) ?_
      have hic := c_i2c code
      simp only [Int32.lt_iff_toInt_lt, ← Int32.toInt_inj, Int32.reduceToInt] at c76
      refine own_callV (C := "com/example/cadmus/cadmus/XmlVersion") (y := (⟨"com/example/cadmus/cadmus/XmlVersion", "needsReference", "(C)Z"⟩ : MethodName)) (b := a_XML_1_0) X14 hx hZ hown (hw _ (List.mem_of_getElem? (i := 4) rfl)) (hw _ (List.mem_of_getElem? (i := 5) rfl)) (hw _ (List.mem_of_getElem? (i := 7) rfl)) (hw _ (List.mem_of_getElem? (i := 6) rfl)) (hw _ (List.mem_of_getElem? (i := 8) rfl)) (hw _ (List.mem_of_getElem? (i := 2) rfl)) (by decide) e14 E_XML_1_0 (hM := own_nr l Z a0 hw [] a_XML_1_0 a_XML_1_0 (code.toUInt32.toUInt16.toUInt32.toInt32) (1 : Int32) h0 n0 Z0 (fun _ => by first | (left; exact ⟨by omega, rfl⟩) | (right; exact ⟨by omega, rfl⟩)) (fun q => absurd rfl q) S_XML_1_0) (W := 0) (pc := 138) (Ls := #[.val (.int i0), .val (.int i1), .val (.int (0 : Int32)), .val (.int code), .val (.int (code.toUInt32.toUInt16.toUInt32.toInt32)), .val (.ref a_XML_1_0), .val (.int (1 : Int32))]) (argsL := [(.int (code.toUInt32.toUInt16.toUInt32.toInt32))]) (rest := []) (st0 := [(.int (code.toUInt32.toUInt16.toUInt32.toInt32)), (.ref a_XML_1_0)]) (by rw [hml]; rfl) (lenOf own_pd0 rfl) rfl (Nat.le_of_eq rfl) (hb hby at_138) (by decide) (by decide) (by decide) (by decide) ?_
      intro v15 T15 L15 X15 hQ15
      obtain ⟨rfl, Nq15, hh15⟩ := hQ15
      have N15 := Fr.app N0 Nq15
      show own_Ends p e below s _ _ _ (T15.setTop (mkF m 141 #[.val (.int i0), .val (.int i1), .val (.int (0 : Int32)), .val (.int code), .val (.int (code.toUInt32.toUInt16.toUInt32.toInt32)), .val (.ref a_XML_1_0), .val (.int (1 : Int32))] [(.int (1 : Int32))]))
      refine own_pre (S' := (T15.setTop (mkF m 143 #[.val (.int i0), .val (.int i1), .val (.int (0 : Int32)), .val (.int code), .val (.int (code.toUInt32.toUInt16.toUInt32.toInt32)), .val (.ref a_XML_1_0), .val (.int (1 : Int32))] [(.int (1 : Int32)), (.int (1 : Int32))]))) (fun t k => XS.iload X15.here hx rfl (hb hby at_141) rfl k) ?_
      refine own_pre (S' := (T15.setTop (mkF m 146 #[.val (.int i0), .val (.int i1), .val (.int (0 : Int32)), .val (.int code), .val (.int (code.toUInt32.toUInt16.toUInt32.toInt32)), .val (.ref a_XML_1_0), .val (.int (1 : Int32))] []))) (fun t k => XS.icmpNo X15.here hx rfl (hb hby at_143) rfl (teq (by decide : ((1 : Int32) = (1 : Int32)))).2 k) ?_
      refine own_pre (S' := (T15.setTop (mkF m 147 #[.val (.int i0), .val (.int i1), .val (.int (0 : Int32)), .val (.int code), .val (.int (code.toUInt32.toUInt16.toUInt32.toInt32)), .val (.ref a_XML_1_0), .val (.int (1 : Int32))] [(.int (1 : Int32))]))) (fun t k => XS.iconst X15.here hx rfl (hb hby at_146) k) ?_
      refine own_pre (S' := (T15.setTop (mkF m 151 #[.val (.int i0), .val (.int i1), .val (.int (0 : Int32)), .val (.int code), .val (.int (code.toUInt32.toUInt16.toUInt32.toInt32)), .val (.ref a_XML_1_0), .val (.int (1 : Int32))] [(.int (1 : Int32))]))) (fun t k => XS.goto X15.here hx rfl (pc0 := 147) (pc' := 151) rfl (hb hby at_147) (by decide) (by decide) k) ?_
      refine own_ret (t := .boolean) X15 hx hlk hrt rfl (Or.inl ⟨rfl, by simp, _, rfl⟩) (hb hby at_151) (by decide) (by decide) ?_
      exact ⟨rfl, N15⟩
    · -- pc 76: not code = (13 : Int32)
      refine own_pre (S' := (T14.setTop (mkF m 83 #[.val (.int i0), .val (.int i1), .val (.int (0 : Int32)), .val (.int code), .val (.int (code.toUInt32.toUInt16.toUInt32.toInt32)), .val (.ref a_XML_1_0), .unset] []))) (fun t k => XS.icmpYes X14.here hx rfl (pc0 := 76) (pc' := 83) rfl (hb hby at_76) rfl (feq c76).2 (by decide) (by decide) k) ?_
      refine own_pre (S' := (T14.setTop (mkF m 84 #[.val (.int i0), .val (.int i1), .val (.int (0 : Int32)), .val (.int code), .val (.int (code.toUInt32.toUInt16.toUInt32.toInt32)), .val (.ref a_XML_1_0), .unset] [(.int (0 : Int32))]))) (fun t k => XS.iconst X14.here hx rfl (hb hby at_83) k) ?_
      refine own_pre (S' := (T14.setTop (mkF m 86 #[.val (.int i0), .val (.int i1), .val (.int (0 : Int32)), .val (.int code), .val (.int (code.toUInt32.toUInt16.toUInt32.toInt32)), .val (.ref a_XML_1_0), .val (.int (0 : Int32))] []))) (fun t k => XS.istore X14.here hx rfl (hb hby at_84) rfl (l' := #[.val (.int i0), .val (.int i1), .val (.int (0 : Int32)), .val (.int code), .val (.int (code.toUInt32.toUInt16.toUInt32.toInt32)), .val (.ref a_XML_1_0), .val (.int (0 : Int32))]) rfl k) ?_
      refine own_pre (S' := (T14.setTop (mkF m 134 #[.val (.int i0), .val (.int i1), .val (.int (0 : Int32)), .val (.int code), .val (.int (code.toUInt32.toUInt16.toUInt32.toInt32)), .val (.ref a_XML_1_0), .val (.int (0 : Int32))] []))) (fun t k => XS.goto X14.here hx rfl (pc0 := 86) (pc' := 134) rfl (hb hby at_86) (by decide) (by decide) k) ?_
      refine own_pre (S' := (T14.setTop (mkF m 136 #[.val (.int i0), .val (.int i1), .val (.int (0 : Int32)), .val (.int code), .val (.int (code.toUInt32.toUInt16.toUInt32.toInt32)), .val (.ref a_XML_1_0), .val (.int (0 : Int32))] [(.ref a_XML_1_0)]))) (fun t k => XS.aload X14.here hx rfl (hb hby at_134) rfl rfl k) ?_
      refine own_pre (S' := (T14.setTop (mkF m 138 #[.val (.int i0), .val (.int i1), .val (.int (0 : Int32)), .val (.int code), .val (.int (code.toUInt32.toUInt16.toUInt32.toInt32)), .val (.ref a_XML_1_0), .val (.int (0 : Int32))] [(.int (code.toUInt32.toUInt16.toUInt32.toInt32)), (.ref a_XML_1_0)]))) (fun t k => XS.iload X14.here hx rfl (hb hby at_136) rfl k) ?_
      have hic := c_i2c code
      simp only [Int32.lt_iff_toInt_lt, ← Int32.toInt_inj, Int32.reduceToInt] at c76
      refine own_callV (C := "com/example/cadmus/cadmus/XmlVersion") (y := (⟨"com/example/cadmus/cadmus/XmlVersion", "needsReference", "(C)Z"⟩ : MethodName)) (b := a_XML_1_0) X14 hx hZ hown (hw _ (List.mem_of_getElem? (i := 4) rfl)) (hw _ (List.mem_of_getElem? (i := 5) rfl)) (hw _ (List.mem_of_getElem? (i := 7) rfl)) (hw _ (List.mem_of_getElem? (i := 6) rfl)) (hw _ (List.mem_of_getElem? (i := 8) rfl)) (hw _ (List.mem_of_getElem? (i := 2) rfl)) (by decide) e14 E_XML_1_0 (hM := own_nr l Z a0 hw [] a_XML_1_0 a_XML_1_0 (code.toUInt32.toUInt16.toUInt32.toInt32) (0 : Int32) h0 n0 Z0 (fun _ => by first | (left; exact ⟨by omega, rfl⟩) | (right; exact ⟨by omega, rfl⟩)) (fun q => absurd rfl q) S_XML_1_0) (W := 0) (pc := 138) (Ls := #[.val (.int i0), .val (.int i1), .val (.int (0 : Int32)), .val (.int code), .val (.int (code.toUInt32.toUInt16.toUInt32.toInt32)), .val (.ref a_XML_1_0), .val (.int (0 : Int32))]) (argsL := [(.int (code.toUInt32.toUInt16.toUInt32.toInt32))]) (rest := []) (st0 := [(.int (code.toUInt32.toUInt16.toUInt32.toInt32)), (.ref a_XML_1_0)]) (by rw [hml]; rfl) (lenOf own_pd0 rfl) rfl (Nat.le_of_eq rfl) (hb hby at_138) (by decide) (by decide) (by decide) (by decide) ?_
      intro v16 T16 L16 X16 hQ16
      obtain ⟨rfl, Nq16, hh16⟩ := hQ16
      have N16 := Fr.app N0 Nq16
      show own_Ends p e below s _ _ _ (T16.setTop (mkF m 141 #[.val (.int i0), .val (.int i1), .val (.int (0 : Int32)), .val (.int code), .val (.int (code.toUInt32.toUInt16.toUInt32.toInt32)), .val (.ref a_XML_1_0), .val (.int (0 : Int32))] [(.int (0 : Int32))]))
      refine own_pre (S' := (T16.setTop (mkF m 143 #[.val (.int i0), .val (.int i1), .val (.int (0 : Int32)), .val (.int code), .val (.int (code.toUInt32.toUInt16.toUInt32.toInt32)), .val (.ref a_XML_1_0), .val (.int (0 : Int32))] [(.int (0 : Int32)), (.int (0 : Int32))]))) (fun t k => XS.iload X16.here hx rfl (hb hby at_141) rfl k) ?_
      refine own_pre (S' := (T16.setTop (mkF m 146 #[.val (.int i0), .val (.int i1), .val (.int (0 : Int32)), .val (.int code), .val (.int (code.toUInt32.toUInt16.toUInt32.toInt32)), .val (.ref a_XML_1_0), .val (.int (0 : Int32))] []))) (fun t k => XS.icmpNo X16.here hx rfl (hb hby at_143) rfl (teq (by decide : ((0 : Int32) = (0 : Int32)))).2 k) ?_
      refine own_pre (S' := (T16.setTop (mkF m 147 #[.val (.int i0), .val (.int i1), .val (.int (0 : Int32)), .val (.int code), .val (.int (code.toUInt32.toUInt16.toUInt32.toInt32)), .val (.ref a_XML_1_0), .val (.int (0 : Int32))] [(.int (1 : Int32))]))) (fun t k => XS.iconst X16.here hx rfl (hb hby at_146) k) ?_
      refine own_pre (S' := (T16.setTop (mkF m 151 #[.val (.int i0), .val (.int i1), .val (.int (0 : Int32)), .val (.int code), .val (.int (code.toUInt32.toUInt16.toUInt32.toInt32)), .val (.ref a_XML_1_0), .val (.int (0 : Int32))] [(.int (1 : Int32))]))) (fun t k => XS.goto X16.here hx rfl (pc0 := 147) (pc' := 151) rfl (hb hby at_147) (by decide) (by decide) k) ?_
      refine own_ret (t := .boolean) X16 hx hlk hrt rfl (Or.inl ⟨rfl, by simp, _, rfl⟩) (hb hby at_151) (by decide) (by decide) ?_
      exact ⟨rfl, N16⟩
  refine own_pre (S' := (T0.setTop (mkF m 1 #[.val (.int i0), .val (.int i1), .unset, .unset, .unset, .unset, .unset] [(.int i0)]))) (fun t k => XS.iloadN X0.here hx rfl (hb hby at_0) rfl k) ?_
  refine own_pre (S' := (T0.setTop (mkF m 2 #[.val (.int i0), .val (.int i1), .unset, .unset, .unset, .unset, .unset] [(.int (1 : Int32)), (.int i0)]))) (fun t k => XS.iconst X0.here hx rfl (hb hby at_1) k) ?_
  refine own_pre (S' := (T0.setTop (mkF m 3 #[.val (.int i0), .val (.int i1), .unset, .unset, .unset, .unset, .unset] [(.int (i0 &&& (1 : Int32)))]))) (fun t k => XS.iand X0.here hx rfl (hb hby at_2) rfl k) ?_
  by_cases c3 : (i0 &&& (1 : Int32)) = (0 : Int32)
  · -- pc 3: (i0 &&& (1 : Int32)) = (0 : Int32)
    refine own_pre (S' := (T0.setTop (mkF m 10 #[.val (.int i0), .val (.int i1), .unset, .unset, .unset, .unset, .unset] []))) (fun t k => XS.ifYes X0.here hx rfl (pc0 := 3) (pc' := 10) rfl (hb hby at_3) rfl ((if0 _ _).trans (teq c3).1) (by decide) (by decide) k) ?_
    refine own_pre (S' := (T0.setTop (mkF m 11 #[.val (.int i0), .val (.int i1), .unset, .unset, .unset, .unset, .unset] [(.int (0 : Int32))]))) (fun t k => XS.iconst X0.here hx rfl (hb hby at_10) k) ?_
    refine own_pre (S' := (T0.setTop (mkF m 12 #[.val (.int i0), .val (.int i1), .val (.int (0 : Int32)), .unset, .unset, .unset, .unset] []))) (fun t k => XS.istoreN X0.here hx rfl (hb hby at_11) rfl (l' := #[.val (.int i0), .val (.int i1), .val (.int (0 : Int32)), .unset, .unset, .unset, .unset]) rfl k) ?_
    refine own_pre (S' := (T0.setTop (mkF m 13 #[.val (.int i0), .val (.int i1), .val (.int (0 : Int32)), .unset, .unset, .unset, .unset] [(.int i0)]))) (fun t k => XS.iloadN X0.here hx rfl (hb hby at_12) rfl k) ?_
    refine own_pre (S' := (T0.setTop (mkF m 14 #[.val (.int i0), .val (.int i1), .val (.int (0 : Int32)), .unset, .unset, .unset, .unset] [(.int (2 : Int32)), (.int i0)]))) (fun t k => XS.iconst X0.here hx rfl (hb hby at_13) k) ?_
    refine own_pre (S' := (T0.setTop (mkF m 15 #[.val (.int i0), .val (.int i1), .val (.int (0 : Int32)), .unset, .unset, .unset, .unset] [(.int (i0 &&& (2 : Int32)))]))) (fun t k => XS.iand X0.here hx rfl (hb hby at_14) rfl k) ?_
    by_cases c15 : (i0 &&& (2 : Int32)) = (0 : Int32)
    · -- pc 15: (i0 &&& (2 : Int32)) = (0 : Int32)
      refine own_pre (S' := (T0.setTop (mkF m 27 #[.val (.int i0), .val (.int i1), .val (.int (0 : Int32)), .unset, .unset, .unset, .unset] []))) (fun t k => XS.ifYes X0.here hx rfl (pc0 := 15) (pc' := 27) rfl (hb hby at_15) rfl ((if0 _ _).trans (teq c15).1) (by decide) (by decide) k) ?_
      refine own_pre (S' := (T0.setTop (mkF m 28 #[.val (.int i0), .val (.int i1), .val (.int (0 : Int32)), .unset, .unset, .unset, .unset] [(.int i0)]))) (fun t k => XS.iloadN X0.here hx rfl (hb hby at_27) rfl k) ?_
      refine own_pre (S' := (T0.setTop (mkF m 29 #[.val (.int i0), .val (.int i1), .val (.int (0 : Int32)), .unset, .unset, .unset, .unset] [(.int (4 : Int32)), (.int i0)]))) (fun t k => XS.iconst X0.here hx rfl (hb hby at_28) k) ?_
      refine own_pre (S' := (T0.setTop (mkF m 30 #[.val (.int i0), .val (.int i1), .val (.int (0 : Int32)), .unset, .unset, .unset, .unset] [(.int (i0 &&& (4 : Int32)))]))) (fun t k => XS.iand X0.here hx rfl (hb hby at_29) rfl k) ?_
      by_cases c30 : (i0 &&& (4 : Int32)) = (0 : Int32)
      · -- pc 30: (i0 &&& (4 : Int32)) = (0 : Int32)
        refine own_pre (S' := (T0.setTop (mkF m 45 #[.val (.int i0), .val (.int i1), .val (.int (0 : Int32)), .unset, .unset, .unset, .unset] []))) (fun t k => XS.ifYes X0.here hx rfl (pc0 := 30) (pc' := 45) rfl (hb hby at_30) rfl ((if0 _ _).trans (teq c30).1) (by decide) (by decide) k) ?_
        refine own_pre (S' := (T0.setTop (mkF m 46 #[.val (.int i0), .val (.int i1), .val (.int (0 : Int32)), .unset, .unset, .unset, .unset] [(.int i1)]))) (fun t k => XS.iloadN X0.here hx rfl (hb hby at_45) rfl k) ?_
        refine own_pre (S' := (T0.setTop (mkF m 48 #[.val (.int i0), .val (.int i1), .val (.int (0 : Int32)), .unset, .unset, .unset, .unset] [(.int (65535 : Int32)), (.int i1)]))) (X0.ldcInt hx hown (mvT hZ (hw _ (List.mem_of_getElem? (i := 0) rfl))) (g := (mkF m 46 #[.val (.int i0), .val (.int i1), .val (.int (0 : Int32)), .unset, .unset, .unset, .unset] [(.int i1)])) rfl (hb hby at_46)) ?_
        refine own_pre (S' := (T0.setTop (mkF m 49 #[.val (.int i0), .val (.int i1), .val (.int (0 : Int32)), .unset, .unset, .unset, .unset] [(.int (i1 &&& (65535 : Int32)))]))) (fun t k => XS.iand X0.here hx rfl (hb hby at_48) rfl k) ?_
        refine own_pre (S' := (T0.setTop (mkF m 50 #[.val (.int i0), .val (.int i1), .val (.int (0 : Int32)), .val (.int (i1 &&& (65535 : Int32))), .unset, .unset, .unset] []))) (fun t k => XS.istoreN X0.here hx rfl (hb hby at_49) rfl (l' := #[.val (.int i0), .val (.int i1), .val (.int (0 : Int32)), .val (.int (i1 &&& (65535 : Int32))), .unset, .unset, .unset]) rfl k) ?_
        exact J0 _ (own_m64k i1)
      · -- pc 30: not (i0 &&& (4 : Int32)) = (0 : Int32)
        refine own_pre (S' := (T0.setTop (mkF m 33 #[.val (.int i0), .val (.int i1), .val (.int (0 : Int32)), .unset, .unset, .unset, .unset] []))) (fun t k => XS.ifNo X0.here hx rfl (hb hby at_30) rfl ((if0 _ _).trans (feq c30).1) k) ?_
        refine own_pre (S' := (T0.setTop (mkF m 36 #[.val (.int i0), .val (.int i1), .val (.int (0 : Int32)), .unset, .unset, .unset, .unset] [(.int (8224 : Int32))]))) (fun t k => XS.sipush X0.here hx rfl (hb hby at_33) k) ?_
        refine own_pre (S' := (T0.setTop (mkF m 37 #[.val (.int i0), .val (.int i1), .val (.int (0 : Int32)), .unset, .unset, .unset, .unset] [(.int i1), (.int (8224 : Int32))]))) (fun t k => XS.iloadN X0.here hx rfl (hb hby at_36) rfl k) ?_
        refine own_pre (S' := (T0.setTop (mkF m 39 #[.val (.int i0), .val (.int i1), .val (.int (0 : Int32)), .unset, .unset, .unset, .unset] [(.int (15 : Int32)), (.int i1), (.int (8224 : Int32))]))) (fun t k => XS.bipush X0.here hx rfl (hb hby at_37) k) ?_
        refine own_pre (S' := (T0.setTop (mkF m 40 #[.val (.int i0), .val (.int i1), .val (.int (0 : Int32)), .unset, .unset, .unset, .unset] [(.int (i1 &&& (15 : Int32))), (.int (8224 : Int32))]))) (fun t k => XS.iand X0.here hx rfl (hb hby at_39) rfl k) ?_
        refine own_pre (S' := (T0.setTop (mkF m 41 #[.val (.int i0), .val (.int i1), .val (.int (0 : Int32)), .unset, .unset, .unset, .unset] [(.int ((8224 : Int32) + (i1 &&& (15 : Int32))))]))) (fun t k => XS.iadd X0.here hx rfl (hb hby at_40) rfl k) ?_
        refine own_pre (S' := (T0.setTop (mkF m 42 #[.val (.int i0), .val (.int i1), .val (.int (0 : Int32)), .val (.int ((8224 : Int32) + (i1 &&& (15 : Int32)))), .unset, .unset, .unset] []))) (fun t k => XS.istoreN X0.here hx rfl (hb hby at_41) rfl (l' := #[.val (.int i0), .val (.int i1), .val (.int (0 : Int32)), .val (.int ((8224 : Int32) + (i1 &&& (15 : Int32)))), .unset, .unset, .unset]) rfl k) ?_
        refine own_pre (S' := (T0.setTop (mkF m 50 #[.val (.int i0), .val (.int i1), .val (.int (0 : Int32)), .val (.int ((8224 : Int32) + (i1 &&& (15 : Int32)))), .unset, .unset, .unset] []))) (fun t k => XS.goto X0.here hx rfl (pc0 := 42) (pc' := 50) rfl (hb hby at_42) (by decide) (by decide) k) ?_
        exact J0 _ (own_m15 i1)
    · -- pc 15: not (i0 &&& (2 : Int32)) = (0 : Int32)
      refine own_pre (S' := (T0.setTop (mkF m 18 #[.val (.int i0), .val (.int i1), .val (.int (0 : Int32)), .unset, .unset, .unset, .unset] []))) (fun t k => XS.ifNo X0.here hx rfl (hb hby at_15) rfl ((if0 _ _).trans (feq c15).1) k) ?_
      refine own_pre (S' := (T0.setTop (mkF m 19 #[.val (.int i0), .val (.int i1), .val (.int (0 : Int32)), .unset, .unset, .unset, .unset] [(.int i1)]))) (fun t k => XS.iloadN X0.here hx rfl (hb hby at_18) rfl k) ?_
      refine own_pre (S' := (T0.setTop (mkF m 22 #[.val (.int i0), .val (.int i1), .val (.int (0 : Int32)), .unset, .unset, .unset, .unset] [(.int (255 : Int32)), (.int i1)]))) (fun t k => XS.sipush X0.here hx rfl (hb hby at_19) k) ?_
      refine own_pre (S' := (T0.setTop (mkF m 23 #[.val (.int i0), .val (.int i1), .val (.int (0 : Int32)), .unset, .unset, .unset, .unset] [(.int (i1 &&& (255 : Int32)))]))) (fun t k => XS.iand X0.here hx rfl (hb hby at_22) rfl k) ?_
      refine own_pre (S' := (T0.setTop (mkF m 24 #[.val (.int i0), .val (.int i1), .val (.int (0 : Int32)), .val (.int (i1 &&& (255 : Int32))), .unset, .unset, .unset] []))) (fun t k => XS.istoreN X0.here hx rfl (hb hby at_23) rfl (l' := #[.val (.int i0), .val (.int i1), .val (.int (0 : Int32)), .val (.int (i1 &&& (255 : Int32))), .unset, .unset, .unset]) rfl k) ?_
      refine own_pre (S' := (T0.setTop (mkF m 50 #[.val (.int i0), .val (.int i1), .val (.int (0 : Int32)), .val (.int (i1 &&& (255 : Int32))), .unset, .unset, .unset] []))) (fun t k => XS.goto X0.here hx rfl (pc0 := 24) (pc' := 50) rfl (hb hby at_24) (by decide) (by decide) k) ?_
      exact J0 _ (own_m255 i1)
  · -- pc 3: not (i0 &&& (1 : Int32)) = (0 : Int32)
    refine own_pre (S' := (T0.setTop (mkF m 6 #[.val (.int i0), .val (.int i1), .unset, .unset, .unset, .unset, .unset] []))) (fun t k => XS.ifNo X0.here hx rfl (hb hby at_3) rfl ((if0 _ _).trans (feq c3).1) k) ?_
    refine own_pre (S' := (T0.setTop (mkF m 7 #[.val (.int i0), .val (.int i1), .unset, .unset, .unset, .unset, .unset] [(.int (1 : Int32))]))) (fun t k => XS.iconst X0.here hx rfl (hb hby at_6) k) ?_
    refine own_pre (S' := (T0.setTop (mkF m 11 #[.val (.int i0), .val (.int i1), .unset, .unset, .unset, .unset, .unset] [(.int (1 : Int32))]))) (fun t k => XS.goto X0.here hx rfl (pc0 := 7) (pc' := 11) rfl (hb hby at_7) (by decide) (by decide) k) ?_
    refine own_pre (S' := (T0.setTop (mkF m 12 #[.val (.int i0), .val (.int i1), .val (.int (1 : Int32)), .unset, .unset, .unset, .unset] []))) (fun t k => XS.istoreN X0.here hx rfl (hb hby at_11) rfl (l' := #[.val (.int i0), .val (.int i1), .val (.int (1 : Int32)), .unset, .unset, .unset, .unset]) rfl k) ?_
    refine own_pre (S' := (T0.setTop (mkF m 13 #[.val (.int i0), .val (.int i1), .val (.int (1 : Int32)), .unset, .unset, .unset, .unset] [(.int i0)]))) (fun t k => XS.iloadN X0.here hx rfl (hb hby at_12) rfl k) ?_
    refine own_pre (S' := (T0.setTop (mkF m 14 #[.val (.int i0), .val (.int i1), .val (.int (1 : Int32)), .unset, .unset, .unset, .unset] [(.int (2 : Int32)), (.int i0)]))) (fun t k => XS.iconst X0.here hx rfl (hb hby at_13) k) ?_
    refine own_pre (S' := (T0.setTop (mkF m 15 #[.val (.int i0), .val (.int i1), .val (.int (1 : Int32)), .unset, .unset, .unset, .unset] [(.int (i0 &&& (2 : Int32)))]))) (fun t k => XS.iand X0.here hx rfl (hb hby at_14) rfl k) ?_
    by_cases c15 : (i0 &&& (2 : Int32)) = (0 : Int32)
    · -- pc 15: (i0 &&& (2 : Int32)) = (0 : Int32)
      refine own_pre (S' := (T0.setTop (mkF m 27 #[.val (.int i0), .val (.int i1), .val (.int (1 : Int32)), .unset, .unset, .unset, .unset] []))) (fun t k => XS.ifYes X0.here hx rfl (pc0 := 15) (pc' := 27) rfl (hb hby at_15) rfl ((if0 _ _).trans (teq c15).1) (by decide) (by decide) k) ?_
      refine own_pre (S' := (T0.setTop (mkF m 28 #[.val (.int i0), .val (.int i1), .val (.int (1 : Int32)), .unset, .unset, .unset, .unset] [(.int i0)]))) (fun t k => XS.iloadN X0.here hx rfl (hb hby at_27) rfl k) ?_
      refine own_pre (S' := (T0.setTop (mkF m 29 #[.val (.int i0), .val (.int i1), .val (.int (1 : Int32)), .unset, .unset, .unset, .unset] [(.int (4 : Int32)), (.int i0)]))) (fun t k => XS.iconst X0.here hx rfl (hb hby at_28) k) ?_
      refine own_pre (S' := (T0.setTop (mkF m 30 #[.val (.int i0), .val (.int i1), .val (.int (1 : Int32)), .unset, .unset, .unset, .unset] [(.int (i0 &&& (4 : Int32)))]))) (fun t k => XS.iand X0.here hx rfl (hb hby at_29) rfl k) ?_
      by_cases c30 : (i0 &&& (4 : Int32)) = (0 : Int32)
      · -- pc 30: (i0 &&& (4 : Int32)) = (0 : Int32)
        refine own_pre (S' := (T0.setTop (mkF m 45 #[.val (.int i0), .val (.int i1), .val (.int (1 : Int32)), .unset, .unset, .unset, .unset] []))) (fun t k => XS.ifYes X0.here hx rfl (pc0 := 30) (pc' := 45) rfl (hb hby at_30) rfl ((if0 _ _).trans (teq c30).1) (by decide) (by decide) k) ?_
        refine own_pre (S' := (T0.setTop (mkF m 46 #[.val (.int i0), .val (.int i1), .val (.int (1 : Int32)), .unset, .unset, .unset, .unset] [(.int i1)]))) (fun t k => XS.iloadN X0.here hx rfl (hb hby at_45) rfl k) ?_
        refine own_pre (S' := (T0.setTop (mkF m 48 #[.val (.int i0), .val (.int i1), .val (.int (1 : Int32)), .unset, .unset, .unset, .unset] [(.int (65535 : Int32)), (.int i1)]))) (X0.ldcInt hx hown (mvT hZ (hw _ (List.mem_of_getElem? (i := 0) rfl))) (g := (mkF m 46 #[.val (.int i0), .val (.int i1), .val (.int (1 : Int32)), .unset, .unset, .unset, .unset] [(.int i1)])) rfl (hb hby at_46)) ?_
        refine own_pre (S' := (T0.setTop (mkF m 49 #[.val (.int i0), .val (.int i1), .val (.int (1 : Int32)), .unset, .unset, .unset, .unset] [(.int (i1 &&& (65535 : Int32)))]))) (fun t k => XS.iand X0.here hx rfl (hb hby at_48) rfl k) ?_
        refine own_pre (S' := (T0.setTop (mkF m 50 #[.val (.int i0), .val (.int i1), .val (.int (1 : Int32)), .val (.int (i1 &&& (65535 : Int32))), .unset, .unset, .unset] []))) (fun t k => XS.istoreN X0.here hx rfl (hb hby at_49) rfl (l' := #[.val (.int i0), .val (.int i1), .val (.int (1 : Int32)), .val (.int (i1 &&& (65535 : Int32))), .unset, .unset, .unset]) rfl k) ?_
        exact J1 _ (own_m64k i1)
      · -- pc 30: not (i0 &&& (4 : Int32)) = (0 : Int32)
        refine own_pre (S' := (T0.setTop (mkF m 33 #[.val (.int i0), .val (.int i1), .val (.int (1 : Int32)), .unset, .unset, .unset, .unset] []))) (fun t k => XS.ifNo X0.here hx rfl (hb hby at_30) rfl ((if0 _ _).trans (feq c30).1) k) ?_
        refine own_pre (S' := (T0.setTop (mkF m 36 #[.val (.int i0), .val (.int i1), .val (.int (1 : Int32)), .unset, .unset, .unset, .unset] [(.int (8224 : Int32))]))) (fun t k => XS.sipush X0.here hx rfl (hb hby at_33) k) ?_
        refine own_pre (S' := (T0.setTop (mkF m 37 #[.val (.int i0), .val (.int i1), .val (.int (1 : Int32)), .unset, .unset, .unset, .unset] [(.int i1), (.int (8224 : Int32))]))) (fun t k => XS.iloadN X0.here hx rfl (hb hby at_36) rfl k) ?_
        refine own_pre (S' := (T0.setTop (mkF m 39 #[.val (.int i0), .val (.int i1), .val (.int (1 : Int32)), .unset, .unset, .unset, .unset] [(.int (15 : Int32)), (.int i1), (.int (8224 : Int32))]))) (fun t k => XS.bipush X0.here hx rfl (hb hby at_37) k) ?_
        refine own_pre (S' := (T0.setTop (mkF m 40 #[.val (.int i0), .val (.int i1), .val (.int (1 : Int32)), .unset, .unset, .unset, .unset] [(.int (i1 &&& (15 : Int32))), (.int (8224 : Int32))]))) (fun t k => XS.iand X0.here hx rfl (hb hby at_39) rfl k) ?_
        refine own_pre (S' := (T0.setTop (mkF m 41 #[.val (.int i0), .val (.int i1), .val (.int (1 : Int32)), .unset, .unset, .unset, .unset] [(.int ((8224 : Int32) + (i1 &&& (15 : Int32))))]))) (fun t k => XS.iadd X0.here hx rfl (hb hby at_40) rfl k) ?_
        refine own_pre (S' := (T0.setTop (mkF m 42 #[.val (.int i0), .val (.int i1), .val (.int (1 : Int32)), .val (.int ((8224 : Int32) + (i1 &&& (15 : Int32)))), .unset, .unset, .unset] []))) (fun t k => XS.istoreN X0.here hx rfl (hb hby at_41) rfl (l' := #[.val (.int i0), .val (.int i1), .val (.int (1 : Int32)), .val (.int ((8224 : Int32) + (i1 &&& (15 : Int32)))), .unset, .unset, .unset]) rfl k) ?_
        refine own_pre (S' := (T0.setTop (mkF m 50 #[.val (.int i0), .val (.int i1), .val (.int (1 : Int32)), .val (.int ((8224 : Int32) + (i1 &&& (15 : Int32)))), .unset, .unset, .unset] []))) (fun t k => XS.goto X0.here hx rfl (pc0 := 42) (pc' := 50) rfl (hb hby at_42) (by decide) (by decide) k) ?_
        exact J1 _ (own_m15 i1)
    · -- pc 15: not (i0 &&& (2 : Int32)) = (0 : Int32)
      refine own_pre (S' := (T0.setTop (mkF m 18 #[.val (.int i0), .val (.int i1), .val (.int (1 : Int32)), .unset, .unset, .unset, .unset] []))) (fun t k => XS.ifNo X0.here hx rfl (hb hby at_15) rfl ((if0 _ _).trans (feq c15).1) k) ?_
      refine own_pre (S' := (T0.setTop (mkF m 19 #[.val (.int i0), .val (.int i1), .val (.int (1 : Int32)), .unset, .unset, .unset, .unset] [(.int i1)]))) (fun t k => XS.iloadN X0.here hx rfl (hb hby at_18) rfl k) ?_
      refine own_pre (S' := (T0.setTop (mkF m 22 #[.val (.int i0), .val (.int i1), .val (.int (1 : Int32)), .unset, .unset, .unset, .unset] [(.int (255 : Int32)), (.int i1)]))) (fun t k => XS.sipush X0.here hx rfl (hb hby at_19) k) ?_
      refine own_pre (S' := (T0.setTop (mkF m 23 #[.val (.int i0), .val (.int i1), .val (.int (1 : Int32)), .unset, .unset, .unset, .unset] [(.int (i1 &&& (255 : Int32)))]))) (fun t k => XS.iand X0.here hx rfl (hb hby at_22) rfl k) ?_
      refine own_pre (S' := (T0.setTop (mkF m 24 #[.val (.int i0), .val (.int i1), .val (.int (1 : Int32)), .val (.int (i1 &&& (255 : Int32))), .unset, .unset, .unset] []))) (fun t k => XS.istoreN X0.here hx rfl (hb hby at_23) rfl (l' := #[.val (.int i0), .val (.int i1), .val (.int (1 : Int32)), .val (.int (i1 &&& (255 : Int32))), .unset, .unset, .unset]) rfl k) ?_
      refine own_pre (S' := (T0.setTop (mkF m 50 #[.val (.int i0), .val (.int i1), .val (.int (1 : Int32)), .val (.int (i1 &&& (255 : Int32))), .unset, .unset, .unset] []))) (fun t k => XS.goto X0.here hx rfl (pc0 := 24) (pc' := 50) rfl (hb hby at_24) (by decide) (by decide) k) ?_
      exact J1 _ (own_m255 i1)
set_option maxRecDepth 65536 in
set_option maxHeartbeats 40000000 in
theorem comes_1 {Post : Tables → Env → Array Value → State → Outcome → State → Prop} (hpost : ∀ tb e args s v u, (limb_1_1.after args s (.returned v) u = true ∧ limb_1_2.after args s (.returned v) u = true ∧ True) → FrameEnd s (.returned v) u (Jvm.fieldLocs frame_1_writes args s ++ Jvm.arrayLocs frame_1_arrays args s ++ Jvm.staticLocs frame_1_statics s) 0 0 → Post tb e args s (.returned v) u) :
    ArmFor flags0 classFile x code maxLocals ret World_1 tables_1 room_1 Calls_1 rest_1 Pre_1 Post := by
  intro l hfl _ _ p e ha hc hk s m args below hf hA hF happ hP
  obtain ⟨hcalls, hrest, hpre⟩ := hP
  obtain ⟨-, -, -, hnamed, -, -, -, hat⟩ := (Spec.applies_iff hf).mp happ
  obtain ⟨hg, hn⟩ := and_e (Cond.before_iff.mp (show (Jvm.Cond.and given_1 narrow_1).before args s = true from hpre))
  obtain ⟨hcount, hgg⟩ := and_e hg
  obtain ⟨hk0, hk1⟩ := and_e hgg
  obtain ⟨w0, w1, rfl⟩ : ∃ w0 w1 : Value, args = #[w0, w1] := by
    have hs : args.size = 2 := by simpa [Cond.value, given_1] using hcount
    obtain ⟨L⟩ := args
    match L, hs with
    | [w0, w1], _ => exact ⟨w0, w1, rfl⟩
  have hw := fun d (hd : d ∈ tables_1) => atoms_spec (ws := Jvm.Cond.code x code maxLocals ret :: tables_1) hat d (List.mem_cons_of_mem _ hd)
  have hfit : Fit s := fun {y c} hc i hi => by
    obtain ⟨ha, rfl⟩ := Array.getElem?_eq_some_iff.mp hc
    have q := List.all_eq_true.mp ((Array.all_eq_true_iff_forall_mem.mp hF) _ (Array.getElem_mem ha)) i (List.mem_range.mpr hi)
    simpa [Array.getElem?_eq_getElem hi] using q
  obtain ⟨i0, ei0⟩ := is_v hk0
  obtain rfl : w0 = (.int i0) := Option.some.inj ei0
  obtain ⟨i1, ei1⟩ := is_v hk1
  obtain rfl : w1 = (.int i1) := Option.some.inj ei1
  obtain ⟨hn0, hr0⟩ := and_e hn
  obtain ⟨hn1, hr1⟩ := and_e hr0
  obtain ⟨hn2, hn3⟩ := and_e hr1
  obtain ⟨a_XML_1_0, ev_XML_1_0⟩ := exa_v hn0
  have S_XML_1_0 : Sta s s.heap "com/example/cadmus/cadmus/XmlVersion" "XML_1_0" "Lcom/example/cadmus/cadmus/XmlVersion;" (.ref a_XML_1_0) := Sta.start ev_XML_1_0 (Or.inr ⟨(hw _ (List.mem_of_getElem? (i := 2) rfl)), (hw _ (List.mem_of_getElem? (i := 3) rfl))⟩)
  have E_XML_1_0 : Exa s s.heap a_XML_1_0 "com/example/cadmus/cadmus/XmlVersion" := Exa.start ev_XML_1_0 hn0
  obtain ⟨a_XML_1_1, ev_XML_1_1⟩ := exa_v hn1
  have S_XML_1_1 : Sta s s.heap "com/example/cadmus/cadmus/XmlVersion" "XML_1_1" "Lcom/example/cadmus/cadmus/XmlVersion;" (.ref a_XML_1_1) := Sta.start ev_XML_1_1 (Or.inr ⟨(hw _ (List.mem_of_getElem? (i := 2) rfl)), (hw _ (List.mem_of_getElem? (i := 11) rfl))⟩)
  have E_XML_1_1 : Exa s s.heap a_XML_1_1 "com/example/cadmus/cadmus/XmlVersion" := Exa.start ev_XML_1_1 hn1
  have O_XML_1_1 := own_fieldOf ev_XML_1_1 hn2
  have O_XML_1_0 := own_fieldOf ev_XML_1_0 hn3
  have ne_XML_1_0_XML_1_1 : a_XML_1_0 ≠ a_XML_1_1 := Fld.ne O_XML_1_0 O_XML_1_1 (fun q => absurd (Value.int.inj q) (by decide))
  obtain ⟨n, o, h1, h2, h3, _, L, rfl, ⟨rfl, N⟩, hq⟩ := own_law l s _ hw tables_1 i0 i1 a_XML_1_0 a_XML_1_1 s.heap s.heap.size (Nat.le_refl _) S_XML_1_0 E_XML_1_0 S_XML_1_1 E_XML_1_1 ne_XML_1_0_XML_1_1 p e ha hc hk s m _ below hf ((Spec.applies_iff_loose hf).mp happ).1 ⟨rfl, State.Warmed39.refl s, rfl⟩ trivial
  refine ⟨n, _, h1, h2, h3, hpost _ _ _ _ _ _ ⟨Cond.after_iff.mpr rfl, Cond.after_iff.mpr (eq_i res_at (Term.int_eval (1)) rfl), trivial⟩ ⟨hq.1, hq.2.1, (hq.2.2.sift fun y hy => Or.inr (N y hy)).mono (by decide) (by decide)⟩⟩
theorem main_1_1 : Claimed_1_1 := comes_1 fun _ _ _ _ _ _ h hF => ⟨h.1, hF⟩
theorem main_1_2 : Claimed_1_2 := comes_1 fun _ _ _ _ _ _ h hF => ⟨h.2.1, hF⟩
end Jvm.Pilot.@@N@@
namespace Jvm.Pilot.@@N@@
open Jvm Jvm.ClassFile Sem Op Lib Jvm.Free Jvm.Stand Jvm.Pilot.@@N@@.Jvm.D
/-! MADE BY PROGRAM (witnessworld.py) out of the Statement's table words and the real class files: 12 classes; the members and pool entries that the words name. The judged class is class 1, her method 1. -/
namespace start1
open Jvm.ClassFile
def u (s : String) : CpInfo := .utf8 (stringToUtf16 s)
/-- a pool by its gaps: so many unusable entries, then the entry; so many at the end -/
def gap : Nat → List CpInfo → List CpInfo
  | 0, r => r
  | n + 1, r => .unusable :: gap n r
def poolList (es : List (Nat × CpInfo)) (last : Nat) : List CpInfo := es.foldr (fun e r => gap e.1 (e.2 :: r)) (gap last [])
def pool (es : List (Nat × CpInfo)) (last : Nat) : Array CpInfo := ⟨poolList es last⟩
def fileOf (pool : Array CpInfo) (this : Nat) (attrs : Array Attribute := #[]) (ms : Array MethodInfo := #[]) (fl : Nat := 33) (sup : Nat := 0) (ifs : Array Nat := #[]) (fds : Array FieldInfo := #[]) : ClassFile where
  minorVersion := 0
  majorVersion := 65
  constantPool := pool
  accessFlags := fl
  thisClass := this
  superClass := sup
  interfaces := ifs
  fields := fds
  methods := ms
  attributes := attrs
def plain (name : String) (sup : Option ClassId) : Class where
  name := name
  kind := .ordinary
  loader := none
  accessFlags := 33
  super := sup
  interfaces := #[]
  cf := none
  fields := #[]
  methods := #[]
  instanceTypes := #[]
  staticTypes := #[]
  resolved := #[]
  callSites := []
  init := .initialized
  statics := none
  mirror := none

def pool0 : Array CpInfo := pool [(5, u "<init>"), (0, u "()V"), (1, .class_ 10), (1, u "java/lang/Object")] 113

def k0m0 : Method := { name := "<init>", desc := "()V", sig := { parameters := [], returnType := none }, accessFlags := 1, code := none }
/-- java/lang/Object -/
def k0 : Class := { plain "java/lang/Object" none with
  accessFlags := 33
  interfaces := #[]
  cf := some (fileOf pool0 8 #[] #[{ accessFlags := 1, nameIndex := 5, descriptorIndex := 6, attributes := #[] }] 33 0 #[] #[])
  fields := #[]
  methods := #[k0m0]
  instanceTypes := #[]
  staticTypes := #[]
  resolved := Array.replicate 124 none
  statics := none }

def pool1 : Array CpInfo := pool [(2, .class_ 4), (1, u "java/lang/Object"), (0, u "<init>"), (0, u "()V"), (0, .integer 65535), (0, .fieldref 9 10), (0, .class_ 11), (0, .nameAndType 12 13), (0, u "com/example/cadmus/cadmus/XmlVersion"), (0, u "XML_1_1"), (0, u "Lcom/example/cadmus/cadmus/XmlVersion;"), (0, .fieldref 9 15), (0, .nameAndType 16 13), (0, u "XML_1_0"), (0, .methodref 9 18), (0, .nameAndType 19 20), (0, u "needsReference"), (0, u "(C)Z"), (0, .class_ 22), (0, u "com/example/cadmus/cadmus/XmlVersionNeedsReferencePinLaw"), (2, u "law"), (0, u "(II)Z")] 3

def k1m0 : Method := { name := "<init>", desc := "()V", sig := { parameters := [], returnType := none }, accessFlags := 1, code := none }
def k1c1 : Code := { maxStack := 3, maxLocals := 7, code := code, exceptionTable := #[], attributes := #[] }
def k1m1 : Method := { name := "law", desc := "(II)Z", sig := { parameters := [.int, .int], returnType := some .boolean }, accessFlags := 9, code := some k1c1 }
/-- com/example/cadmus/cadmus/XmlVersionNeedsReferencePinLaw -/
def k1 : Class := { plain "com/example/cadmus/cadmus/XmlVersionNeedsReferencePinLaw" (some 0) with
  accessFlags := 49
  interfaces := #[]
  cf := some (fileOf pool1 21 #[] #[{ accessFlags := 1, nameIndex := 5, descriptorIndex := 6, attributes := #[] }, { accessFlags := 9, nameIndex := 25, descriptorIndex := 26, attributes := #[] }] 49 2 #[] #[])
  fields := #[]
  methods := #[k1m0, k1m1]
  instanceTypes := #[]
  staticTypes := #[]
  resolved := Array.replicate 30 none
  statics := none }

def pool2 : Array CpInfo := pool [(1, .class_ 2), (0, u "java/lang/constant/Constable"), (0, .class_ 4), (0, u "java/lang/Object")] 6

/-- java/lang/constant/Constable -/
def k2 : Class := { plain "java/lang/constant/Constable" (some 0) with
  accessFlags := 1537
  interfaces := #[]
  cf := some (fileOf pool2 1 #[] #[] 1537 3 #[] #[])
  fields := #[]
  methods := #[]
  instanceTypes := #[]
  staticTypes := #[]
  resolved := Array.replicate 11 none
  statics := none }

def pool3 : Array CpInfo := pool [(1, .class_ 2), (0, u "java/lang/Comparable"), (0, .class_ 4), (0, u "java/lang/Object")] 7

/-- java/lang/Comparable -/
def k3 : Class := { plain "java/lang/Comparable" (some 0) with
  accessFlags := 1537
  interfaces := #[]
  cf := some (fileOf pool3 1 #[] #[] 1537 3 #[] #[])
  fields := #[]
  methods := #[]
  instanceTypes := #[]
  staticTypes := #[]
  resolved := Array.replicate 12 none
  statics := none }

def pool4 : Array CpInfo := pool [(1, .class_ 2), (0, u "java/io/Serializable"), (0, .class_ 4), (0, u "java/lang/Object")] 2

/-- java/io/Serializable -/
def k4 : Class := { plain "java/io/Serializable" (some 0) with
  accessFlags := 1537
  interfaces := #[]
  cf := some (fileOf pool4 1 #[] #[] 1537 3 #[] #[])
  fields := #[]
  methods := #[]
  instanceTypes := #[]
  staticTypes := #[]
  resolved := Array.replicate 7 none
  statics := none }

def pool5 : Array CpInfo := pool [(2, .class_ 4), (1, u "java/lang/Enum"), (0, u "name"), (0, u "Ljava/lang/String;"), (2, u "ordinal"), (0, u "I"), (1, .class_ 14), (1, u "java/lang/Object"), (4, u "hash"), (86, .class_ 108), (1, u "java/lang/Enum$EnumDesc"), (2, .class_ 112), (0, u "java/lang/constant/Constable"), (0, .class_ 114), (0, u "java/lang/Comparable"), (0, .class_ 116), (0, u "java/io/Serializable")] 87

/-- java/lang/Enum -/
def k5 : Class := { plain "java/lang/Enum" (some 0) with
  accessFlags := 1057
  interfaces := #[2, 3, 4]
  cf := some (fileOf pool5 2 #[.nestMembers #[106]] #[] 1057 12 #[111, 113, 115] #[{ accessFlags := 18, nameIndex := 5, descriptorIndex := 6, attributes := #[] }, { accessFlags := 18, nameIndex := 9, descriptorIndex := 10, attributes := #[] }, { accessFlags := 2, nameIndex := 19, descriptorIndex := 10, attributes := #[] }])
  fields := #[{ name := "name", type := (.object "java/lang/String"), accessFlags := 18, slot := 0, constantValue := 0 }, { name := "ordinal", type := .int, accessFlags := 18, slot := 1, constantValue := 0 }, { name := "hash", type := .int, accessFlags := 2, slot := 2, constantValue := 0 }]
  methods := #[]
  instanceTypes := #[(.object "java/lang/String"), .int, .int]
  staticTypes := #[]
  resolved := Array.replicate 204 none
  statics := none }

def pool6 : Array CpInfo := pool [(1, .class_ 2), (0, u "com/example/cadmus/cadmus/XmlVersion"), (0, .fieldref 1 4), (0, .nameAndType 5 6), (0, u "XML_1_0"), (0, u "Lcom/example/cadmus/cadmus/XmlVersion;"), (2, u "XML_1_1"), (2, u "$VALUES"), (0, u "[Lcom/example/cadmus/cadmus/XmlVersion;"), (6, .class_ 22), (1, u "java/lang/Enum"), (31, u "(C)Z"), (0, u "needsReference")] 4

def k6c0 : Code := { maxStack := 2, maxLocals := 2, code := prog_30_method_6_code, exceptionTable := #[], attributes := #[] }
def k6m0 : Method := { name := "needsReference", desc := "(C)Z", sig := { parameters := [.char], returnType := some .boolean }, accessFlags := 0, code := some k6c0 }
/-- com/example/cadmus/cadmus/XmlVersion -/
def k6 : Class := { plain "com/example/cadmus/cadmus/XmlVersion" (some 5) with
  accessFlags := 16432
  interfaces := #[]
  cf := some (fileOf pool6 1 #[] #[{ accessFlags := 0, nameIndex := 55, descriptorIndex := 54, attributes := #[] }] 16432 20 #[] #[{ accessFlags := 16409, nameIndex := 5, descriptorIndex := 6, attributes := #[] }, { accessFlags := 16409, nameIndex := 9, descriptorIndex := 6, attributes := #[] }, { accessFlags := 4122, nameIndex := 12, descriptorIndex := 13, attributes := #[] }])
  fields := #[{ name := "XML_1_0", type := (.object "com/example/cadmus/cadmus/XmlVersion"), accessFlags := 16409, slot := 0, constantValue := 0 }, { name := "XML_1_1", type := (.object "com/example/cadmus/cadmus/XmlVersion"), accessFlags := 16409, slot := 1, constantValue := 0 }, { name := "$VALUES", type := (.array (.object "com/example/cadmus/cadmus/XmlVersion")), accessFlags := 4122, slot := 2, constantValue := 0 }]
  methods := #[k6m0]
  instanceTypes := #[(.object "java/lang/String"), .int, .int]
  staticTypes := #[(.object "com/example/cadmus/cadmus/XmlVersion"), (.object "com/example/cadmus/cadmus/XmlVersion"), (.array (.object "com/example/cadmus/cadmus/XmlVersion"))]
  resolved := Array.replicate 60 none
  statics := some 0 }

def pool7 : Array CpInfo := pool [(1, u "java/lang/Cloneable"), (0, .class_ 1), (0, u "java/lang/Object"), (0, .class_ 3)] 3

/-- java/lang/Cloneable -/
def k7 : Class := { plain "java/lang/Cloneable" (some 0) with
  accessFlags := 1537
  interfaces := #[]
  cf := some (fileOf pool7 2 #[] #[] 1537 4 #[] #[])
  fields := #[]
  methods := #[]
  instanceTypes := #[]
  staticTypes := #[]
  resolved := Array.replicate 8 none
  statics := none }

/-- the primitive byte -/
def k8 : Class := { plain "byte" none with kind := .primitive 'B', accessFlags := 0x411 }
/-- [B -/
def k9 : Class := { plain "[B" (some 0) with kind := .array 8 .byte, interfaces := #[7, 4], accessFlags := 1041 }

/-- the primitive int -/
def k10 : Class := { plain "int" none with kind := .primitive 'I', accessFlags := 0x411 }
/-- [I -/
def k11 : Class := { plain "[I" (some 0) with kind := .array 10 .int, interfaces := #[7, 4], accessFlags := 1041 }

def heap : Heap := #[{ cls := 6, slots := #[.ref 1, .ref 2, .null], vm := .statics 6 },
  { cls := 6, slots := #[.null, .int 0, .int 0], vm := .none },
  { cls := 6, slots := #[.null, .int 1, .int 0], vm := .none }]
def classes : Array Class := #[k0, k1, k2, k3, k4, k5, k6, k7, k8, k9, k10, k11]
def interned : List (Array UInt16 × Addr) := []
def slotsUsed : Nat := 9
def theMethod : MethodId := ⟨1, 1⟩
def args0 : Array Value := #[.int 5, .int 7]
def aboutOver (below : List Frame) : State where
  vm := { classes := classes, interned := interned.toArray }
  heap := heap
  slotsUsed := slotsUsed
  threads := #[{ frames := .invoking theMethod args0 :: below }]
def below0 : List Frame := [.native { method := ⟨0, 0⟩, args := #[] }]
def about1 : State := aboutOver below0
def p0 : Program := .bare "" "" ""
def e0 : Env := launch0.env 0 0 0
theorem w_frames : about1.frames = Frame.invoking theMethod args0 :: below0 := rfl
set_option maxRecDepth 65536 in
theorem w_args : argsFit about1.vm theMethod args0 = true := by decide +kernel
set_option maxRecDepth 65536 in
theorem w_heap : heapFits about1 = true := by decide +kernel
set_option maxRecDepth 65536 in
theorem w_runnable : about1.curStatus? = some .runnable := by decide +kernel
set_option maxRecDepth 65536 in
theorem w_alone : about1.alone = true := by decide +kernel
set_option maxRecDepth 65536 in
theorem w_named : about1.methodNamed? x = some theMethod := by decide +kernel
set_option maxRecDepth 65536 in
theorem w_hears : about1.hears theMethod below0 = true := by decide +kernel
set_option maxRecDepth 65536 in
theorem w_ripe : about1.ripe theMethod args0 below0 = true := by decide +kernel
theorem w_running : about1.status = .running := rfl
set_option maxRecDepth 65536 in
theorem w_room : about1.hasRoom e0.platform room_1 = true :=
  launch0.hasRoom_least _ room_1 (by decide +kernel) (by decide +kernel) (by decide +kernel) (by decide +kernel) (by decide +kernel) (by decide +kernel)
theorem allAtoms_all (ts : List Jvm.Cond) (a : Array Jvm.Value) (st : Jvm.State) : (allAtoms ts).before a st = ts.all (fun c => c.before a st) := by
  induction ts with
  | nil => rfl
  | cons c t ih =>
    show (Jvm.Cond.and c (allAtoms t)).before a st = _
    rw [Jvm.Cond.before_and, ih, List.all_cons]
def words1 : List Jvm.Cond := Jvm.Cond.code x code maxLocals ret :: tables_1
/-- a 'code' word, met by the world's own term for the bytes: nothing is compared byte by byte -/
theorem code_word {y : MethodName} {bytes : ByteArray} {mx : Nat} {rt : Option FieldType} {a : Array Value} {s : State} {m : MethodId} {meth : Method} {c : Code} (h1 : s.methodNamed? y = some m) (h2 : s.vm.method? m = some meth) (h3 : meth.code = some c) (h4 : c.code = bytes)
    (h5 : (c.maxLocals == mx && c.exceptionTable.isEmpty && decide (c.maxStack ≤ mostOperands) && decide (meth.sig.returnType = rt) && !meth.locks && decide (parseMethodDescriptor y.desc = some meth.sig)) = true) : (Jvm.Cond.code y bytes mx rt).before a s = true := by
  simp only [Bool.and_eq_true, beq_iff_eq, Bool.not_eq_true', decide_eq_true_eq] at h5
  obtain ⟨⟨⟨⟨⟨g1, g2⟩, g3⟩, g4⟩, g5⟩, g6⟩ := h5
  simp [Cond.before, Cond.holds, Cond.value, h1, h2, h3, h4, g1, g2, g3, g4, g5, g6]
def isCode : Jvm.Cond → Bool
  | .code _ _ _ _ => true
  | _ => false
theorem all_split {L : List Jvm.Cond} {P : Jvm.Cond → Bool} (h1 : L.all (fun c => isCode c || P c) = true) (h2 : ∀ c ∈ L.filter isCode, P c = true) : L.all P = true := by
  refine List.all_eq_true.mpr fun c hc => ?_
  have h := List.all_eq_true.mp h1 c hc
  rcases Bool.eq_false_or_eq_true (isCode c) with hi | hi
  · exact h2 c (List.mem_filter.mpr ⟨hc, hi⟩)
  · simpa [hi] using h
set_option maxRecDepth 65536 in
theorem w_c0 : (Jvm.Cond.code x code maxLocals ret).before args0 about1 = true := code_word (m := ⟨1, 1⟩) (meth := k1m1) (c := k1c1) (by decide +kernel) rfl rfl rfl (by decide +kernel)
set_option maxRecDepth 65536 in
theorem w_c1 : (Jvm.Cond.code ({ cls := "com/example/cadmus/cadmus/XmlVersion", name := "needsReference", desc := "(C)Z" } : Jvm.MethodName) prog_30_method_6_code (2 : Nat) (Option.some Jvm.ClassFile.FieldType.boolean)).before args0 about1 = true := code_word (m := ⟨6, 0⟩) (meth := k6m0) (c := k6c0) (by decide +kernel) rfl rfl rfl (by decide +kernel)
def codes1 : List Jvm.Cond := [Jvm.Cond.code x code maxLocals ret, Jvm.Cond.code ({ cls := "com/example/cadmus/cadmus/XmlVersion", name := "needsReference", desc := "(C)Z" } : Jvm.MethodName) prog_30_method_6_code (2 : Nat) (Option.some Jvm.ClassFile.FieldType.boolean)]
set_option maxRecDepth 65536 in
theorem codes_eq : words1.filter isCode = codes1 := rfl
theorem w_codes : ∀ c ∈ words1.filter isCode, c.before args0 about1 = true := by
  rw [codes_eq]
  intro c hc
  simp only [codes1, List.mem_cons, List.not_mem_nil, or_false] at hc
  rcases hc with rfl | rfl
  · exact w_c0
  · exact w_c1
set_option maxRecDepth 65536 in
theorem w_t1 : words1.all (fun c => isCode c || c.before args0 about1) = true := by decide +kernel
theorem w_tables : (allAtoms (Jvm.Cond.code x code maxLocals ret :: tables_1)).before args0 about1 = true := by
  rw [allAtoms_all]
  show words1.all (fun c => c.before args0 about1) = true
  refine all_split ?_ w_codes
  rw [w_t1]
set_option maxRecDepth 65536 in
theorem w_case : (Jvm.Cond.and given_1 narrow_1).before args0 about1 = true := by decide +kernel
theorem w_applies : (headSpec (Jvm.Cond.code x code maxLocals ret :: tables_1) room_1).applies x e0.platform about1 = true :=
  (Spec.applies_iff w_frames).mpr ⟨w_running, w_runnable, w_alone, w_named, w_hears, w_ripe, w_room, w_tables⟩
theorem atStart : AtStart classFile x code maxLocals ret World_1 tables_1 room_1 Calls_1 rest_1 Pre_1 launch0 p0 e0 about1 theMethod args0 below0 :=
  ⟨lists_1, trivial, launch0.admits_env _ _ _, launch0.least_env, fairChoices_fair.cas, fairChoices_fair.clock, w_frames, w_args, w_heap, w_applies, trivial, trivial, w_case⟩
end start1
theorem witness_1 : WitnessClaimed_1 := ⟨start1.p0, start1.e0, start1.about1, start1.theMethod, start1.args0, start1.below0, start1.atStart⟩
end Jvm.Pilot.@@N@@
