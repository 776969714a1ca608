import JvmDerived
import JvmDerived.Pilot.@@N@@Statement
import JvmDerived.Pilot.@@N@@Code
set_option linter.unusedVariables false
set_option linter.unusedSimpArgs false
namespace Jvm.Pilot.@@N@@
open Jvm Jvm.ClassFile Sem Op Lib Jvm.Free Jvm.Stand Jvm.LawKit Jvm.RoadKit Bundle Jvm.Pilot.@@N@@.Jvm.D
section Own
variable {p : Program} {l : Launch} {e : Env} {R : Room} {s : State} {m : MethodId} {args : Array Value} {below : List Frame} {meth : Method} {c : Code} {T : State} {locs : List Loc} {cells slots : Nat} {Z : State} {a0 : Array Value} {h : Heap} {Q : Option Value → Heap → List Loc → Prop} {kc kn : Nat}
/-- from S the method comes to its end, and what it leaves answers to Q -/
def own_Ends (p : Program) (e : Env) (below : List Frame) (s : State) (Q : Option Value → Heap → List Loc → Prop) (kc kn : Nat) (S : State) : Prop :=
  ∃ s₂ o, Steps p.tables e below S s₂ ∧ s₂.status = .running ∧ Ended s₂ below o ∧ ∃ v L, o = .returned v ∧ Q v s₂.heap L ∧ FrameEnd s o s₂ L kc kn
theorem own_pre {S S' : State} (st : ∀ t, Steps p.tables e below S' t → Steps p.tables e below S t) (k : own_Ends p e below s Q kc kn S') : own_Ends p e below s Q kc kn S := by
  obtain ⟨s₂, o, h1, r⟩ := k
  exact ⟨s₂, o, st _ h1, r⟩
theorem own_ret (X : Stand p l e R s m args below meth c T locs cells slots) (hx : p.tables.exec = Jvm.exec) (hlk : meth.locks = false) {pc : Nat} {Ls : Array Slot} {w : Value} {t : FieldType} {i : Instr} {rest : List Value} (hret : meth.sig.returnType = some t) (hn : narrow t w = w)
    (hi : (i = .ireturn ∧ (t = .int ∨ t = .boolean ∨ t = .byte ∨ t = .char ∨ t = .short) ∧ ∃ z, w = .int z) ∨ (i = .lreturn ∧ t = .long ∧ ∃ z, w = .long z) ∨ (i = .dreturn ∧ t = .double ∧ ∃ z, w = .double z) ∨ (i = .freturn ∧ t = .float ∧ ∃ z, w = .float z) ∨ (i = .areturn ∧ t.isReference = true ∧ w.isRef = true))
    (hd : decode c.code pc = .ok (i, 1)) (h1 : cells ≤ kc) (h2 : slots ≤ kn) (hQ : Q (some w) T.heap locs) : own_Ends p e below s Q kc kn (T.setTop (mkF m pc Ls (w :: rest))) := by
  obtain ⟨fs, hr, hrun, hended, hW, hsame⟩ := X.leave (v := some w) (fun h => by rw [hret] at h; cases h) hlk
  exact ⟨_, _, retOut X hx hret hn hi hd hr, hrun, hended, _, _, rfl, hQ, ⟨_, rfl⟩, hW, hsame.mono h1 h2⟩
theorem own_retV (X : Stand p l e R s m args below meth c T locs cells slots) (hx : p.tables.exec = Jvm.exec) (hlk : meth.locks = false) {pc : Nat} {Ls : Array Slot} (hret : meth.sig.returnType = none)
    (hd : decode c.code pc = .ok (.return_, 1)) (h1 : cells ≤ kc) (h2 : slots ≤ kn) (hQ : Q none T.heap locs) : own_Ends p e below s Q kc kn (T.setTop (mkF m pc Ls [])) := by
  obtain ⟨fs, hr, hrun, hended, hW, hsame⟩ := X.leave (v := none) (fun _ => rfl) hlk
  exact ⟨_, _, X.returnOut hx hret hd hr, hrun, hended, _, _, rfl, hQ, ⟨_, rfl⟩, hW, hsame.mono h1 h2⟩
/-- a contract: called with these arguments over this heap it returns, and Q says what it left -/
abbrev own_Met (l : Launch) (Z : State) (y : MethodName) (bytes : ByteArray) (maxL : Nat) (ret : Option FieldType) (ws : List Jvm.Cond) (rm : Room) (as' : Array Value) (h0 : Heap) (Q : Option Value → Heap → List Loc → Prop) : Prop :=
  MetFree l y (head1 (Jvm.Cond.code y bytes maxL ret :: ws) rm) (fun a U => a = as' ∧ Z.Warmed39 U.vm ∧ U.heap = h0) (fun _ _ _ _ _ => True) (fun _ U o U' => ∃ v L, o = .returned v ∧ Q v U'.heap L ∧ FrameEnd U o U' L rm.cells rm.slots)
theorem own_body {y : MethodName} {bytes : ByteArray} {maxL : Nat} {ret : Option FieldType} {ws : List Jvm.Cond} {rm : Room} {as' : Array Value} {h0 : Heap} (pn : plainFor y = true) (F : MethodId → JFrame) (hF : ∀ m, entryFrame m as' maxL = F m)
    (body : ∀ (p : Program) (e : Env) (s : State) (m : MethodId) (below : List Frame) (meth : Method) (c : Code) (T : State), p.tables.exec = Jvm.exec → c.code = bytes → c.maxLocals = maxL → meth.locks = false → meth.sig.returnType = ret → Z.Warmed39 s.vm → s.vm.findClass y.cls = some m.cls → meth.name = y.name →
      Stand p l e rm s m as' below meth c T [] 0 0 → T.heap = h0 → own_Ends p e below s Q rm.cells rm.slots (T.setTop (F m))) : own_Met l Z y bytes maxL ret ws rm as' h0 Q := by
  refine MetFree.of_bodySF pn hisR ?_
  intro p e s m args below meth c s₁ Bd hml0 hP hK
  obtain ⟨rfl, hZ, hh⟩ := hP
  have := body p e s m below meth c s₁ Bd.exec Bd.bytes hml0 (BodyLoose.notSynchronized Bd) Bd.returns hZ (findClass_of_methodNamed Bd.named) (name_of_methodNamed Bd.named Bd.method).1 (Stand.of_body Bd) (by rw [← hh, Bd.state]; rfl)
  rw [← hF m] at this
  exact this
theorem own_callS (X : Stand p l e R s m args below meth c T locs cells slots) (hx : p.tables.exec = Jvm.exec) (hZ : Z.Warmed39 s.vm) {own : String} {index : Nat} {y : MethodName} {bytes : ByteArray} {maxL : Nat} {ret : Option FieldType} {rm : Room} {Qc : Option Value → Heap → List Loc → Prop}
    (hown : s.vm.findClass own = some m.cls) (w1 : (Cond.methodLink own index y).before a0 Z = true) (w2 : (Cond.static y).before a0 Z = true) (w3 : (Cond.initialized y.cls).before a0 Z = true) (w4 : (Cond.code y bytes maxL ret).before a0 Z = true)
    (hy : y.cls ≠ "java/lang/invoke/MethodHandle" ∧ y.cls ≠ "java/lang/invoke/VarHandle") (eT : T.heap = h) {argsL rest st0 : List Value} (hM : own_Met l Z y bytes maxL ret [] rm argsL.toArray h Qc) {W pc : Nat} {Ls : Array Slot}
    (hsz : Ls.size = c.maxLocals) (hlen : ∀ sig, parseMethodDescriptor y.desc = some sig → argsL.length = sig.parameters.length) (hst : st0 = argsL.reverse ++ rest) (hW : (rest.map fun v => v.category).sum ≤ W) (hd : decode c.code pc = .ok (.invokestatic index, 3))
    (hf : rm.frames + 1 ≤ R.frames) (hl : W + (maxL + 11) + rm.locals ≤ R.locals) (hc : cells + rm.cells ≤ R.cells) (hs : slots + rm.slots ≤ R.slots)
    (k : ∀ v T' L, Stand p l e R s m args below meth c T' (locs ++ L) (cells + rm.cells) (slots + rm.slots) → Qc v T'.heap L → own_Ends p e below s Q kc kn (T'.setTop (mkF m (pc + 3) Ls (v.toList ++ rest)))) :
    own_Ends p e below s Q kc kn (T.setTop (mkF m pc Ls st0)) := by
  obtain ⟨v, _, ⟨T', L', k', n'⟩, -, X', ⟨Lc, hQ, l1, y1, z1⟩, st⟩ := Jvm.LawKit.callS X hx (y := y) hown (mvT hZ w1) (mvT hZ w2) (mvT hZ w3) (mvT hZ w4) hy (backOf (W := W) hM hZ w4 w3 hf hl) (g := mkF m pc Ls st0) rfl hsz (argsL := argsL) (rest := rest) hlen hst (by show 2 * 0 + _ ≤ _; simpa using hW) hd (fun _ _ => ⟨rfl, eT, hc, hs⟩)
  dsimp only [Pt.U, Pt.locs, Pt.cells, Pt.slots] at X' l1 y1 z1 st hQ
  subst l1 y1 z1
  exact own_pre st (k v T' Lc X' hQ)
theorem own_callI (X : Stand p l e R s m args below meth c T locs cells slots) (hx : p.tables.exec = Jvm.exec) (hZ : Z.Warmed39 s.vm) {own : String} {index : Nat} {y : MethodName} {bytes : ByteArray} {maxL : Nat} {rm : Room} {Qc : Option Value → Heap → List Loc → Prop} {b : Addr}
    (hown : s.vm.findClass own = some m.cls) (hy1 : y.name = "<init>") (w1 : (Cond.methodLink own index y).before a0 Z = true) (w2 : (Cond.instanceMethod y).before a0 Z = true) (w4 : (Cond.code y bytes maxL none).before a0 Z = true) (w3 : (Cond.initialized y.cls).before a0 Z = true)
    (hy : y.cls ≠ "java/lang/invoke/MethodHandle" ∧ y.cls ≠ "java/lang/invoke/VarHandle") (eT : T.heap = h) {argsL rest st0 : List Value} (hM : own_Met l Z y bytes maxL none [] rm (.ref b :: argsL).toArray h Qc) {W pc : Nat} {Ls : Array Slot}
    (hsz : Ls.size = c.maxLocals) (hlen : ∀ sig, parseMethodDescriptor y.desc = some sig → argsL.length = sig.parameters.length) (hst : st0 = argsL.reverse ++ .ref b :: rest) (hW : (rest.map fun v => v.category).sum ≤ W) (hd : decode c.code pc = .ok (.invokespecial index, 3))
    (hf : rm.frames + 1 ≤ R.frames) (hl : W + (maxL + 11) + rm.locals ≤ R.locals) (hc : cells + rm.cells ≤ R.cells) (hs : slots + rm.slots ≤ R.slots)
    (k : ∀ v T' L, Stand p l e R s m args below meth c T' (locs ++ L) (cells + rm.cells) (slots + rm.slots) → Qc v T'.heap L → own_Ends p e below s Q kc kn (T'.setTop (mkF m (pc + 3) Ls (v.toList ++ rest)))) :
    own_Ends p e below s Q kc kn (T.setTop (mkF m pc Ls st0)) := by
  obtain ⟨v, _, ⟨T', L', k', n'⟩, -, X', ⟨Lc, hQ, l1, y1, z1⟩, st⟩ := X.specialBack hx (y := y) hy1 hown (mvT hZ w1) (mvT hZ w2) (mvT hZ w4) hy (backOf (W := W) hM hZ w4 w3 hf hl) (g := mkF m pc Ls st0) rfl hsz (Steps.refl _) (a := b) (argsL := argsL) (rest := rest) hlen hst (by show 2 * 0 + _ ≤ _; simpa using hW) hd (fun _ _ => ⟨rfl, eT, hc, hs⟩)
  dsimp only [Pt.U, Pt.locs, Pt.cells, Pt.slots] at X' l1 y1 z1 st hQ
  subst l1 y1 z1
  exact own_pre (fun t k => st.trans k) (k v T' Lc X' hQ)
theorem own_callV (X : Stand p l e R s m args below meth c T locs cells slots) (hx : p.tables.exec = Jvm.exec) (hZ : Z.Warmed39 s.vm) {own C : String} {index : Nat} {y : MethodName} {bytes : ByteArray} {maxL : Nat} {ret : Option FieldType} {rm : Room} {Qc : Option Value → Heap → List Loc → Prop} {b : Addr}
    (hown : s.vm.findClass own = some m.cls) (w1 : (Cond.methodLink own index y).before a0 Z = true) (w2 : (Cond.declares y).before a0 Z = true) (w3 : (Cond.selects C y y).before a0 Z = true) (w4 : (Cond.instanceMethod y).before a0 Z = true) (w5 : (Cond.code y bytes maxL ret).before a0 Z = true) (w6 : (Cond.initialized y.cls).before a0 Z = true)
    (hy : y.cls ≠ "java/lang/invoke/MethodHandle" ∧ y.cls ≠ "java/lang/invoke/VarHandle") (eT : T.heap = h) (E : Exa Z h b C) {argsL rest st0 : List Value} (hM : own_Met l Z y bytes maxL ret [] rm (.ref b :: argsL).toArray h Qc) {W pc : Nat} {Ls : Array Slot}
    (hsz : Ls.size = c.maxLocals) (hlen : ∀ sig, parseMethodDescriptor y.desc = some sig → argsL.length = sig.parameters.length) (hst : st0 = argsL.reverse ++ .ref b :: rest) (hW : (rest.map fun v => v.category).sum ≤ W) (hd : decode c.code pc = .ok (.invokevirtual index, 3))
    (hf : rm.frames + 1 ≤ R.frames) (hl : W + (maxL + 11) + rm.locals ≤ R.locals) (hc : cells + rm.cells ≤ R.cells) (hs : slots + rm.slots ≤ R.slots)
    (k : ∀ v T' L, Stand p l e R s m args below meth c T' (locs ++ L) (cells + rm.cells) (slots + rm.slots) → Qc v T'.heap L → own_Ends p e below s Q kc kn (T'.setTop (mkF m (pc + 3) Ls (v.toList ++ rest)))) :
    own_Ends p e below s Q kc kn (T.setTop (mkF m pc Ls st0)) := by
  obtain ⟨cq, kq, qa, qb, qc⟩ := isOf hZ eT E
  obtain ⟨v, _, ⟨T', L', k', n'⟩, -, X', ⟨Lc, hQ, l1, y1, z1⟩, st⟩ := X.virtualBack hx (y := y) (z := y) hown (mvT hZ w1) (mvT hZ w2) (notFace_of_selects (args := #[]) (mvT hZ w3)) (mvT hZ w3) (mvT hZ w4) hy (backOf (W := W) hM hZ w5 w6 hf hl) qa qc (g := mkF m pc Ls st0) rfl hsz (Steps.refl _) (argsL := argsL) (rest := rest) hlen hst (by show 2 * 0 + _ ≤ _; simpa using hW) hd (fun _ _ => ⟨rfl, eT, hc, hs⟩)
  dsimp only [Pt.U, Pt.locs, Pt.cells, Pt.slots] at X' l1 y1 z1 st hQ
  subst l1 y1 z1
  exact own_pre (fun t k => st.trans k) (k v T' Lc X' hQ)
theorem own_eqi {t : Term} {k : Int32} {args : Array Value} {s : State} (h : (Jvm.Cond.eq t (Term.int k)).value args s none s [] = some true) : t.eval args s none [] s = some (.int k) := by
  obtain ⟨x, y, h1, h2, -, h3⟩ := cmp_v (Or.inl h)
  have h4 : y = .int k := (Option.some.inj ((Term.int_eval k).symm.trans h2)).symm
  subst h4
  obtain ⟨z, rfl⟩ := h3
  have h5 : (Jvm.Cond.eq t (Term.int k)).value args s none s [] = some (decide (z = k)) := by simp [Cond.value, h1, h2]
  rw [h1, gotT h5 h]
theorem own_fieldOf {t : Term} {C n d : String} {k : Int32} {a : Addr} {args : Array Value} {s : State} (ht : t.eval args s none [] s = some (.ref a)) (h : (Jvm.Cond.eq (Term.field t C n d) (Term.int k)).value args s none s [] = some true) : Fld s s.heap a C n d (.int k) :=
  Fld.start ((fld_at ht).symm.trans (own_eqi h))
theorem own_st1 {Ls Ls' : Array Slot} {k : Nat} {o : Slot} {v : Value} (hold : Ls[k]? = some o) (ho : One o) (hv : v.category = 1) (he : Ls.setIfInBounds k (.val v) = Ls') : storeLocals Ls k v = some Ls' := he ▸ XS.store1 hold ho hv
theorem own_catV {v : Value} (hv : v.isRef = true) : v.category = 1 := by rcases ref_cases hv with rfl | ⟨_, rfl⟩ <;> rfl
theorem own_narV {v : Value} {t : FieldType} (hv : v.isRef = true) (ht : t.isReference = true) : narrow t v = v := by
  rcases ref_cases hv with rfl | ⟨_, rfl⟩ <;> cases t <;> first | rfl | (cases ht; done)
theorem own_narC {x : Int32} (h : 0 ≤ x.toInt ∧ x.toInt ≤ 65535) : nar .char x = x := by
  have q := c_i2c x
  rw [← Int32.toInt_inj]
  show (x.toUInt32.toUInt16.toUInt32.toInt32).toInt = x.toInt
  omega
theorem own_narZ {x : Int32} (h : x = 0 ∨ x = 1) : narrow .boolean (.int x) = .int x := by rcases h with rfl | rfl <;> rfl
def own_plain (h : Heap) (x : Addr) : Prop := ∃ c : Cell, h[x]? = some c ∧ c.vm.isStatics = false
theorem own_plainE {a : Addr} {C : String} (F : Exa Z h a C) : own_plain h a := by obtain ⟨c, k, h1, -, -, h4, -⟩ := F; exact ⟨c, h1, h4⟩
theorem own_sta_keep {h' : Heap} {ws : List Addr} {C n d : String} {v : Value} (F : Sta Z h C n d v) (K : Keep h h' ws) (q : ∀ x ∈ ws, own_plain h x) : Sta Z h' C n d v := by
  obtain ⟨cf, i, k, f, st, cell, h1, h2, h3, h4, h5, h6, h7⟩ := F
  refine ⟨cf, i, k, f, st, cell, h1, h2, h3, h4, K.2.1 _ _ h5 fun y => ?_, h6, h7⟩
  obtain ⟨c, z1, z2⟩ := q _ y
  cases h5.symm.trans z1
  rw [z2] at h6; cases h6
end Own
theorem own_dcv (x y : Int32) (o : CmpOp) : ∃ v : Int32, cmpValue (FP.dcmp (FP.i2d x) (FP.i2d y)) o = v ∧ (v < 0 ↔ x < y) ∧ (0 < v ↔ y < x) := by
  refine ⟨_, rfl, ?_⟩
  rw [show FP.dcmp (FP.i2d x) (FP.i2d y) = some (compare x.toInt y.toInt) from FP.Core.dcmp_int (FP.Core.i2d_int x) (FP.Core.i2d_int y)]
  rw [Int32.lt_iff_toInt_lt (x := x) (y := y), Int32.lt_iff_toInt_lt (x := y) (y := x)]
  rcases Int.lt_trichotomy x.toInt y.toInt with h | h | h
  · rw [show compare x.toInt y.toInt = .lt from Int.compare_eq_lt.mpr h]
    have : ¬ y.toInt < x.toInt := by omega
    simp only [h, this, iff_true, iff_false]
    cases o <;> decide
  · rw [show compare x.toInt y.toInt = .eq from Int.compare_eq_eq.mpr h]
    have h1 : ¬ y.toInt < x.toInt := by omega
    have h2 : ¬ x.toInt < y.toInt := by omega
    simp only [h1, h2, iff_false]
    cases o <;> decide
  · rw [show compare x.toInt y.toInt = .gt from Int.compare_eq_gt.mpr h]
    have : ¬ x.toInt < y.toInt := by omega
    simp only [h, this, iff_true, iff_false]
    cases o <;> decide
theorem own_nn (x : Int32) : Jvm.Free.Fl.NoNaN64 (FP.i2d x) := (Jvm.Free.Fl.i2d_fin x).noNaN
theorem own_fcv (x : Int32) : ∃ v : Int32, cmpValue (FP.dcmp (FP.i2d x &&& 0x7fffffffffffffff) 9218868437227405311) .g = v ∧ ¬ 0 < v := by
  rcases (FP.Core.le_max (a := FP.i2d x) (Jvm.Free.Fl.noNaN64_no.mp (own_nn x))).mpr (Jvm.Free.Fl.fin64_core.mp (Jvm.Free.Fl.i2d_fin x)) with h | h
  · exact ⟨_, rfl, by rw [show FP.dcmp (FP.i2d x &&& 0x7fffffffffffffff) 9218868437227405311 = some .lt from h]; decide⟩
  · exact ⟨_, rfl, by rw [show FP.dcmp (FP.i2d x &&& 0x7fffffffffffffff) 9218868437227405311 = some .eq from h]; decide⟩
theorem own_lohi {a b lo hi : Int32} (h1 : (if b < a then b else a) = lo) (h2 : (if a < b then b else a) = hi) : ¬ hi < lo := by
  rw [Int32.lt_iff_toInt_lt]
  by_cases q : a < b <;> by_cases r : b < a <;> simp only [q, r, if_true, if_false] at h1 h2 <;> subst h1 h2 <;> rw [Int32.lt_iff_toInt_lt] at q r <;> omega
theorem own_d1_0 : decode jdk_29_method_69_code 0 = .ok (.iload_n 0, 1) := by decide +kernel
theorem own_d1_1 : decode jdk_29_method_69_code 1 = .ok (.iload_n 1, 1) := by decide +kernel
theorem own_d1_2 : decode jdk_29_method_69_code 2 = .ok (.if_icmp .gt 7, 3) := by decide +kernel
theorem own_d1_5 : decode jdk_29_method_69_code 5 = .ok (.iload_n 0, 1) := by decide +kernel
theorem own_d1_6 : decode jdk_29_method_69_code 6 = .ok (.goto 4, 3) := by decide +kernel
theorem own_d1_9 : decode jdk_29_method_69_code 9 = .ok (.iload_n 1, 1) := by decide +kernel
theorem own_d1_10 : decode jdk_29_method_69_code 10 = .ok (.ireturn, 1) := by decide +kernel
theorem own_d2_0 : decode jdk_29_method_65_code 0 = .ok (.iload_n 0, 1) := by decide +kernel
theorem own_d2_1 : decode jdk_29_method_65_code 1 = .ok (.iload_n 1, 1) := by decide +kernel
theorem own_d2_2 : decode jdk_29_method_65_code 2 = .ok (.if_icmp .lt 7, 3) := by decide +kernel
theorem own_d2_5 : decode jdk_29_method_65_code 5 = .ok (.iload_n 0, 1) := by decide +kernel
theorem own_d2_6 : decode jdk_29_method_65_code 6 = .ok (.goto 4, 3) := by decide +kernel
theorem own_d2_9 : decode jdk_29_method_65_code 9 = .ok (.iload_n 1, 1) := by decide +kernel
theorem own_d2_10 : decode jdk_29_method_65_code 10 = .ok (.ireturn, 1) := by decide +kernel
theorem own_d3_0 : decode prog_56_method_1_code 0 = .ok (.aload_n 0, 1) := by decide +kernel
theorem own_d3_1 : decode prog_56_method_1_code 1 = .ok (.invokespecial 1, 3) := by decide +kernel
theorem own_d3_4 : decode prog_56_method_1_code 4 = .ok (.dload_n 1, 1) := by decide +kernel
theorem own_d3_5 : decode prog_56_method_1_code 5 = .ok (.invokestatic 7, 3) := by decide +kernel
theorem own_d3_8 : decode prog_56_method_1_code 8 = .ok (.ifCond .eq 10, 3) := by decide +kernel
theorem own_d3_11 : decode prog_56_method_1_code 11 = .ok (.dload_n 3, 1) := by decide +kernel
theorem own_d3_12 : decode prog_56_method_1_code 12 = .ok (.invokestatic 7, 3) := by decide +kernel
theorem own_d3_15 : decode prog_56_method_1_code 15 = .ok (.ifCond .ne 18, 3) := by decide +kernel
theorem own_d3_33 : decode prog_56_method_1_code 33 = .ok (.dload_n 1, 1) := by decide +kernel
theorem own_d3_34 : decode prog_56_method_1_code 34 = .ok (.dload_n 3, 1) := by decide +kernel
theorem own_d3_35 : decode prog_56_method_1_code 35 = .ok (.dcmp .l, 1) := by decide +kernel
theorem own_d3_36 : decode prog_56_method_1_code 36 = .ok (.ifCond .le 18, 3) := by decide +kernel
theorem own_d3_54 : decode prog_56_method_1_code 54 = .ok (.aload_n 0, 1) := by decide +kernel
theorem own_d3_55 : decode prog_56_method_1_code 55 = .ok (.dload_n 1, 1) := by decide +kernel
theorem own_d3_56 : decode prog_56_method_1_code 56 = .ok (.putfield 23, 3) := by decide +kernel
theorem own_d3_59 : decode prog_56_method_1_code 59 = .ok (.aload_n 0, 1) := by decide +kernel
theorem own_d3_60 : decode prog_56_method_1_code 60 = .ok (.dload_n 3, 1) := by decide +kernel
theorem own_d3_61 : decode prog_56_method_1_code 61 = .ok (.putfield 29, 3) := by decide +kernel
theorem own_d3_64 : decode prog_56_method_1_code 64 = .ok (.return_, 1) := by decide +kernel
theorem own_d4_0 : decode jdk_30_method_1_code 0 = .ok (.aload_n 0, 1) := by decide +kernel
theorem own_d4_1 : decode jdk_30_method_1_code 1 = .ok (.invokespecial 1, 3) := by decide +kernel
theorem own_d4_4 : decode jdk_30_method_1_code 4 = .ok (.return_, 1) := by decide +kernel
theorem own_d6_0 : decode jdk_117_method_8_code 0 = .ok (.dload_n 0, 1) := by decide +kernel
theorem own_d6_1 : decode jdk_117_method_8_code 1 = .ok (.invokestatic 38, 3) := by decide +kernel
theorem own_d6_4 : decode jdk_117_method_8_code 4 = .ok (.ldc2_w 111, 3) := by decide +kernel
theorem own_d6_7 : decode jdk_117_method_8_code 7 = .ok (.dcmp .g, 1) := by decide +kernel
theorem own_d6_8 : decode jdk_117_method_8_code 8 = .ok (.ifCond .gt 7, 3) := by decide +kernel
theorem own_d6_11 : decode jdk_117_method_8_code 11 = .ok (.iconst 1, 1) := by decide +kernel
theorem own_d6_12 : decode jdk_117_method_8_code 12 = .ok (.goto 4, 3) := by decide +kernel
theorem own_d6_16 : decode jdk_117_method_8_code 16 = .ok (.ireturn, 1) := by decide +kernel
theorem own_d8_0 : decode prog_56_method_3_code 0 = .ok (.aload_n 0, 1) := by decide +kernel
theorem own_d8_1 : decode prog_56_method_3_code 1 = .ok (.getfield 23, 3) := by decide +kernel
theorem own_d8_4 : decode prog_56_method_3_code 4 = .ok (.dload_n 1, 1) := by decide +kernel
theorem own_d8_5 : decode prog_56_method_3_code 5 = .ok (.dcmp .l, 1) := by decide +kernel
theorem own_d8_6 : decode prog_56_method_3_code 6 = .ok (.ifCond .lt 16, 3) := by decide +kernel
theorem own_d8_9 : decode prog_56_method_3_code 9 = .ok (.aload_n 0, 1) := by decide +kernel
theorem own_d8_10 : decode prog_56_method_3_code 10 = .ok (.getfield 29, 3) := by decide +kernel
theorem own_d8_13 : decode prog_56_method_3_code 13 = .ok (.dload_n 3, 1) := by decide +kernel
theorem own_d8_14 : decode prog_56_method_3_code 14 = .ok (.dcmp .g, 1) := by decide +kernel
theorem own_d8_15 : decode prog_56_method_3_code 15 = .ok (.ifCond .gt 7, 3) := by decide +kernel
theorem own_d8_18 : decode prog_56_method_3_code 18 = .ok (.iconst 1, 1) := by decide +kernel
theorem own_d8_19 : decode prog_56_method_3_code 19 = .ok (.goto 4, 3) := by decide +kernel
theorem own_d8_22 : decode prog_56_method_3_code 22 = .ok (.iconst 0, 1) := by decide +kernel
theorem own_d8_23 : decode prog_56_method_3_code 23 = .ok (.ireturn, 1) := by decide +kernel
theorem own_pn0 : plainFor (⟨"java/lang/Math", "max", "(II)I"⟩ : MethodName) = true := by first | exact plainFor_of_name (by first | (simp [plainName, overriddenIn]; done) | decide +kernel) | decide +kernel
theorem own_pn1 : plainFor (⟨"java/lang/Math", "min", "(II)I"⟩ : MethodName) = true := by first | exact plainFor_of_name (by first | (simp [plainName, overriddenIn]; done) | decide +kernel) | decide +kernel
theorem own_pn2 : plainFor (⟨"java/lang/Record", "<init>", "()V"⟩ : MethodName) = true := by first | exact plainFor_of_name (by first | (simp [plainName, overriddenIn]; done) | decide +kernel) | decide +kernel
theorem own_pn3 : plainFor (⟨"java/lang/Double", "isFinite", "(D)Z"⟩ : MethodName) = true := by first | exact plainFor_of_name (by first | (simp [plainName, overriddenIn]; done) | decide +kernel) | decide +kernel
theorem own_pn4 : plainFor (⟨"com/example/bidsmith/bidsmith/market/Range", "<init>", "(DD)V"⟩ : MethodName) = true := by first | exact plainFor_of_name (by first | (simp [plainName, overriddenIn]; done) | decide +kernel) | decide +kernel
theorem own_pn5 : plainFor (⟨"com/example/bidsmith/bidsmith/market/Range", "within", "(DD)Z"⟩ : MethodName) = true := by first | exact plainFor_of_name (by first | (simp [plainName, overriddenIn]; done) | decide +kernel) | decide +kernel
theorem own_pn6 : plainFor (⟨"com/example/bidsmith/bidsmith/market/RangeWithinPinLaw", "law", "(IIII)Z"⟩ : MethodName) = true := by first | exact plainFor_of_name (by first | (simp [plainName, overriddenIn]; done) | decide +kernel) | decide +kernel
theorem own_pd0 : parseMethodDescriptor "(D)D" = some ⟨[.double], some .double⟩ := by decide +kernel
theorem own_pd1 : parseMethodDescriptor "()V" = some ⟨[], none⟩ := by decide +kernel
theorem own_pd2 : parseMethodDescriptor "(D)Z" = some ⟨[.double], some .boolean⟩ := by decide +kernel
theorem own_pd3 : parseMethodDescriptor "(II)I" = some ⟨[.int, .int], some .int⟩ := by decide +kernel
theorem own_pd4 : parseMethodDescriptor "(DD)V" = some ⟨[.double, .double], none⟩ := by decide +kernel
theorem own_pd5 : parseMethodDescriptor "(DD)Z" = some ⟨[.double, .double], some .boolean⟩ := by decide +kernel
theorem own_ef_own_max (m : MethodId) (x0 : Int32) (x1 : Int32) : entryFrame m #[(.int x0), (.int x1)] 2 = mkF m 0 #[.val (.int x0), .val (.int x1)] [] := by first | (simp [entryFrame, mkF, argsToLocals, Value.category]; done) | rfl
theorem own_ef_own_min (m : MethodId) (x0 : Int32) (x1 : Int32) : entryFrame m #[(.int x0), (.int x1)] 2 = mkF m 0 #[.val (.int x0), .val (.int x1)] [] := by first | (simp [entryFrame, mkF, argsToLocals, Value.category]; done) | rfl
theorem own_ef_own_rec (m : MethodId) (x0 : Addr) : entryFrame m #[(.ref x0)] 1 = mkF m 0 #[.val (.ref x0)] [] := by first | (simp [entryFrame, mkF, argsToLocals, Value.category]; done) | rfl
theorem own_ef_own_isf (m : MethodId) (x0 : UInt64) : entryFrame m #[(.double x0)] 2 = mkF m 0 #[.val (.double x0), .second] [] := by first | (simp [entryFrame, mkF, argsToLocals, Value.category]; done) | rfl
theorem own_ef_own_rgi (m : MethodId) (x0 : Addr) (x1 : UInt64) (x2 : UInt64) : entryFrame m #[(.ref x0), (.double x1), (.double x2)] 5 = mkF m 0 #[.val (.ref x0), .val (.double x1), .second, .val (.double x2), .second] [] := by first | (simp [entryFrame, mkF, argsToLocals, Value.category]; done) | rfl
theorem own_ef_own_wit (m : MethodId) (x0 : Addr) (x1 : UInt64) (x2 : UInt64) : entryFrame m #[(.ref x0), (.double x1), (.double x2)] 5 = mkF m 0 #[.val (.ref x0), .val (.double x1), .second, .val (.double x2), .second] [] := by first | (simp [entryFrame, mkF, argsToLocals, Value.category]; done) | rfl
theorem own_ef_own_law (m : MethodId) (x0 : Int32) (x1 : Int32) (x2 : Int32) (x3 : Int32) : entryFrame m #[(.int x0), (.int x1), (.int x2), (.int x3)] maxLocals = mkF m 0 #[.val (.int x0), .val (.int x1), .val (.int x2), .val (.int x3), .unset, .unset, .unset, .unset, .unset, .unset] [] := by first | (simp [entryFrame, mkF, argsToLocals, Value.category, maxLocals]; done) | rfl
set_option maxRecDepth 65536 in
set_option maxHeartbeats 40000000 in
theorem own_max (l : Launch) (Z : State) (a0 : Array Value) (hw : ∀ d ∈ tables_1, d.before a0 Z = true) (ws : List Jvm.Cond) (x y r : Int32) (h0 : Heap) (n0 : Nat) (Z0 : n0 ≤ h0.size) (hr : (if x < y then y else x) = r) :
    own_Met l Z (⟨"java/lang/Math", "max", "(II)I"⟩ : MethodName) jdk_29_method_65_code 2 (some .int) ws ({ frames := 0, cells := 0, slots := 0, locals := 0 } : Room) #[(.int x), (.int y)] h0 (fun v h L => v = some (.int r) ∧ Fr n0 L ∧ h = h0) := by
  refine own_body own_pn0 (fun m => mkF m 0 #[.val (.int x), .val (.int y)] []) (fun m => own_ef_own_max m x y) ?_
  intro p e s m below meth c T0 hx hby hml hlk hrt hZ hown hnm X0 e0
  have hown : s.vm.findClass "java/lang/Math" = some m.cls := hown
  have N0 := Fr.nil n0
  refine own_pre (S' := (T0.setTop (mkF m 1 #[.val (.int x), .val (.int y)] [(.int x)]))) (fun tt_ kk_ => XS.iloadN X0.here hx rfl (hb hby own_d2_0) rfl kk_) ?_
  refine own_pre (S' := (T0.setTop (mkF m 2 #[.val (.int x), .val (.int y)] [(.int y), (.int x)]))) (fun tt_ kk_ => XS.iloadN X0.here hx rfl (hb hby own_d2_1) rfl kk_) ?_
  by_cases c2 : x < y
  · -- pc 2: x < y
    refine own_pre (S' := (T0.setTop (mkF m 9 #[.val (.int x), .val (.int y)] []))) (fun tt_ kk_ => XS.icmpYes X0.here hx rfl (pc0 := 2) (pc' := 9) rfl (hb hby own_d2_2) rfl (tlt c2).1 (by decide) (by decide) kk_) ?_
    refine own_pre (S' := (T0.setTop (mkF m 10 #[.val (.int x), .val (.int y)] [(.int y)]))) (fun tt_ kk_ => XS.iloadN X0.here hx rfl (hb hby own_d2_9) rfl kk_) ?_
    refine own_ret (t := .int) X0 hx hlk hrt rfl (Or.inl ⟨rfl, by simp, _, rfl⟩) (hb hby own_d2_10) (by decide) (by decide) ?_
    exact ⟨by rw [← hr, if_pos c2], N0, e0⟩
  · -- pc 2: not x < y
    refine own_pre (S' := (T0.setTop (mkF m 5 #[.val (.int x), .val (.int y)] []))) (fun tt_ kk_ => XS.icmpNo X0.here hx rfl (hb hby own_d2_2) rfl (flt c2).1 kk_) ?_
    refine own_pre (S' := (T0.setTop (mkF m 6 #[.val (.int x), .val (.int y)] [(.int x)]))) (fun tt_ kk_ => XS.iloadN X0.here hx rfl (hb hby own_d2_5) rfl kk_) ?_
    refine own_pre (S' := (T0.setTop (mkF m 10 #[.val (.int x), .val (.int y)] [(.int x)]))) (fun tt_ kk_ => XS.goto X0.here hx rfl (pc0 := 6) (pc' := 10) rfl (hb hby own_d2_6) (by decide) (by decide) kk_) ?_
    refine own_ret (t := .int) X0 hx hlk hrt rfl (Or.inl ⟨rfl, by simp, _, rfl⟩) (hb hby own_d2_10) (by decide) (by decide) ?_
    exact ⟨by rw [← hr, if_neg c2], N0, e0⟩
set_option maxRecDepth 65536 in
set_option maxHeartbeats 40000000 in
theorem own_min (l : Launch) (Z : State) (a0 : Array Value) (hw : ∀ d ∈ tables_1, d.before a0 Z = true) (ws : List Jvm.Cond) (x y r : Int32) (h0 : Heap) (n0 : Nat) (Z0 : n0 ≤ h0.size) (hr : (if y < x then y else x) = r) :
    own_Met l Z (⟨"java/lang/Math", "min", "(II)I"⟩ : MethodName) jdk_29_method_69_code 2 (some .int) ws ({ frames := 0, cells := 0, slots := 0, locals := 0 } : Room) #[(.int x), (.int y)] h0 (fun v h L => v = some (.int r) ∧ Fr n0 L ∧ h = h0) := by
  refine own_body own_pn1 (fun m => mkF m 0 #[.val (.int x), .val (.int y)] []) (fun m => own_ef_own_min m x y) ?_
  intro p e s m below meth c T0 hx hby hml hlk hrt hZ hown hnm X0 e0
  have hown : s.vm.findClass "java/lang/Math" = some m.cls := hown
  have N0 := Fr.nil n0
  refine own_pre (S' := (T0.setTop (mkF m 1 #[.val (.int x), .val (.int y)] [(.int x)]))) (fun tt_ kk_ => XS.iloadN X0.here hx rfl (hb hby own_d1_0) rfl kk_) ?_
  refine own_pre (S' := (T0.setTop (mkF m 2 #[.val (.int x), .val (.int y)] [(.int y), (.int x)]))) (fun tt_ kk_ => XS.iloadN X0.here hx rfl (hb hby own_d1_1) rfl kk_) ?_
  by_cases c2 : y < x
  · -- pc 2: y < x
    refine own_pre (S' := (T0.setTop (mkF m 9 #[.val (.int x), .val (.int y)] []))) (fun tt_ kk_ => XS.icmpYes X0.here hx rfl (pc0 := 2) (pc' := 9) rfl (hb hby own_d1_2) rfl (tlt c2).2.2.1 (by decide) (by decide) kk_) ?_
    refine own_pre (S' := (T0.setTop (mkF m 10 #[.val (.int x), .val (.int y)] [(.int y)]))) (fun tt_ kk_ => XS.iloadN X0.here hx rfl (hb hby own_d1_9) rfl kk_) ?_
    refine own_ret (t := .int) X0 hx hlk hrt rfl (Or.inl ⟨rfl, by simp, _, rfl⟩) (hb hby own_d1_10) (by decide) (by decide) ?_
    exact ⟨by rw [← hr, if_pos c2], N0, e0⟩
  · -- pc 2: not y < x
    refine own_pre (S' := (T0.setTop (mkF m 5 #[.val (.int x), .val (.int y)] []))) (fun tt_ kk_ => XS.icmpNo X0.here hx rfl (hb hby own_d1_2) rfl (flt c2).2.2.1 kk_) ?_
    refine own_pre (S' := (T0.setTop (mkF m 6 #[.val (.int x), .val (.int y)] [(.int x)]))) (fun tt_ kk_ => XS.iloadN X0.here hx rfl (hb hby own_d1_5) rfl kk_) ?_
    refine own_pre (S' := (T0.setTop (mkF m 10 #[.val (.int x), .val (.int y)] [(.int x)]))) (fun tt_ kk_ => XS.goto X0.here hx rfl (pc0 := 6) (pc' := 10) rfl (hb hby own_d1_6) (by decide) (by decide) kk_) ?_
    refine own_ret (t := .int) X0 hx hlk hrt rfl (Or.inl ⟨rfl, by simp, _, rfl⟩) (hb hby own_d1_10) (by decide) (by decide) ?_
    exact ⟨by rw [← hr, if_neg c2], N0, e0⟩
set_option maxRecDepth 65536 in
set_option maxHeartbeats 40000000 in
theorem own_rec (l : Launch) (Z : State) (a0 : Array Value) (hw : ∀ d ∈ tables_1, d.before a0 Z = true) (ws : List Jvm.Cond) (a : Nat) (h0 : Heap) (n0 : Nat) (Z0 : n0 ≤ h0.size)  :
    own_Met l Z (⟨"java/lang/Record", "<init>", "()V"⟩ : MethodName) jdk_30_method_1_code 1 none ws ({ frames := 1, cells := 0, slots := 0, locals := 12 } : Room) #[(.ref a)] h0 (fun v h L => v = none ∧ Fr n0 L ∧ h = h0) := by
  refine own_body own_pn2 (fun m => mkF m 0 #[.val (.ref a)] []) (fun m => own_ef_own_rec m a) ?_
  intro p e s m below meth c T0 hx hby hml hlk hrt hZ hown hnm X0 e0
  have hown : s.vm.findClass "java/lang/Record" = some m.cls := hown
  have N0 := Fr.nil n0
  refine own_pre (S' := (T0.setTop (mkF m 1 #[.val (.ref a)] [(.ref a)]))) (fun tt_ kk_ => XS.aloadN X0.here hx rfl (hb hby own_d4_0) rfl rfl kk_) ?_
  obtain ⟨T1, X1, e1, st1⟩ := initO X0 hx hZ hown (hw _ (List.mem_of_getElem? (i := 18) rfl)) (hw _ (List.mem_of_getElem? (i := 19) rfl)) (hw _ (List.mem_of_getElem? (i := 20) rfl)) e0 (g := (mkF m 1 #[.val (.ref a)] [(.ref a)])) rfl (by rw [hml]; rfl) rfl (hb hby own_d4_1) (by decide) (W := 0) (by show 2 * 0 + _ ≤ _; exact Nat.le_of_eq rfl) (by decide)
  refine own_pre (S' := (T1.setTop (mkF m 4 #[.val (.ref a)] []))) st1 ?_
  refine own_retV X1 hx hlk hrt (hb hby own_d4_4) (by decide) (by decide) ?_
  exact ⟨rfl, N0, e1⟩
set_option maxRecDepth 65536 in
set_option maxHeartbeats 40000000 in
theorem own_isf (l : Launch) (Z : State) (a0 : Array Value) (hw : ∀ d ∈ tables_1, d.before a0 Z = true) (ws : List Jvm.Cond) (x : Int32) (h0 : Heap) (n0 : Nat) (Z0 : n0 ≤ h0.size)  :
    own_Met l Z (⟨"java/lang/Double", "isFinite", "(D)Z"⟩ : MethodName) jdk_117_method_8_code 2 (some .boolean) ws ({ frames := 1, cells := 0, slots := 0, locals := 13 } : Room) #[(.double (FP.i2d x))] h0 (fun v h L => v = some (.int 1) ∧ Fr n0 L ∧ h = h0) := by
  refine own_body own_pn3 (fun m => mkF m 0 #[.val (.double (FP.i2d x)), .second] []) (fun m => own_ef_own_isf m (FP.i2d x)) ?_
  intro p e s m below meth c T0 hx hby hml hlk hrt hZ hown hnm X0 e0
  have hown : s.vm.findClass "java/lang/Double" = some m.cls := hown
  have N0 := Fr.nil n0
  refine own_pre (S' := (T0.setTop (mkF m 1 #[.val (.double (FP.i2d x)), .second] [(.double (FP.i2d x))]))) (fun tt_ kk_ => XS.dloadN X0.here hx rfl (hb hby own_d6_0) rfl kk_) ?_
  obtain ⟨T1, X1, e1, st1⟩ := natS X0 hx hZ hown (hw _ (List.mem_of_getElem? (i := 25) rfl)) (hw _ (List.mem_of_getElem? (i := 26) rfl)) (hw _ (List.mem_of_getElem? (i := 2) rfl)) (by0 := Jvm.Free.Fl.Abs.absDCode) (y := Jvm.Free.Fl.Abs.absDN) (ml := 2) (rt := some .double) (hw _ (List.mem_of_getElem? (i := 27) rfl)) (by decide) e0 (W := 0) (F := fun a' => a' = #[.double (FP.i2d x)] ∧ Jvm.Free.Fl.NoNaN64 (FP.i2d x)) (val' := .double ((FP.i2d x) &&& 0x7fffffffffffffff)) (fun c4 => Jvm.Free.Fl.Abs.absD_pays (FP.i2d x) c4 (by decide) (by decide)) (g := (mkF m 1 #[.val (.double (FP.i2d x)), .second] [(.double (FP.i2d x))])) rfl (by rw [hml]; rfl) (argsL := [.double (FP.i2d x)]) (rest := []) (lenOf own_pd0 rfl) rfl (Nat.le_of_eq rfl) (hb hby own_d6_1) (by decide) (by decide) ⟨rfl, own_nn _⟩ rfl
  refine own_pre (S' := (T1.setTop (mkF m 4 #[.val (.double (FP.i2d x)), .second] [(.double ((FP.i2d x) &&& 0x7fffffffffffffff))]))) st1 ?_
  refine own_pre (S' := (T1.setTop (mkF m 7 #[.val (.double (FP.i2d x)), .second] [(.double (9218868437227405311 : UInt64)), (.double ((FP.i2d x) &&& 0x7fffffffffffffff))]))) (X1.ldc2DoubleC hx hown (mvT hZ (hw _ (List.mem_of_getElem? (i := 28) rfl))) (g := (mkF m 4 #[.val (.double (FP.i2d x)), .second] [(.double ((FP.i2d x) &&& 0x7fffffffffffffff))])) rfl (hb hby own_d6_4)) ?_
  obtain ⟨v7, hv7, hs7⟩ := own_fcv x
  refine own_pre (S' := (T1.setTop (mkF m 8 #[.val (.double (FP.i2d x)), .second] [(.int v7)]))) (fun tt_ kk_ => XS.dcmpS X1.here hx rfl (hb hby own_d6_7) rfl hv7 kk_) ?_
  refine own_pre (S' := (T1.setTop (mkF m 11 #[.val (.double (FP.i2d x)), .second] []))) (fun tt_ kk_ => XS.ifNo X1.here hx rfl (hb hby own_d6_8) rfl ((if0 _ _).trans (flt hs7).2.2.1) kk_) ?_
  refine own_pre (S' := (T1.setTop (mkF m 12 #[.val (.double (FP.i2d x)), .second] [(.int (1 : Int32))]))) (fun tt_ kk_ => XS.iconst X1.here hx rfl (hb hby own_d6_11) kk_) ?_
  refine own_pre (S' := (T1.setTop (mkF m 16 #[.val (.double (FP.i2d x)), .second] [(.int (1 : Int32))]))) (fun tt_ kk_ => XS.goto X1.here hx rfl (pc0 := 12) (pc' := 16) rfl (hb hby own_d6_12) (by decide) (by decide) kk_) ?_
  refine own_ret (t := .boolean) X1 hx hlk hrt rfl (Or.inl ⟨rfl, by simp, _, rfl⟩) (hb hby own_d6_16) (by decide) (by decide) ?_
  exact ⟨rfl, N0, e1⟩
set_option maxRecDepth 65536 in
set_option maxHeartbeats 40000000 in
theorem own_rgi (l : Launch) (Z : State) (a0 : Array Value) (hw : ∀ d ∈ tables_1, d.before a0 Z = true) (ws : List Jvm.Cond) (a : Nat) (x y : Int32) (h0 : Heap) (n0 : Nat) (Z0 : n0 ≤ h0.size) (hxy : ¬ y < x) (Ea : Exa Z h0 a "com/example/bidsmith/bidsmith/market/Range") (ga : n0 ≤ a) (F_low : Fld Z h0 a "com/example/bidsmith/bidsmith/market/Range" "low" "D" (.double (0 : UInt64))) (F_high : Fld Z h0 a "com/example/bidsmith/bidsmith/market/Range" "high" "D" (.double (0 : UInt64))) :
    own_Met l Z (⟨"com/example/bidsmith/bidsmith/market/Range", "<init>", "(DD)V"⟩ : MethodName) prog_56_method_1_code 5 none ws ({ frames := 2, cells := 0, slots := 0, locals := 26 } : Room) #[(.ref a), (.double (FP.i2d x)), (.double (FP.i2d y))] h0 (fun v h L => v = none ∧ Fr n0 L ∧ Keep h0 h [a] ∧ Fld Z h a "com/example/bidsmith/bidsmith/market/Range" "low" "D" (.double (FP.i2d x)) ∧ Fld Z h a "com/example/bidsmith/bidsmith/market/Range" "high" "D" (.double (FP.i2d y))) := by
  refine own_body own_pn4 (fun m => mkF m 0 #[.val (.ref a), .val (.double (FP.i2d x)), .second, .val (.double (FP.i2d y)), .second] []) (fun m => own_ef_own_rgi m a (FP.i2d x) (FP.i2d y)) ?_
  intro p e s m below meth c T0 hx hby hml hlk hrt hZ hown hnm X0 e0
  have hown : s.vm.findClass "com/example/bidsmith/bidsmith/market/Range" = some m.cls := hown
  have N0 := Fr.nil n0
  refine own_pre (S' := (T0.setTop (mkF m 1 #[.val (.ref a), .val (.double (FP.i2d x)), .second, .val (.double (FP.i2d y)), .second] [(.ref a)]))) (fun tt_ kk_ => XS.aloadN X0.here hx rfl (hb hby own_d3_0) rfl rfl kk_) ?_
  refine own_callI (y := (⟨"java/lang/Record", "<init>", "()V"⟩ : MethodName)) (b := a) X0 hx hZ hown rfl (hw _ (List.mem_of_getElem? (i := 13) rfl)) (hw _ (List.mem_of_getElem? (i := 14) rfl)) (hw _ (List.mem_of_getElem? (i := 17) rfl)) (hw _ (List.mem_of_getElem? (i := 16) rfl)) (by decide) e0 (hM := own_rec l Z a0 hw [] a h0 n0 Z0) (W := 0) (pc := 1) (Ls := #[.val (.ref a), .val (.double (FP.i2d x)), .second, .val (.double (FP.i2d y)), .second]) (argsL := []) (rest := []) (st0 := [(.ref a)]) (by rw [hml]; rfl) (lenOf own_pd1 rfl) rfl (Nat.le_of_eq rfl) (hb hby own_d3_1) (by decide) (by decide) (by decide) (by decide) ?_
  intro v1 T1 L1 X1 hQ1
  obtain ⟨rfl, Nq1, hh1⟩ := hQ1
  have N1 := Fr.app N0 Nq1
  show own_Ends p e below s _ _ _ (T1.setTop (mkF m 4 #[.val (.ref a), .val (.double (FP.i2d x)), .second, .val (.double (FP.i2d y)), .second] []))
  refine own_pre (S' := (T1.setTop (mkF m 5 #[.val (.ref a), .val (.double (FP.i2d x)), .second, .val (.double (FP.i2d y)), .second] [(.double (FP.i2d x))]))) (fun tt_ kk_ => XS.dloadN X1.here hx rfl (hb hby own_d3_4) rfl kk_) ?_
  refine own_callS (y := (⟨"java/lang/Double", "isFinite", "(D)Z"⟩ : MethodName)) X1 hx hZ hown (hw _ (List.mem_of_getElem? (i := 21) rfl)) (hw _ (List.mem_of_getElem? (i := 22) rfl)) (hw _ (List.mem_of_getElem? (i := 23) rfl)) (hw _ (List.mem_of_getElem? (i := 24) rfl)) (by decide) hh1 (hM := own_isf l Z a0 hw [] x h0 n0 Z0) (W := 0) (pc := 5) (Ls := #[.val (.ref a), .val (.double (FP.i2d x)), .second, .val (.double (FP.i2d y)), .second]) (argsL := [(.double (FP.i2d x))]) (rest := []) (st0 := [(.double (FP.i2d x))]) (by rw [hml]; rfl) (lenOf own_pd2 rfl) rfl (Nat.le_of_eq rfl) (hb hby own_d3_5) (by decide) (by decide) (by decide) (by decide) ?_
  intro v2 T2 L2 X2 hQ2
  obtain ⟨rfl, Nq2, hh2⟩ := hQ2
  have N2 := Fr.app N1 Nq2
  show own_Ends p e below s _ _ _ (T2.setTop (mkF m 8 #[.val (.ref a), .val (.double (FP.i2d x)), .second, .val (.double (FP.i2d y)), .second] [(.int (1 : Int32))]))
  refine own_pre (S' := (T2.setTop (mkF m 11 #[.val (.ref a), .val (.double (FP.i2d x)), .second, .val (.double (FP.i2d y)), .second] []))) (fun tt_ kk_ => XS.ifNo X2.here hx rfl (hb hby own_d3_8) rfl ((if0 _ _).trans (feq (by decide : ¬ ((1 : Int32) = (0 : Int32)))).1) kk_) ?_
  refine own_pre (S' := (T2.setTop (mkF m 12 #[.val (.ref a), .val (.double (FP.i2d x)), .second, .val (.double (FP.i2d y)), .second] [(.double (FP.i2d y))]))) (fun tt_ kk_ => XS.dloadN X2.here hx rfl (hb hby own_d3_11) rfl kk_) ?_
  refine own_callS (y := (⟨"java/lang/Double", "isFinite", "(D)Z"⟩ : MethodName)) X2 hx hZ hown (hw _ (List.mem_of_getElem? (i := 21) rfl)) (hw _ (List.mem_of_getElem? (i := 22) rfl)) (hw _ (List.mem_of_getElem? (i := 23) rfl)) (hw _ (List.mem_of_getElem? (i := 24) rfl)) (by decide) hh2 (hM := own_isf l Z a0 hw [] y h0 n0 Z0) (W := 0) (pc := 12) (Ls := #[.val (.ref a), .val (.double (FP.i2d x)), .second, .val (.double (FP.i2d y)), .second]) (argsL := [(.double (FP.i2d y))]) (rest := []) (st0 := [(.double (FP.i2d y))]) (by rw [hml]; rfl) (lenOf own_pd2 rfl) rfl (Nat.le_of_eq rfl) (hb hby own_d3_12) (by decide) (by decide) (by decide) (by decide) ?_
  intro v3 T3 L3 X3 hQ3
  obtain ⟨rfl, Nq3, hh3⟩ := hQ3
  have N3 := Fr.app N2 Nq3
  show own_Ends p e below s _ _ _ (T3.setTop (mkF m 15 #[.val (.ref a), .val (.double (FP.i2d x)), .second, .val (.double (FP.i2d y)), .second] [(.int (1 : Int32))]))
  refine own_pre (S' := (T3.setTop (mkF m 33 #[.val (.ref a), .val (.double (FP.i2d x)), .second, .val (.double (FP.i2d y)), .second] []))) (fun tt_ kk_ => XS.ifYes X3.here hx rfl (pc0 := 15) (pc' := 33) rfl (hb hby own_d3_15) rfl ((if0 _ _).trans (feq (by decide : ¬ ((1 : Int32) = (0 : Int32)))).2) (by decide) (by decide) kk_) ?_
  refine own_pre (S' := (T3.setTop (mkF m 34 #[.val (.ref a), .val (.double (FP.i2d x)), .second, .val (.double (FP.i2d y)), .second] [(.double (FP.i2d x))]))) (fun tt_ kk_ => XS.dloadN X3.here hx rfl (hb hby own_d3_33) rfl kk_) ?_
  refine own_pre (S' := (T3.setTop (mkF m 35 #[.val (.ref a), .val (.double (FP.i2d x)), .second, .val (.double (FP.i2d y)), .second] [(.double (FP.i2d y)), (.double (FP.i2d x))]))) (fun tt_ kk_ => XS.dloadN X3.here hx rfl (hb hby own_d3_34) rfl kk_) ?_
  obtain ⟨v35, hv35, hs35⟩ := own_dcv x y .l
  refine own_pre (S' := (T3.setTop (mkF m 36 #[.val (.ref a), .val (.double (FP.i2d x)), .second, .val (.double (FP.i2d y)), .second] [(.int v35)]))) (fun tt_ kk_ => XS.dcmpS X3.here hx rfl (hb hby own_d3_35) rfl hv35 kk_) ?_
  refine own_pre (S' := (T3.setTop (mkF m 54 #[.val (.ref a), .val (.double (FP.i2d x)), .second, .val (.double (FP.i2d y)), .second] []))) (fun tt_ kk_ => XS.ifYes X3.here hx rfl (pc0 := 36) (pc' := 54) rfl (hb hby own_d3_36) rfl ((if0 _ _).trans (flt (fun z => hxy (hs35.2.mp z))).2.2.2) (by decide) (by decide) kk_) ?_
  refine own_pre (S' := (T3.setTop (mkF m 55 #[.val (.ref a), .val (.double (FP.i2d x)), .second, .val (.double (FP.i2d y)), .second] [(.ref a)]))) (fun tt_ kk_ => XS.aloadN X3.here hx rfl (hb hby own_d3_54) rfl rfl kk_) ?_
  refine own_pre (S' := (T3.setTop (mkF m 56 #[.val (.ref a), .val (.double (FP.i2d x)), .second, .val (.double (FP.i2d y)), .second] [(.double (FP.i2d x)), (.ref a)]))) (fun tt_ kk_ => XS.dloadN X3.here hx rfl (hb hby own_d3_55) rfl kk_) ?_
  obtain ⟨T4, h4, X4, e4, W4, st4⟩ := putF X3 hx hZ hown (host := "") (Or.inl (hw _ (List.mem_of_getElem? (i := 29) rfl))) Via.refl hh3 F_low Ea (Or.inr ⟨(hw _ (List.mem_of_getElem? (i := 30) rfl)), rfl, hnm⟩) (hw _ (List.mem_of_getElem? (i := 8) rfl)) (ty := .double) (by decide) rfl rfl (g := (mkF m 56 #[.val (.ref a), .val (.double (FP.i2d x)), .second, .val (.double (FP.i2d y)), .second] [(.double (FP.i2d x)), (.ref a)])) rfl rfl (hb hby own_d3_56)
  have N4 := Fr.snoc X4 N3 ga
  have Fw4 := F_low.same W4
  refine own_pre (S' := (T4.setTop (mkF m 59 #[.val (.ref a), .val (.double (FP.i2d x)), .second, .val (.double (FP.i2d y)), .second] []))) st4 ?_
  refine own_pre (S' := (T4.setTop (mkF m 60 #[.val (.ref a), .val (.double (FP.i2d x)), .second, .val (.double (FP.i2d y)), .second] [(.ref a)]))) (fun tt_ kk_ => XS.aloadN X4.here hx rfl (hb hby own_d3_59) rfl rfl kk_) ?_
  refine own_pre (S' := (T4.setTop (mkF m 61 #[.val (.ref a), .val (.double (FP.i2d x)), .second, .val (.double (FP.i2d y)), .second] [(.double (FP.i2d y)), (.ref a)]))) (fun tt_ kk_ => XS.dloadN X4.here hx rfl (hb hby own_d3_60) rfl kk_) ?_
  obtain ⟨T5, h5, X5, e5, W5, st5⟩ := putF X4 hx hZ hown (host := "") (Or.inl (hw _ (List.mem_of_getElem? (i := 31) rfl))) Via.refl e4 (F_high.other W4 (Or.inr (slot_ne (C := "com/example/bidsmith/bidsmith/market/Range") (Or.inr (hw _ (List.mem_of_getElem? (i := 32) rfl))) (Or.inr (hw _ (List.mem_of_getElem? (i := 30) rfl))) (by decide) (t := .double) (t' := .double) (by decide) (by decide)))) (Ea.wr W4) (Or.inr ⟨(hw _ (List.mem_of_getElem? (i := 32) rfl)), rfl, hnm⟩) (hw _ (List.mem_of_getElem? (i := 8) rfl)) (ty := .double) (by decide) rfl rfl (g := (mkF m 61 #[.val (.ref a), .val (.double (FP.i2d x)), .second, .val (.double (FP.i2d y)), .second] [(.double (FP.i2d y)), (.ref a)])) rfl rfl (hb hby own_d3_61)
  have N5 := Fr.snoc X5 N4 ga
  have Fw5 := (F_high.other W4 (Or.inr (slot_ne (C := "com/example/bidsmith/bidsmith/market/Range") (Or.inr (hw _ (List.mem_of_getElem? (i := 32) rfl))) (Or.inr (hw _ (List.mem_of_getElem? (i := 30) rfl))) (by decide) (t := .double) (t' := .double) (by decide) (by decide)))).same W5
  refine own_pre (S' := (T5.setTop (mkF m 64 #[.val (.ref a), .val (.double (FP.i2d x)), .second, .val (.double (FP.i2d y)), .second] []))) st5 ?_
  refine own_retV X5 hx hlk hrt (hb hby own_d3_64) (by decide) (by decide) ?_
  show _ ∧ Fr n0 _ ∧ Keep h0 T5.heap [a] ∧ _
  rw [e5]
  exact ⟨rfl, N5, (((Keep.refl _ _).wr W4 (Or.inl (List.mem_of_getElem? (i := 0) rfl))).wr W5 (Or.inl (List.mem_of_getElem? (i := 0) rfl))), (Fw4.other W5 (Or.inr (slot_ne (C := "com/example/bidsmith/bidsmith/market/Range") (Or.inr (hw _ (List.mem_of_getElem? (i := 30) rfl))) (Or.inr (hw _ (List.mem_of_getElem? (i := 32) rfl))) (by decide) (t := .double) (t' := .double) (by decide) (by decide)))), Fw5⟩
set_option maxRecDepth 65536 in
set_option maxHeartbeats 40000000 in
theorem own_wit (l : Launch) (Z : State) (a0 : Array Value) (hw : ∀ d ∈ tables_1, d.before a0 Z = true) (ws : List Jvm.Cond) (a : Nat) (x y c_ d_ : Int32) (h0 : Heap) (n0 : Nat) (Z0 : n0 ≤ h0.size) (F_low : Fld Z h0 a "com/example/bidsmith/bidsmith/market/Range" "low" "D" (.double (FP.i2d x))) (F_high : Fld Z h0 a "com/example/bidsmith/bidsmith/market/Range" "high" "D" (.double (FP.i2d y))) :
    own_Met l Z (⟨"com/example/bidsmith/bidsmith/market/Range", "within", "(DD)Z"⟩ : MethodName) prog_56_method_3_code 5 (some .boolean) ws ({ frames := 0, cells := 0, slots := 0, locals := 0 } : Room) #[(.ref a), (.double (FP.i2d c_)), (.double (FP.i2d d_))] h0 (fun v h L => ∃ r : Int32, v = some (.int r) ∧ (r = 1 ∧ (¬ x < c_ ∧ ¬ d_ < y) ∨ r = 0 ∧ ¬ (¬ x < c_ ∧ ¬ d_ < y)) ∧ Fr n0 L ∧ h = h0) := by
  refine own_body own_pn5 (fun m => mkF m 0 #[.val (.ref a), .val (.double (FP.i2d c_)), .second, .val (.double (FP.i2d d_)), .second] []) (fun m => own_ef_own_wit m a (FP.i2d c_) (FP.i2d d_)) ?_
  intro p e s m below meth c T0 hx hby hml hlk hrt hZ hown hnm X0 e0
  have hown : s.vm.findClass "com/example/bidsmith/bidsmith/market/Range" = some m.cls := hown
  have N0 := Fr.nil n0
  refine own_pre (S' := (T0.setTop (mkF m 1 #[.val (.ref a), .val (.double (FP.i2d c_)), .second, .val (.double (FP.i2d d_)), .second] [(.ref a)]))) (fun tt_ kk_ => XS.aloadN X0.here hx rfl (hb hby own_d8_0) rfl rfl kk_) ?_
  obtain ⟨T1, X1, e1, st1⟩ := getF X0 hx hZ hown (host := "") (Or.inl (hw _ (List.mem_of_getElem? (i := 29) rfl))) Via.refl e0 F_low (g := (mkF m 1 #[.val (.ref a), .val (.double (FP.i2d c_)), .second, .val (.double (FP.i2d d_)), .second] [(.ref a)])) rfl rfl (hb hby own_d8_1)
  refine own_pre (S' := (T1.setTop (mkF m 4 #[.val (.ref a), .val (.double (FP.i2d c_)), .second, .val (.double (FP.i2d d_)), .second] [(.double (FP.i2d x))]))) st1 ?_
  refine own_pre (S' := (T1.setTop (mkF m 5 #[.val (.ref a), .val (.double (FP.i2d c_)), .second, .val (.double (FP.i2d d_)), .second] [(.double (FP.i2d c_)), (.double (FP.i2d x))]))) (fun tt_ kk_ => XS.dloadN X1.here hx rfl (hb hby own_d8_4) rfl kk_) ?_
  obtain ⟨v5, hv5, hs5⟩ := own_dcv x c_ .l
  refine own_pre (S' := (T1.setTop (mkF m 6 #[.val (.ref a), .val (.double (FP.i2d c_)), .second, .val (.double (FP.i2d d_)), .second] [(.int v5)]))) (fun tt_ kk_ => XS.dcmpS X1.here hx rfl (hb hby own_d8_5) rfl hv5 kk_) ?_
  by_cases c6 : v5 < (0 : Int32)
  · -- pc 6: v5 < (0 : Int32)
    refine own_pre (S' := (T1.setTop (mkF m 22 #[.val (.ref a), .val (.double (FP.i2d c_)), .second, .val (.double (FP.i2d d_)), .second] []))) (fun tt_ kk_ => XS.ifYes X1.here hx rfl (pc0 := 6) (pc' := 22) rfl (hb hby own_d8_6) rfl ((if0 _ _).trans (tlt c6).1) (by decide) (by decide) kk_) ?_
    refine own_pre (S' := (T1.setTop (mkF m 23 #[.val (.ref a), .val (.double (FP.i2d c_)), .second, .val (.double (FP.i2d d_)), .second] [(.int (0 : Int32))]))) (fun tt_ kk_ => XS.iconst X1.here hx rfl (hb hby own_d8_22) kk_) ?_
    refine own_ret (t := .boolean) X1 hx hlk hrt rfl (Or.inl ⟨rfl, by simp, _, rfl⟩) (hb hby own_d8_23) (by decide) (by decide) ?_
    exact ⟨_, rfl, Or.inr ⟨rfl, fun z => z.1 (hs5.1.mp c6)⟩, N0, e1⟩
  · -- pc 6: not v5 < (0 : Int32)
    refine own_pre (S' := (T1.setTop (mkF m 9 #[.val (.ref a), .val (.double (FP.i2d c_)), .second, .val (.double (FP.i2d d_)), .second] []))) (fun tt_ kk_ => XS.ifNo X1.here hx rfl (hb hby own_d8_6) rfl ((if0 _ _).trans (flt c6).1) kk_) ?_
    refine own_pre (S' := (T1.setTop (mkF m 10 #[.val (.ref a), .val (.double (FP.i2d c_)), .second, .val (.double (FP.i2d d_)), .second] [(.ref a)]))) (fun tt_ kk_ => XS.aloadN X1.here hx rfl (hb hby own_d8_9) rfl rfl kk_) ?_
    obtain ⟨T2, X2, e2, st2⟩ := getF X1 hx hZ hown (host := "") (Or.inl (hw _ (List.mem_of_getElem? (i := 31) rfl))) Via.refl e1 F_high (g := (mkF m 10 #[.val (.ref a), .val (.double (FP.i2d c_)), .second, .val (.double (FP.i2d d_)), .second] [(.ref a)])) rfl rfl (hb hby own_d8_10)
    refine own_pre (S' := (T2.setTop (mkF m 13 #[.val (.ref a), .val (.double (FP.i2d c_)), .second, .val (.double (FP.i2d d_)), .second] [(.double (FP.i2d y))]))) st2 ?_
    refine own_pre (S' := (T2.setTop (mkF m 14 #[.val (.ref a), .val (.double (FP.i2d c_)), .second, .val (.double (FP.i2d d_)), .second] [(.double (FP.i2d d_)), (.double (FP.i2d y))]))) (fun tt_ kk_ => XS.dloadN X2.here hx rfl (hb hby own_d8_13) rfl kk_) ?_
    obtain ⟨v14, hv14, hs14⟩ := own_dcv y d_ .g
    refine own_pre (S' := (T2.setTop (mkF m 15 #[.val (.ref a), .val (.double (FP.i2d c_)), .second, .val (.double (FP.i2d d_)), .second] [(.int v14)]))) (fun tt_ kk_ => XS.dcmpS X2.here hx rfl (hb hby own_d8_14) rfl hv14 kk_) ?_
    by_cases c15 : (0 : Int32) < v14
    · -- pc 15: (0 : Int32) < v14
      refine own_pre (S' := (T2.setTop (mkF m 22 #[.val (.ref a), .val (.double (FP.i2d c_)), .second, .val (.double (FP.i2d d_)), .second] []))) (fun tt_ kk_ => XS.ifYes X2.here hx rfl (pc0 := 15) (pc' := 22) rfl (hb hby own_d8_15) rfl ((if0 _ _).trans (tlt c15).2.2.1) (by decide) (by decide) kk_) ?_
      refine own_pre (S' := (T2.setTop (mkF m 23 #[.val (.ref a), .val (.double (FP.i2d c_)), .second, .val (.double (FP.i2d d_)), .second] [(.int (0 : Int32))]))) (fun tt_ kk_ => XS.iconst X2.here hx rfl (hb hby own_d8_22) kk_) ?_
      refine own_ret (t := .boolean) X2 hx hlk hrt rfl (Or.inl ⟨rfl, by simp, _, rfl⟩) (hb hby own_d8_23) (by decide) (by decide) ?_
      exact ⟨_, rfl, Or.inr ⟨rfl, fun z => z.2 (hs14.2.mp c15)⟩, N0, e2⟩
    · -- pc 15: not (0 : Int32) < v14
      refine own_pre (S' := (T2.setTop (mkF m 18 #[.val (.ref a), .val (.double (FP.i2d c_)), .second, .val (.double (FP.i2d d_)), .second] []))) (fun tt_ kk_ => XS.ifNo X2.here hx rfl (hb hby own_d8_15) rfl ((if0 _ _).trans (flt c15).2.2.1) kk_) ?_
      refine own_pre (S' := (T2.setTop (mkF m 19 #[.val (.ref a), .val (.double (FP.i2d c_)), .second, .val (.double (FP.i2d d_)), .second] [(.int (1 : Int32))]))) (fun tt_ kk_ => XS.iconst X2.here hx rfl (hb hby own_d8_18) kk_) ?_
      refine own_pre (S' := (T2.setTop (mkF m 23 #[.val (.ref a), .val (.double (FP.i2d c_)), .second, .val (.double (FP.i2d d_)), .second] [(.int (1 : Int32))]))) (fun tt_ kk_ => XS.goto X2.here hx rfl (pc0 := 19) (pc' := 23) rfl (hb hby own_d8_19) (by decide) (by decide) kk_) ?_
      refine own_ret (t := .boolean) X2 hx hlk hrt rfl (Or.inl ⟨rfl, by simp, _, rfl⟩) (hb hby own_d8_23) (by decide) (by decide) ?_
      exact ⟨_, rfl, Or.inl ⟨rfl, fun z => c6 (hs5.1.mpr z), fun z => c15 (hs14.2.mpr z)⟩, N0, e2⟩
set_option maxRecDepth 65536 in
set_option maxHeartbeats 40000000 in
theorem own_law (l : Launch) (Z : State) (a0 : Array Value) (hw : ∀ d ∈ tables_1, d.before a0 Z = true) (ws : List Jvm.Cond) (i0 i1 i2 i3 : Int32) (h0 : Heap) (n0 : Nat) (Z0 : n0 ≤ h0.size)  :
    own_Met l Z x code maxLocals ret ws room_1 #[(.int i0), (.int i1), (.int i2), (.int i3)] h0 (fun v h L => v = some (.int 1) ∧ Fr n0 L) := by
  refine own_body own_pn6 (fun m => mkF m 0 #[.val (.int i0), .val (.int i1), .val (.int i2), .val (.int i3), .unset, .unset, .unset, .unset, .unset, .unset] []) (fun m => own_ef_own_law m i0 i1 i2 i3) ?_
  intro p e s m below meth c T0 hx hby hml hlk hrt hZ hown hnm X0 e0
  have hown : s.vm.findClass "com/example/bidsmith/bidsmith/market/RangeWithinPinLaw" = some m.cls := hown
  have N0 := Fr.nil n0
  refine own_pre (S' := (T0.setTop (mkF m 1 #[.val (.int i0), .val (.int i1), .val (.int i2), .val (.int i3), .unset, .unset, .unset, .unset, .unset, .unset] [(.int i0)]))) (fun tt_ kk_ => XS.iloadN X0.here hx rfl (hb hby at_0) rfl kk_) ?_
  refine own_pre (S' := (T0.setTop (mkF m 2 #[.val (.int i0), .val (.int i1), .val (.int i2), .val (.int i3), .unset, .unset, .unset, .unset, .unset, .unset] [(.int i1), (.int i0)]))) (fun tt_ kk_ => XS.iloadN X0.here hx rfl (hb hby at_1) rfl kk_) ?_
  obtain ⟨lo, hlo⟩ : ∃ z : Int32, (if i1 < i0 then i1 else i0) = z := ⟨_, rfl⟩
  refine own_callS (y := (⟨"java/lang/Math", "min", "(II)I"⟩ : MethodName)) X0 hx hZ hown (hw _ (List.mem_of_getElem? (i := 0) rfl)) (hw _ (List.mem_of_getElem? (i := 1) rfl)) (hw _ (List.mem_of_getElem? (i := 2) rfl)) (hw _ (List.mem_of_getElem? (i := 3) rfl)) (by decide) e0 (hM := own_min l Z a0 hw [] i0 i1 lo h0 n0 Z0 hlo) (W := 0) (pc := 2) (Ls := #[.val (.int i0), .val (.int i1), .val (.int i2), .val (.int i3), .unset, .unset, .unset, .unset, .unset, .unset]) (argsL := [(.int i0), (.int i1)]) (rest := []) (st0 := [(.int i1), (.int i0)]) (by rw [hml]; rfl) (lenOf own_pd3 rfl) rfl (Nat.le_of_eq rfl) (hb hby at_2) (by decide) (by decide) (by decide) (by decide) ?_
  intro v1 T1 L1 X1 hQ1
  obtain ⟨rfl, Nq1, hh1⟩ := hQ1
  have N1 := Fr.app N0 Nq1
  show own_Ends p e below s _ _ _ (T1.setTop (mkF m 5 #[.val (.int i0), .val (.int i1), .val (.int i2), .val (.int i3), .unset, .unset, .unset, .unset, .unset, .unset] [(.int lo)]))
  refine own_pre (S' := (T1.setTop (mkF m 7 #[.val (.int i0), .val (.int i1), .val (.int i2), .val (.int i3), .val (.int lo), .unset, .unset, .unset, .unset, .unset] []))) (fun tt_ kk_ => XS.istore X1.here hx rfl (hb hby at_5) rfl (l' := #[.val (.int i0), .val (.int i1), .val (.int i2), .val (.int i3), .val (.int lo), .unset, .unset, .unset, .unset, .unset]) rfl kk_) ?_
  refine own_pre (S' := (T1.setTop (mkF m 8 #[.val (.int i0), .val (.int i1), .val (.int i2), .val (.int i3), .val (.int lo), .unset, .unset, .unset, .unset, .unset] [(.int i0)]))) (fun tt_ kk_ => XS.iloadN X1.here hx rfl (hb hby at_7) rfl kk_) ?_
  refine own_pre (S' := (T1.setTop (mkF m 9 #[.val (.int i0), .val (.int i1), .val (.int i2), .val (.int i3), .val (.int lo), .unset, .unset, .unset, .unset, .unset] [(.int i1), (.int i0)]))) (fun tt_ kk_ => XS.iloadN X1.here hx rfl (hb hby at_8) rfl kk_) ?_
  obtain ⟨hi, hhi⟩ : ∃ z : Int32, (if i0 < i1 then i1 else i0) = z := ⟨_, rfl⟩
  refine own_callS (y := (⟨"java/lang/Math", "max", "(II)I"⟩ : MethodName)) X1 hx hZ hown (hw _ (List.mem_of_getElem? (i := 4) rfl)) (hw _ (List.mem_of_getElem? (i := 5) rfl)) (hw _ (List.mem_of_getElem? (i := 2) rfl)) (hw _ (List.mem_of_getElem? (i := 6) rfl)) (by decide) hh1 (hM := own_max l Z a0 hw [] i0 i1 hi h0 n0 Z0 hhi) (W := 0) (pc := 9) (Ls := #[.val (.int i0), .val (.int i1), .val (.int i2), .val (.int i3), .val (.int lo), .unset, .unset, .unset, .unset, .unset]) (argsL := [(.int i0), (.int i1)]) (rest := []) (st0 := [(.int i1), (.int i0)]) (by rw [hml]; rfl) (lenOf own_pd3 rfl) rfl (Nat.le_of_eq rfl) (hb hby at_9) (by decide) (by decide) (by decide) (by decide) ?_
  intro v2 T2 L2 X2 hQ2
  obtain ⟨rfl, Nq2, hh2⟩ := hQ2
  have N2 := Fr.app N1 Nq2
  show own_Ends p e below s _ _ _ (T2.setTop (mkF m 12 #[.val (.int i0), .val (.int i1), .val (.int i2), .val (.int i3), .val (.int lo), .unset, .unset, .unset, .unset, .unset] [(.int hi)]))
  have hlh := own_lohi hlo hhi
  refine own_pre (S' := (T2.setTop (mkF m 14 #[.val (.int i0), .val (.int i1), .val (.int i2), .val (.int i3), .val (.int lo), .val (.int hi), .unset, .unset, .unset, .unset] []))) (fun tt_ kk_ => XS.istore X2.here hx rfl (hb hby at_12) rfl (l' := #[.val (.int i0), .val (.int i1), .val (.int i2), .val (.int i3), .val (.int lo), .val (.int hi), .unset, .unset, .unset, .unset]) rfl kk_) ?_
  obtain ⟨T3, h3, X3, e3, E3, A3, D3, -, st3⟩ := newO X2 hx hZ hown (hw _ (List.mem_of_getElem? (i := 7) rfl)) (hw _ (List.mem_of_getElem? (i := 8) rfl)) (hw _ (List.mem_of_getElem? (i := 9) rfl)) hh2 (g := (mkF m 14 #[.val (.int i0), .val (.int i1), .val (.int i2), .val (.int i3), .val (.int lo), .val (.int hi), .unset, .unset, .unset, .unset] [])) rfl (hb hby at_14) (by decide) (by decide)
  obtain ⟨b3, g3⟩ : ∃ z, z = h0.size := ⟨_, rfl⟩
  rw [← g3] at A3 D3 st3
  have sz_b3 : h0.size ≤ b3 := Nat.le_trans (Nat.le_refl h0.size) (Nat.le_of_eq g3.symm)
  have ge_b3 : n0 ≤ b3 := Nat.le_trans Z0 (Nat.le_of_eq g3.symm)
  have F3_low : Fld Z h3 b3 "com/example/bidsmith/bidsmith/market/Range" "low" "D" (.double (0 : UInt64)) := D3 (Or.inr (hw _ (List.mem_of_getElem? (i := 30) rfl))) (ty := .double) (by decide)
  have F3_high : Fld Z h3 b3 "com/example/bidsmith/bidsmith/market/Range" "high" "D" (.double (0 : UInt64)) := D3 (Or.inr (hw _ (List.mem_of_getElem? (i := 32) rfl))) (ty := .double) (by decide)
  refine own_pre (S' := (T3.setTop (mkF m 17 #[.val (.int i0), .val (.int i1), .val (.int i2), .val (.int i3), .val (.int lo), .val (.int hi), .unset, .unset, .unset, .unset] [(.ref b3)]))) st3 ?_
  refine own_pre (S' := (T3.setTop (mkF m 18 #[.val (.int i0), .val (.int i1), .val (.int i2), .val (.int i3), .val (.int lo), .val (.int hi), .unset, .unset, .unset, .unset] [(.ref b3), (.ref b3)]))) (fun tt_ kk_ => XS.dup X3.here hx rfl (hb hby at_17) rfl rfl kk_) ?_
  refine own_pre (S' := (T3.setTop (mkF m 20 #[.val (.int i0), .val (.int i1), .val (.int i2), .val (.int i3), .val (.int lo), .val (.int hi), .unset, .unset, .unset, .unset] [(.int lo), (.ref b3), (.ref b3)]))) (fun tt_ kk_ => XS.iload X3.here hx rfl (hb hby at_18) rfl kk_) ?_
  refine own_pre (S' := (T3.setTop (mkF m 21 #[.val (.int i0), .val (.int i1), .val (.int i2), .val (.int i3), .val (.int lo), .val (.int hi), .unset, .unset, .unset, .unset] [(.double (FP.i2d lo)), (.ref b3), (.ref b3)]))) (fun tt_ kk_ => XS.i2dS X3.here hx rfl (hb hby at_20) rfl rfl kk_) ?_
  refine own_pre (S' := (T3.setTop (mkF m 23 #[.val (.int i0), .val (.int i1), .val (.int i2), .val (.int i3), .val (.int lo), .val (.int hi), .unset, .unset, .unset, .unset] [(.int hi), (.double (FP.i2d lo)), (.ref b3), (.ref b3)]))) (fun tt_ kk_ => XS.iload X3.here hx rfl (hb hby at_21) rfl kk_) ?_
  refine own_pre (S' := (T3.setTop (mkF m 24 #[.val (.int i0), .val (.int i1), .val (.int i2), .val (.int i3), .val (.int lo), .val (.int hi), .unset, .unset, .unset, .unset] [(.double (FP.i2d hi)), (.double (FP.i2d lo)), (.ref b3), (.ref b3)]))) (fun tt_ kk_ => XS.i2dS X3.here hx rfl (hb hby at_23) rfl rfl kk_) ?_
  refine own_callI (y := (⟨"com/example/bidsmith/bidsmith/market/Range", "<init>", "(DD)V"⟩ : MethodName)) (b := b3) X3 hx hZ hown rfl (hw _ (List.mem_of_getElem? (i := 10) rfl)) (hw _ (List.mem_of_getElem? (i := 11) rfl)) (hw _ (List.mem_of_getElem? (i := 12) rfl)) (hw _ (List.mem_of_getElem? (i := 9) rfl)) (by decide) e3 (hM := own_rgi l Z a0 hw [] b3 lo hi h3 n0 (Nat.le_trans Z0 E3.1) hlh A3 ge_b3 F3_low F3_high) (W := 1) (pc := 24) (Ls := #[.val (.int i0), .val (.int i1), .val (.int i2), .val (.int i3), .val (.int lo), .val (.int hi), .unset, .unset, .unset, .unset]) (argsL := [(.double (FP.i2d lo)), (.double (FP.i2d hi))]) (rest := [(.ref b3)]) (st0 := [(.double (FP.i2d hi)), (.double (FP.i2d lo)), (.ref b3), (.ref b3)]) (by rw [hml]; rfl) (lenOf own_pd4 rfl) rfl (Nat.le_of_eq rfl) (hb hby at_24) (by decide) (by decide) (by decide) (by decide) ?_
  intro v4 T4 L4 X4 hQ4
  obtain ⟨rfl, Nq4, K4, Fl4, Fh4⟩ := hQ4
  have N4 := Fr.app N2 Nq4
  show own_Ends p e below s _ _ _ (T4.setTop (mkF m 27 #[.val (.int i0), .val (.int i1), .val (.int i2), .val (.int i3), .val (.int lo), .val (.int hi), .unset, .unset, .unset, .unset] [(.ref b3)]))
  refine own_pre (S' := (T4.setTop (mkF m 29 #[.val (.int i0), .val (.int i1), .val (.int i2), .val (.int i3), .val (.int lo), .val (.int hi), .val (.ref b3), .unset, .unset, .unset] []))) (fun tt_ kk_ => XS.astore X4.here hx rfl (hb hby at_27) rfl rfl (l' := #[.val (.int i0), .val (.int i1), .val (.int i2), .val (.int i3), .val (.int lo), .val (.int hi), .val (.ref b3), .unset, .unset, .unset]) rfl kk_) ?_
  refine own_pre (S' := (T4.setTop (mkF m 31 #[.val (.int i0), .val (.int i1), .val (.int i2), .val (.int i3), .val (.int lo), .val (.int hi), .val (.ref b3), .unset, .unset, .unset] [(.ref b3)]))) (fun tt_ kk_ => XS.aload X4.here hx rfl (hb hby at_29) rfl rfl kk_) ?_
  refine own_pre (S' := (T4.setTop (mkF m 32 #[.val (.int i0), .val (.int i1), .val (.int i2), .val (.int i3), .val (.int lo), .val (.int hi), .val (.ref b3), .unset, .unset, .unset] [(.int i2), (.ref b3)]))) (fun tt_ kk_ => XS.iloadN X4.here hx rfl (hb hby at_31) rfl kk_) ?_
  refine own_pre (S' := (T4.setTop (mkF m 33 #[.val (.int i0), .val (.int i1), .val (.int i2), .val (.int i3), .val (.int lo), .val (.int hi), .val (.ref b3), .unset, .unset, .unset] [(.double (FP.i2d i2)), (.ref b3)]))) (fun tt_ kk_ => XS.i2dS X4.here hx rfl (hb hby at_32) rfl rfl kk_) ?_
  refine own_pre (S' := (T4.setTop (mkF m 34 #[.val (.int i0), .val (.int i1), .val (.int i2), .val (.int i3), .val (.int lo), .val (.int hi), .val (.ref b3), .unset, .unset, .unset] [(.int i3), (.double (FP.i2d i2)), (.ref b3)]))) (fun tt_ kk_ => XS.iloadN X4.here hx rfl (hb hby at_33) rfl kk_) ?_
  refine own_pre (S' := (T4.setTop (mkF m 35 #[.val (.int i0), .val (.int i1), .val (.int i2), .val (.int i3), .val (.int lo), .val (.int hi), .val (.ref b3), .unset, .unset, .unset] [(.double (FP.i2d i3)), (.double (FP.i2d i2)), (.ref b3)]))) (fun tt_ kk_ => XS.i2dS X4.here hx rfl (hb hby at_34) rfl rfl kk_) ?_
  refine own_callV (C := "com/example/bidsmith/bidsmith/market/Range") (y := (⟨"com/example/bidsmith/bidsmith/market/Range", "within", "(DD)Z"⟩ : MethodName)) (b := b3) X4 hx hZ hown (hw _ (List.mem_of_getElem? (i := 33) rfl)) (hw _ (List.mem_of_getElem? (i := 34) rfl)) (hw _ (List.mem_of_getElem? (i := 36) rfl)) (hw _ (List.mem_of_getElem? (i := 35) rfl)) (hw _ (List.mem_of_getElem? (i := 37) rfl)) (hw _ (List.mem_of_getElem? (i := 9) rfl)) (by decide) (rfl : T4.heap = T4.heap) (A3.keep K4) (hM := own_wit l Z a0 hw [] b3 lo hi i2 i3 T4.heap n0 (Nat.le_trans (Nat.le_trans Z0 E3.1) K4.1) Fl4 Fh4) (W := 0) (pc := 35) (Ls := #[.val (.int i0), .val (.int i1), .val (.int i2), .val (.int i3), .val (.int lo), .val (.int hi), .val (.ref b3), .unset, .unset, .unset]) (argsL := [(.double (FP.i2d i2)), (.double (FP.i2d i3))]) (rest := []) (st0 := [(.double (FP.i2d i3)), (.double (FP.i2d i2)), (.ref b3)]) (by rw [hml]; rfl) (lenOf own_pd5 rfl) rfl (Nat.le_of_eq rfl) (hb hby at_35) (by decide) (by decide) (by decide) (by decide) ?_
  intro v5 T5 L5 X5 hQ5
  obtain ⟨rr, rfl, hrr, Nq5, hh5⟩ := hQ5
  have N5 := Fr.app N4 Nq5
  show own_Ends p e below s _ _ _ (T5.setTop (mkF m 38 #[.val (.int i0), .val (.int i1), .val (.int i2), .val (.int i3), .val (.int lo), .val (.int hi), .val (.ref b3), .unset, .unset, .unset] [(.int rr)]))
  refine own_pre (S' := (T5.setTop (mkF m 40 #[.val (.int i0), .val (.int i1), .val (.int i2), .val (.int i3), .val (.int lo), .val (.int hi), .val (.ref b3), .val (.int rr), .unset, .unset] []))) (fun tt_ kk_ => XS.istore X5.here hx rfl (hb hby at_38) rfl (l' := #[.val (.int i0), .val (.int i1), .val (.int i2), .val (.int i3), .val (.int lo), .val (.int hi), .val (.ref b3), .val (.int rr), .unset, .unset]) rfl kk_) ?_
  refine own_pre (S' := (T5.setTop (mkF m 41 #[.val (.int i0), .val (.int i1), .val (.int i2), .val (.int i3), .val (.int lo), .val (.int hi), .val (.ref b3), .val (.int rr), .unset, .unset] [(.int i2)]))) (fun tt_ kk_ => XS.iloadN X5.here hx rfl (hb hby at_40) rfl kk_) ?_
  refine own_pre (S' := (T5.setTop (mkF m 43 #[.val (.int i0), .val (.int i1), .val (.int i2), .val (.int i3), .val (.int lo), .val (.int hi), .val (.ref b3), .val (.int rr), .unset, .unset] [(.int lo), (.int i2)]))) (fun tt_ kk_ => XS.iload X5.here hx rfl (hb hby at_41) rfl kk_) ?_
  by_cases c43 : lo < i2
  · -- pc 43: lo < i2
    refine own_pre (S' := (T5.setTop (mkF m 56 #[.val (.int i0), .val (.int i1), .val (.int i2), .val (.int i3), .val (.int lo), .val (.int hi), .val (.ref b3), .val (.int rr), .unset, .unset] []))) (fun tt_ kk_ => XS.icmpYes X5.here hx rfl (pc0 := 43) (pc' := 56) rfl (hb hby at_43) rfl (tlt c43).2.2.1 (by decide) (by decide) kk_) ?_
    refine own_pre (S' := (T5.setTop (mkF m 57 #[.val (.int i0), .val (.int i1), .val (.int i2), .val (.int i3), .val (.int lo), .val (.int hi), .val (.ref b3), .val (.int rr), .unset, .unset] [(.int (0 : Int32))]))) (fun tt_ kk_ => XS.iconst X5.here hx rfl (hb hby at_56) kk_) ?_
    refine own_pre (S' := (T5.setTop (mkF m 59 #[.val (.int i0), .val (.int i1), .val (.int i2), .val (.int i3), .val (.int lo), .val (.int hi), .val (.ref b3), .val (.int rr), .val (.int (0 : Int32)), .unset] []))) (fun tt_ kk_ => XS.istore X5.here hx rfl (hb hby at_57) rfl (l' := #[.val (.int i0), .val (.int i1), .val (.int i2), .val (.int i3), .val (.int lo), .val (.int hi), .val (.ref b3), .val (.int rr), .val (.int (0 : Int32)), .unset]) rfl kk_) ?_
    refine own_pre (S' := (T5.setTop (mkF m 60 #[.val (.int i0), .val (.int i1), .val (.int i2), .val (.int i3), .val (.int lo), .val (.int hi), .val (.ref b3), .val (.int rr), .val (.int (0 : Int32)), .unset] [(.int i2)]))) (fun tt_ kk_ => XS.iloadN X5.here hx rfl (hb hby at_59) rfl kk_) ?_
    refine own_pre (S' := (T5.setTop (mkF m 62 #[.val (.int i0), .val (.int i1), .val (.int i2), .val (.int i3), .val (.int lo), .val (.int hi), .val (.ref b3), .val (.int rr), .val (.int (0 : Int32)), .unset] [(.int hi), (.int i2)]))) (fun tt_ kk_ => XS.iload X5.here hx rfl (hb hby at_60) rfl kk_) ?_
    by_cases c62 : hi < i2
    · -- pc 62: hi < i2
      refine own_pre (S' := (T5.setTop (mkF m 75 #[.val (.int i0), .val (.int i1), .val (.int i2), .val (.int i3), .val (.int lo), .val (.int hi), .val (.ref b3), .val (.int rr), .val (.int (0 : Int32)), .unset] []))) (fun tt_ kk_ => XS.icmpYes X5.here hx rfl (pc0 := 62) (pc' := 75) rfl (hb hby at_62) rfl (tlt c62).2.2.1 (by decide) (by decide) kk_) ?_
      refine own_pre (S' := (T5.setTop (mkF m 76 #[.val (.int i0), .val (.int i1), .val (.int i2), .val (.int i3), .val (.int lo), .val (.int hi), .val (.ref b3), .val (.int rr), .val (.int (0 : Int32)), .unset] [(.int (0 : Int32))]))) (fun tt_ kk_ => XS.iconst X5.here hx rfl (hb hby at_75) kk_) ?_
      refine own_pre (S' := (T5.setTop (mkF m 78 #[.val (.int i0), .val (.int i1), .val (.int i2), .val (.int i3), .val (.int lo), .val (.int hi), .val (.ref b3), .val (.int rr), .val (.int (0 : Int32)), .val (.int (0 : Int32))] []))) (fun tt_ kk_ => XS.istore X5.here hx rfl (hb hby at_76) rfl (l' := #[.val (.int i0), .val (.int i1), .val (.int i2), .val (.int i3), .val (.int lo), .val (.int hi), .val (.ref b3), .val (.int rr), .val (.int (0 : Int32)), .val (.int (0 : Int32))]) rfl kk_) ?_
      refine own_pre (S' := (T5.setTop (mkF m 80 #[.val (.int i0), .val (.int i1), .val (.int i2), .val (.int i3), .val (.int lo), .val (.int hi), .val (.ref b3), .val (.int rr), .val (.int (0 : Int32)), .val (.int (0 : Int32))] [(.int rr)]))) (fun tt_ kk_ => XS.iload X5.here hx rfl (hb hby at_78) rfl kk_) ?_
      refine own_pre (S' := (T5.setTop (mkF m 82 #[.val (.int i0), .val (.int i1), .val (.int i2), .val (.int i3), .val (.int lo), .val (.int hi), .val (.ref b3), .val (.int rr), .val (.int (0 : Int32)), .val (.int (0 : Int32))] [(.int (0 : Int32)), (.int rr)]))) (fun tt_ kk_ => XS.iload X5.here hx rfl (hb hby at_80) rfl kk_) ?_
      refine own_pre (S' := (T5.setTop (mkF m 94 #[.val (.int i0), .val (.int i1), .val (.int i2), .val (.int i3), .val (.int lo), .val (.int hi), .val (.ref b3), .val (.int rr), .val (.int (0 : Int32)), .val (.int (0 : Int32))] [(.int rr)]))) (fun tt_ kk_ => XS.ifYes X5.here hx rfl (pc0 := 82) (pc' := 94) rfl (hb hby at_82) rfl ((if0 _ _).trans (teq (by decide : ((0 : Int32) = (0 : Int32)))).1) (by decide) (by decide) kk_) ?_
      refine own_pre (S' := (T5.setTop (mkF m 95 #[.val (.int i0), .val (.int i1), .val (.int i2), .val (.int i3), .val (.int lo), .val (.int hi), .val (.ref b3), .val (.int rr), .val (.int (0 : Int32)), .val (.int (0 : Int32))] [(.int (0 : Int32)), (.int rr)]))) (fun tt_ kk_ => XS.iconst X5.here hx rfl (hb hby at_94) kk_) ?_
      have h95 : rr = (0 : Int32) := by
        simp only [Int32.lt_iff_toInt_lt] at hrr hlh c43 c62
        rcases hrr with ⟨h1, h2⟩ | ⟨h1, h2⟩ <;> first | exact h1 | (exfalso; omega)
      refine own_pre (S' := (T5.setTop (mkF m 98 #[.val (.int i0), .val (.int i1), .val (.int i2), .val (.int i3), .val (.int lo), .val (.int hi), .val (.ref b3), .val (.int rr), .val (.int (0 : Int32)), .val (.int (0 : Int32))] []))) (fun tt_ kk_ => XS.icmpNo X5.here hx rfl (hb hby at_95) rfl (teq h95).2 kk_) ?_
      refine own_pre (S' := (T5.setTop (mkF m 99 #[.val (.int i0), .val (.int i1), .val (.int i2), .val (.int i3), .val (.int lo), .val (.int hi), .val (.ref b3), .val (.int rr), .val (.int (0 : Int32)), .val (.int (0 : Int32))] [(.int (1 : Int32))]))) (fun tt_ kk_ => XS.iconst X5.here hx rfl (hb hby at_98) kk_) ?_
      refine own_pre (S' := (T5.setTop (mkF m 103 #[.val (.int i0), .val (.int i1), .val (.int i2), .val (.int i3), .val (.int lo), .val (.int hi), .val (.ref b3), .val (.int rr), .val (.int (0 : Int32)), .val (.int (0 : Int32))] [(.int (1 : Int32))]))) (fun tt_ kk_ => XS.goto X5.here hx rfl (pc0 := 99) (pc' := 103) rfl (hb hby at_99) (by decide) (by decide) kk_) ?_
      refine own_ret (t := .boolean) X5 hx hlk hrt rfl (Or.inl ⟨rfl, by simp, _, rfl⟩) (hb hby at_103) (by decide) (by decide) ?_
      exact ⟨rfl, N5⟩
    · -- pc 62: not hi < i2
      refine own_pre (S' := (T5.setTop (mkF m 65 #[.val (.int i0), .val (.int i1), .val (.int i2), .val (.int i3), .val (.int lo), .val (.int hi), .val (.ref b3), .val (.int rr), .val (.int (0 : Int32)), .unset] []))) (fun tt_ kk_ => XS.icmpNo X5.here hx rfl (hb hby at_62) rfl (flt c62).2.2.1 kk_) ?_
      refine own_pre (S' := (T5.setTop (mkF m 67 #[.val (.int i0), .val (.int i1), .val (.int i2), .val (.int i3), .val (.int lo), .val (.int hi), .val (.ref b3), .val (.int rr), .val (.int (0 : Int32)), .unset] [(.int hi)]))) (fun tt_ kk_ => XS.iload X5.here hx rfl (hb hby at_65) rfl kk_) ?_
      refine own_pre (S' := (T5.setTop (mkF m 68 #[.val (.int i0), .val (.int i1), .val (.int i2), .val (.int i3), .val (.int lo), .val (.int hi), .val (.ref b3), .val (.int rr), .val (.int (0 : Int32)), .unset] [(.int i3), (.int hi)]))) (fun tt_ kk_ => XS.iloadN X5.here hx rfl (hb hby at_67) rfl kk_) ?_
      by_cases c68 : i3 < hi
      · -- pc 68: i3 < hi
        refine own_pre (S' := (T5.setTop (mkF m 75 #[.val (.int i0), .val (.int i1), .val (.int i2), .val (.int i3), .val (.int lo), .val (.int hi), .val (.ref b3), .val (.int rr), .val (.int (0 : Int32)), .unset] []))) (fun tt_ kk_ => XS.icmpYes X5.here hx rfl (pc0 := 68) (pc' := 75) rfl (hb hby at_68) rfl (tlt c68).2.2.1 (by decide) (by decide) kk_) ?_
        refine own_pre (S' := (T5.setTop (mkF m 76 #[.val (.int i0), .val (.int i1), .val (.int i2), .val (.int i3), .val (.int lo), .val (.int hi), .val (.ref b3), .val (.int rr), .val (.int (0 : Int32)), .unset] [(.int (0 : Int32))]))) (fun tt_ kk_ => XS.iconst X5.here hx rfl (hb hby at_75) kk_) ?_
        refine own_pre (S' := (T5.setTop (mkF m 78 #[.val (.int i0), .val (.int i1), .val (.int i2), .val (.int i3), .val (.int lo), .val (.int hi), .val (.ref b3), .val (.int rr), .val (.int (0 : Int32)), .val (.int (0 : Int32))] []))) (fun tt_ kk_ => XS.istore X5.here hx rfl (hb hby at_76) rfl (l' := #[.val (.int i0), .val (.int i1), .val (.int i2), .val (.int i3), .val (.int lo), .val (.int hi), .val (.ref b3), .val (.int rr), .val (.int (0 : Int32)), .val (.int (0 : Int32))]) rfl kk_) ?_
        refine own_pre (S' := (T5.setTop (mkF m 80 #[.val (.int i0), .val (.int i1), .val (.int i2), .val (.int i3), .val (.int lo), .val (.int hi), .val (.ref b3), .val (.int rr), .val (.int (0 : Int32)), .val (.int (0 : Int32))] [(.int rr)]))) (fun tt_ kk_ => XS.iload X5.here hx rfl (hb hby at_78) rfl kk_) ?_
        refine own_pre (S' := (T5.setTop (mkF m 82 #[.val (.int i0), .val (.int i1), .val (.int i2), .val (.int i3), .val (.int lo), .val (.int hi), .val (.ref b3), .val (.int rr), .val (.int (0 : Int32)), .val (.int (0 : Int32))] [(.int (0 : Int32)), (.int rr)]))) (fun tt_ kk_ => XS.iload X5.here hx rfl (hb hby at_80) rfl kk_) ?_
        refine own_pre (S' := (T5.setTop (mkF m 94 #[.val (.int i0), .val (.int i1), .val (.int i2), .val (.int i3), .val (.int lo), .val (.int hi), .val (.ref b3), .val (.int rr), .val (.int (0 : Int32)), .val (.int (0 : Int32))] [(.int rr)]))) (fun tt_ kk_ => XS.ifYes X5.here hx rfl (pc0 := 82) (pc' := 94) rfl (hb hby at_82) rfl ((if0 _ _).trans (teq (by decide : ((0 : Int32) = (0 : Int32)))).1) (by decide) (by decide) kk_) ?_
        refine own_pre (S' := (T5.setTop (mkF m 95 #[.val (.int i0), .val (.int i1), .val (.int i2), .val (.int i3), .val (.int lo), .val (.int hi), .val (.ref b3), .val (.int rr), .val (.int (0 : Int32)), .val (.int (0 : Int32))] [(.int (0 : Int32)), (.int rr)]))) (fun tt_ kk_ => XS.iconst X5.here hx rfl (hb hby at_94) kk_) ?_
        have h95 : rr = (0 : Int32) := by
          simp only [Int32.lt_iff_toInt_lt] at hrr hlh c43 c62 c68
          rcases hrr with ⟨h1, h2⟩ | ⟨h1, h2⟩ <;> first | exact h1 | (exfalso; omega)
        refine own_pre (S' := (T5.setTop (mkF m 98 #[.val (.int i0), .val (.int i1), .val (.int i2), .val (.int i3), .val (.int lo), .val (.int hi), .val (.ref b3), .val (.int rr), .val (.int (0 : Int32)), .val (.int (0 : Int32))] []))) (fun tt_ kk_ => XS.icmpNo X5.here hx rfl (hb hby at_95) rfl (teq h95).2 kk_) ?_
        refine own_pre (S' := (T5.setTop (mkF m 99 #[.val (.int i0), .val (.int i1), .val (.int i2), .val (.int i3), .val (.int lo), .val (.int hi), .val (.ref b3), .val (.int rr), .val (.int (0 : Int32)), .val (.int (0 : Int32))] [(.int (1 : Int32))]))) (fun tt_ kk_ => XS.iconst X5.here hx rfl (hb hby at_98) kk_) ?_
        refine own_pre (S' := (T5.setTop (mkF m 103 #[.val (.int i0), .val (.int i1), .val (.int i2), .val (.int i3), .val (.int lo), .val (.int hi), .val (.ref b3), .val (.int rr), .val (.int (0 : Int32)), .val (.int (0 : Int32))] [(.int (1 : Int32))]))) (fun tt_ kk_ => XS.goto X5.here hx rfl (pc0 := 99) (pc' := 103) rfl (hb hby at_99) (by decide) (by decide) kk_) ?_
        refine own_ret (t := .boolean) X5 hx hlk hrt rfl (Or.inl ⟨rfl, by simp, _, rfl⟩) (hb hby at_103) (by decide) (by decide) ?_
        exact ⟨rfl, N5⟩
      · -- pc 68: not i3 < hi
        refine own_pre (S' := (T5.setTop (mkF m 71 #[.val (.int i0), .val (.int i1), .val (.int i2), .val (.int i3), .val (.int lo), .val (.int hi), .val (.ref b3), .val (.int rr), .val (.int (0 : Int32)), .unset] []))) (fun tt_ kk_ => XS.icmpNo X5.here hx rfl (hb hby at_68) rfl (flt c68).2.2.1 kk_) ?_
        refine own_pre (S' := (T5.setTop (mkF m 72 #[.val (.int i0), .val (.int i1), .val (.int i2), .val (.int i3), .val (.int lo), .val (.int hi), .val (.ref b3), .val (.int rr), .val (.int (0 : Int32)), .unset] [(.int (1 : Int32))]))) (fun tt_ kk_ => XS.iconst X5.here hx rfl (hb hby at_71) kk_) ?_
        refine own_pre (S' := (T5.setTop (mkF m 76 #[.val (.int i0), .val (.int i1), .val (.int i2), .val (.int i3), .val (.int lo), .val (.int hi), .val (.ref b3), .val (.int rr), .val (.int (0 : Int32)), .unset] [(.int (1 : Int32))]))) (fun tt_ kk_ => XS.goto X5.here hx rfl (pc0 := 72) (pc' := 76) rfl (hb hby at_72) (by decide) (by decide) kk_) ?_
        refine own_pre (S' := (T5.setTop (mkF m 78 #[.val (.int i0), .val (.int i1), .val (.int i2), .val (.int i3), .val (.int lo), .val (.int hi), .val (.ref b3), .val (.int rr), .val (.int (0 : Int32)), .val (.int (1 : Int32))] []))) (fun tt_ kk_ => XS.istore X5.here hx rfl (hb hby at_76) rfl (l' := #[.val (.int i0), .val (.int i1), .val (.int i2), .val (.int i3), .val (.int lo), .val (.int hi), .val (.ref b3), .val (.int rr), .val (.int (0 : Int32)), .val (.int (1 : Int32))]) rfl kk_) ?_
        refine own_pre (S' := (T5.setTop (mkF m 80 #[.val (.int i0), .val (.int i1), .val (.int i2), .val (.int i3), .val (.int lo), .val (.int hi), .val (.ref b3), .val (.int rr), .val (.int (0 : Int32)), .val (.int (1 : Int32))] [(.int rr)]))) (fun tt_ kk_ => XS.iload X5.here hx rfl (hb hby at_78) rfl kk_) ?_
        refine own_pre (S' := (T5.setTop (mkF m 82 #[.val (.int i0), .val (.int i1), .val (.int i2), .val (.int i3), .val (.int lo), .val (.int hi), .val (.ref b3), .val (.int rr), .val (.int (0 : Int32)), .val (.int (1 : Int32))] [(.int (0 : Int32)), (.int rr)]))) (fun tt_ kk_ => XS.iload X5.here hx rfl (hb hby at_80) rfl kk_) ?_
        refine own_pre (S' := (T5.setTop (mkF m 94 #[.val (.int i0), .val (.int i1), .val (.int i2), .val (.int i3), .val (.int lo), .val (.int hi), .val (.ref b3), .val (.int rr), .val (.int (0 : Int32)), .val (.int (1 : Int32))] [(.int rr)]))) (fun tt_ kk_ => XS.ifYes X5.here hx rfl (pc0 := 82) (pc' := 94) rfl (hb hby at_82) rfl ((if0 _ _).trans (teq (by decide : ((0 : Int32) = (0 : Int32)))).1) (by decide) (by decide) kk_) ?_
        refine own_pre (S' := (T5.setTop (mkF m 95 #[.val (.int i0), .val (.int i1), .val (.int i2), .val (.int i3), .val (.int lo), .val (.int hi), .val (.ref b3), .val (.int rr), .val (.int (0 : Int32)), .val (.int (1 : Int32))] [(.int (0 : Int32)), (.int rr)]))) (fun tt_ kk_ => XS.iconst X5.here hx rfl (hb hby at_94) kk_) ?_
        have h95 : rr = (0 : Int32) := by
          simp only [Int32.lt_iff_toInt_lt] at hrr hlh c43 c62 c68
          rcases hrr with ⟨h1, h2⟩ | ⟨h1, h2⟩ <;> first | exact h1 | (exfalso; omega)
        refine own_pre (S' := (T5.setTop (mkF m 98 #[.val (.int i0), .val (.int i1), .val (.int i2), .val (.int i3), .val (.int lo), .val (.int hi), .val (.ref b3), .val (.int rr), .val (.int (0 : Int32)), .val (.int (1 : Int32))] []))) (fun tt_ kk_ => XS.icmpNo X5.here hx rfl (hb hby at_95) rfl (teq h95).2 kk_) ?_
        refine own_pre (S' := (T5.setTop (mkF m 99 #[.val (.int i0), .val (.int i1), .val (.int i2), .val (.int i3), .val (.int lo), .val (.int hi), .val (.ref b3), .val (.int rr), .val (.int (0 : Int32)), .val (.int (1 : Int32))] [(.int (1 : Int32))]))) (fun tt_ kk_ => XS.iconst X5.here hx rfl (hb hby at_98) kk_) ?_
        refine own_pre (S' := (T5.setTop (mkF m 103 #[.val (.int i0), .val (.int i1), .val (.int i2), .val (.int i3), .val (.int lo), .val (.int hi), .val (.ref b3), .val (.int rr), .val (.int (0 : Int32)), .val (.int (1 : Int32))] [(.int (1 : Int32))]))) (fun tt_ kk_ => XS.goto X5.here hx rfl (pc0 := 99) (pc' := 103) rfl (hb hby at_99) (by decide) (by decide) kk_) ?_
        refine own_ret (t := .boolean) X5 hx hlk hrt rfl (Or.inl ⟨rfl, by simp, _, rfl⟩) (hb hby at_103) (by decide) (by decide) ?_
        exact ⟨rfl, N5⟩
  · -- pc 43: not lo < i2
    refine own_pre (S' := (T5.setTop (mkF m 46 #[.val (.int i0), .val (.int i1), .val (.int i2), .val (.int i3), .val (.int lo), .val (.int hi), .val (.ref b3), .val (.int rr), .unset, .unset] []))) (fun tt_ kk_ => XS.icmpNo X5.here hx rfl (hb hby at_43) rfl (flt c43).2.2.1 kk_) ?_
    refine own_pre (S' := (T5.setTop (mkF m 48 #[.val (.int i0), .val (.int i1), .val (.int i2), .val (.int i3), .val (.int lo), .val (.int hi), .val (.ref b3), .val (.int rr), .unset, .unset] [(.int lo)]))) (fun tt_ kk_ => XS.iload X5.here hx rfl (hb hby at_46) rfl kk_) ?_
    refine own_pre (S' := (T5.setTop (mkF m 49 #[.val (.int i0), .val (.int i1), .val (.int i2), .val (.int i3), .val (.int lo), .val (.int hi), .val (.ref b3), .val (.int rr), .unset, .unset] [(.int i3), (.int lo)]))) (fun tt_ kk_ => XS.iloadN X5.here hx rfl (hb hby at_48) rfl kk_) ?_
    by_cases c49 : i3 < lo
    · -- pc 49: i3 < lo
      refine own_pre (S' := (T5.setTop (mkF m 56 #[.val (.int i0), .val (.int i1), .val (.int i2), .val (.int i3), .val (.int lo), .val (.int hi), .val (.ref b3), .val (.int rr), .unset, .unset] []))) (fun tt_ kk_ => XS.icmpYes X5.here hx rfl (pc0 := 49) (pc' := 56) rfl (hb hby at_49) rfl (tlt c49).2.2.1 (by decide) (by decide) kk_) ?_
      refine own_pre (S' := (T5.setTop (mkF m 57 #[.val (.int i0), .val (.int i1), .val (.int i2), .val (.int i3), .val (.int lo), .val (.int hi), .val (.ref b3), .val (.int rr), .unset, .unset] [(.int (0 : Int32))]))) (fun tt_ kk_ => XS.iconst X5.here hx rfl (hb hby at_56) kk_) ?_
      refine own_pre (S' := (T5.setTop (mkF m 59 #[.val (.int i0), .val (.int i1), .val (.int i2), .val (.int i3), .val (.int lo), .val (.int hi), .val (.ref b3), .val (.int rr), .val (.int (0 : Int32)), .unset] []))) (fun tt_ kk_ => XS.istore X5.here hx rfl (hb hby at_57) rfl (l' := #[.val (.int i0), .val (.int i1), .val (.int i2), .val (.int i3), .val (.int lo), .val (.int hi), .val (.ref b3), .val (.int rr), .val (.int (0 : Int32)), .unset]) rfl kk_) ?_
      refine own_pre (S' := (T5.setTop (mkF m 60 #[.val (.int i0), .val (.int i1), .val (.int i2), .val (.int i3), .val (.int lo), .val (.int hi), .val (.ref b3), .val (.int rr), .val (.int (0 : Int32)), .unset] [(.int i2)]))) (fun tt_ kk_ => XS.iloadN X5.here hx rfl (hb hby at_59) rfl kk_) ?_
      refine own_pre (S' := (T5.setTop (mkF m 62 #[.val (.int i0), .val (.int i1), .val (.int i2), .val (.int i3), .val (.int lo), .val (.int hi), .val (.ref b3), .val (.int rr), .val (.int (0 : Int32)), .unset] [(.int hi), (.int i2)]))) (fun tt_ kk_ => XS.iload X5.here hx rfl (hb hby at_60) rfl kk_) ?_
      by_cases c62 : hi < i2
      · -- pc 62: hi < i2
        refine own_pre (S' := (T5.setTop (mkF m 75 #[.val (.int i0), .val (.int i1), .val (.int i2), .val (.int i3), .val (.int lo), .val (.int hi), .val (.ref b3), .val (.int rr), .val (.int (0 : Int32)), .unset] []))) (fun tt_ kk_ => XS.icmpYes X5.here hx rfl (pc0 := 62) (pc' := 75) rfl (hb hby at_62) rfl (tlt c62).2.2.1 (by decide) (by decide) kk_) ?_
        refine own_pre (S' := (T5.setTop (mkF m 76 #[.val (.int i0), .val (.int i1), .val (.int i2), .val (.int i3), .val (.int lo), .val (.int hi), .val (.ref b3), .val (.int rr), .val (.int (0 : Int32)), .unset] [(.int (0 : Int32))]))) (fun tt_ kk_ => XS.iconst X5.here hx rfl (hb hby at_75) kk_) ?_
        refine own_pre (S' := (T5.setTop (mkF m 78 #[.val (.int i0), .val (.int i1), .val (.int i2), .val (.int i3), .val (.int lo), .val (.int hi), .val (.ref b3), .val (.int rr), .val (.int (0 : Int32)), .val (.int (0 : Int32))] []))) (fun tt_ kk_ => XS.istore X5.here hx rfl (hb hby at_76) rfl (l' := #[.val (.int i0), .val (.int i1), .val (.int i2), .val (.int i3), .val (.int lo), .val (.int hi), .val (.ref b3), .val (.int rr), .val (.int (0 : Int32)), .val (.int (0 : Int32))]) rfl kk_) ?_
        refine own_pre (S' := (T5.setTop (mkF m 80 #[.val (.int i0), .val (.int i1), .val (.int i2), .val (.int i3), .val (.int lo), .val (.int hi), .val (.ref b3), .val (.int rr), .val (.int (0 : Int32)), .val (.int (0 : Int32))] [(.int rr)]))) (fun tt_ kk_ => XS.iload X5.here hx rfl (hb hby at_78) rfl kk_) ?_
        refine own_pre (S' := (T5.setTop (mkF m 82 #[.val (.int i0), .val (.int i1), .val (.int i2), .val (.int i3), .val (.int lo), .val (.int hi), .val (.ref b3), .val (.int rr), .val (.int (0 : Int32)), .val (.int (0 : Int32))] [(.int (0 : Int32)), (.int rr)]))) (fun tt_ kk_ => XS.iload X5.here hx rfl (hb hby at_80) rfl kk_) ?_
        refine own_pre (S' := (T5.setTop (mkF m 94 #[.val (.int i0), .val (.int i1), .val (.int i2), .val (.int i3), .val (.int lo), .val (.int hi), .val (.ref b3), .val (.int rr), .val (.int (0 : Int32)), .val (.int (0 : Int32))] [(.int rr)]))) (fun tt_ kk_ => XS.ifYes X5.here hx rfl (pc0 := 82) (pc' := 94) rfl (hb hby at_82) rfl ((if0 _ _).trans (teq (by decide : ((0 : Int32) = (0 : Int32)))).1) (by decide) (by decide) kk_) ?_
        refine own_pre (S' := (T5.setTop (mkF m 95 #[.val (.int i0), .val (.int i1), .val (.int i2), .val (.int i3), .val (.int lo), .val (.int hi), .val (.ref b3), .val (.int rr), .val (.int (0 : Int32)), .val (.int (0 : Int32))] [(.int (0 : Int32)), (.int rr)]))) (fun tt_ kk_ => XS.iconst X5.here hx rfl (hb hby at_94) kk_) ?_
        have h95 : rr = (0 : Int32) := by
          simp only [Int32.lt_iff_toInt_lt] at hrr hlh c43 c49 c62
          rcases hrr with ⟨h1, h2⟩ | ⟨h1, h2⟩ <;> first | exact h1 | (exfalso; omega)
        refine own_pre (S' := (T5.setTop (mkF m 98 #[.val (.int i0), .val (.int i1), .val (.int i2), .val (.int i3), .val (.int lo), .val (.int hi), .val (.ref b3), .val (.int rr), .val (.int (0 : Int32)), .val (.int (0 : Int32))] []))) (fun tt_ kk_ => XS.icmpNo X5.here hx rfl (hb hby at_95) rfl (teq h95).2 kk_) ?_
        refine own_pre (S' := (T5.setTop (mkF m 99 #[.val (.int i0), .val (.int i1), .val (.int i2), .val (.int i3), .val (.int lo), .val (.int hi), .val (.ref b3), .val (.int rr), .val (.int (0 : Int32)), .val (.int (0 : Int32))] [(.int (1 : Int32))]))) (fun tt_ kk_ => XS.iconst X5.here hx rfl (hb hby at_98) kk_) ?_
        refine own_pre (S' := (T5.setTop (mkF m 103 #[.val (.int i0), .val (.int i1), .val (.int i2), .val (.int i3), .val (.int lo), .val (.int hi), .val (.ref b3), .val (.int rr), .val (.int (0 : Int32)), .val (.int (0 : Int32))] [(.int (1 : Int32))]))) (fun tt_ kk_ => XS.goto X5.here hx rfl (pc0 := 99) (pc' := 103) rfl (hb hby at_99) (by decide) (by decide) kk_) ?_
        refine own_ret (t := .boolean) X5 hx hlk hrt rfl (Or.inl ⟨rfl, by simp, _, rfl⟩) (hb hby at_103) (by decide) (by decide) ?_
        exact ⟨rfl, N5⟩
      · -- pc 62: not hi < i2
        refine own_pre (S' := (T5.setTop (mkF m 65 #[.val (.int i0), .val (.int i1), .val (.int i2), .val (.int i3), .val (.int lo), .val (.int hi), .val (.ref b3), .val (.int rr), .val (.int (0 : Int32)), .unset] []))) (fun tt_ kk_ => XS.icmpNo X5.here hx rfl (hb hby at_62) rfl (flt c62).2.2.1 kk_) ?_
        refine own_pre (S' := (T5.setTop (mkF m 67 #[.val (.int i0), .val (.int i1), .val (.int i2), .val (.int i3), .val (.int lo), .val (.int hi), .val (.ref b3), .val (.int rr), .val (.int (0 : Int32)), .unset] [(.int hi)]))) (fun tt_ kk_ => XS.iload X5.here hx rfl (hb hby at_65) rfl kk_) ?_
        refine own_pre (S' := (T5.setTop (mkF m 68 #[.val (.int i0), .val (.int i1), .val (.int i2), .val (.int i3), .val (.int lo), .val (.int hi), .val (.ref b3), .val (.int rr), .val (.int (0 : Int32)), .unset] [(.int i3), (.int hi)]))) (fun tt_ kk_ => XS.iloadN X5.here hx rfl (hb hby at_67) rfl kk_) ?_
        by_cases c68 : i3 < hi
        · -- pc 68: i3 < hi
          refine own_pre (S' := (T5.setTop (mkF m 75 #[.val (.int i0), .val (.int i1), .val (.int i2), .val (.int i3), .val (.int lo), .val (.int hi), .val (.ref b3), .val (.int rr), .val (.int (0 : Int32)), .unset] []))) (fun tt_ kk_ => XS.icmpYes X5.here hx rfl (pc0 := 68) (pc' := 75) rfl (hb hby at_68) rfl (tlt c68).2.2.1 (by decide) (by decide) kk_) ?_
          refine own_pre (S' := (T5.setTop (mkF m 76 #[.val (.int i0), .val (.int i1), .val (.int i2), .val (.int i3), .val (.int lo), .val (.int hi), .val (.ref b3), .val (.int rr), .val (.int (0 : Int32)), .unset] [(.int (0 : Int32))]))) (fun tt_ kk_ => XS.iconst X5.here hx rfl (hb hby at_75) kk_) ?_
          refine own_pre (S' := (T5.setTop (mkF m 78 #[.val (.int i0), .val (.int i1), .val (.int i2), .val (.int i3), .val (.int lo), .val (.int hi), .val (.ref b3), .val (.int rr), .val (.int (0 : Int32)), .val (.int (0 : Int32))] []))) (fun tt_ kk_ => XS.istore X5.here hx rfl (hb hby at_76) rfl (l' := #[.val (.int i0), .val (.int i1), .val (.int i2), .val (.int i3), .val (.int lo), .val (.int hi), .val (.ref b3), .val (.int rr), .val (.int (0 : Int32)), .val (.int (0 : Int32))]) rfl kk_) ?_
          refine own_pre (S' := (T5.setTop (mkF m 80 #[.val (.int i0), .val (.int i1), .val (.int i2), .val (.int i3), .val (.int lo), .val (.int hi), .val (.ref b3), .val (.int rr), .val (.int (0 : Int32)), .val (.int (0 : Int32))] [(.int rr)]))) (fun tt_ kk_ => XS.iload X5.here hx rfl (hb hby at_78) rfl kk_) ?_
          refine own_pre (S' := (T5.setTop (mkF m 82 #[.val (.int i0), .val (.int i1), .val (.int i2), .val (.int i3), .val (.int lo), .val (.int hi), .val (.ref b3), .val (.int rr), .val (.int (0 : Int32)), .val (.int (0 : Int32))] [(.int (0 : Int32)), (.int rr)]))) (fun tt_ kk_ => XS.iload X5.here hx rfl (hb hby at_80) rfl kk_) ?_
          refine own_pre (S' := (T5.setTop (mkF m 94 #[.val (.int i0), .val (.int i1), .val (.int i2), .val (.int i3), .val (.int lo), .val (.int hi), .val (.ref b3), .val (.int rr), .val (.int (0 : Int32)), .val (.int (0 : Int32))] [(.int rr)]))) (fun tt_ kk_ => XS.ifYes X5.here hx rfl (pc0 := 82) (pc' := 94) rfl (hb hby at_82) rfl ((if0 _ _).trans (teq (by decide : ((0 : Int32) = (0 : Int32)))).1) (by decide) (by decide) kk_) ?_
          refine own_pre (S' := (T5.setTop (mkF m 95 #[.val (.int i0), .val (.int i1), .val (.int i2), .val (.int i3), .val (.int lo), .val (.int hi), .val (.ref b3), .val (.int rr), .val (.int (0 : Int32)), .val (.int (0 : Int32))] [(.int (0 : Int32)), (.int rr)]))) (fun tt_ kk_ => XS.iconst X5.here hx rfl (hb hby at_94) kk_) ?_
          have h95 : rr = (0 : Int32) := by
            simp only [Int32.lt_iff_toInt_lt] at hrr hlh c43 c49 c62 c68
            rcases hrr with ⟨h1, h2⟩ | ⟨h1, h2⟩ <;> first | exact h1 | (exfalso; omega)
          refine own_pre (S' := (T5.setTop (mkF m 98 #[.val (.int i0), .val (.int i1), .val (.int i2), .val (.int i3), .val (.int lo), .val (.int hi), .val (.ref b3), .val (.int rr), .val (.int (0 : Int32)), .val (.int (0 : Int32))] []))) (fun tt_ kk_ => XS.icmpNo X5.here hx rfl (hb hby at_95) rfl (teq h95).2 kk_) ?_
          refine own_pre (S' := (T5.setTop (mkF m 99 #[.val (.int i0), .val (.int i1), .val (.int i2), .val (.int i3), .val (.int lo), .val (.int hi), .val (.ref b3), .val (.int rr), .val (.int (0 : Int32)), .val (.int (0 : Int32))] [(.int (1 : Int32))]))) (fun tt_ kk_ => XS.iconst X5.here hx rfl (hb hby at_98) kk_) ?_
          refine own_pre (S' := (T5.setTop (mkF m 103 #[.val (.int i0), .val (.int i1), .val (.int i2), .val (.int i3), .val (.int lo), .val (.int hi), .val (.ref b3), .val (.int rr), .val (.int (0 : Int32)), .val (.int (0 : Int32))] [(.int (1 : Int32))]))) (fun tt_ kk_ => XS.goto X5.here hx rfl (pc0 := 99) (pc' := 103) rfl (hb hby at_99) (by decide) (by decide) kk_) ?_
          refine own_ret (t := .boolean) X5 hx hlk hrt rfl (Or.inl ⟨rfl, by simp, _, rfl⟩) (hb hby at_103) (by decide) (by decide) ?_
          exact ⟨rfl, N5⟩
        · -- pc 68: not i3 < hi
          refine own_pre (S' := (T5.setTop (mkF m 71 #[.val (.int i0), .val (.int i1), .val (.int i2), .val (.int i3), .val (.int lo), .val (.int hi), .val (.ref b3), .val (.int rr), .val (.int (0 : Int32)), .unset] []))) (fun tt_ kk_ => XS.icmpNo X5.here hx rfl (hb hby at_68) rfl (flt c68).2.2.1 kk_) ?_
          refine own_pre (S' := (T5.setTop (mkF m 72 #[.val (.int i0), .val (.int i1), .val (.int i2), .val (.int i3), .val (.int lo), .val (.int hi), .val (.ref b3), .val (.int rr), .val (.int (0 : Int32)), .unset] [(.int (1 : Int32))]))) (fun tt_ kk_ => XS.iconst X5.here hx rfl (hb hby at_71) kk_) ?_
          refine own_pre (S' := (T5.setTop (mkF m 76 #[.val (.int i0), .val (.int i1), .val (.int i2), .val (.int i3), .val (.int lo), .val (.int hi), .val (.ref b3), .val (.int rr), .val (.int (0 : Int32)), .unset] [(.int (1 : Int32))]))) (fun tt_ kk_ => XS.goto X5.here hx rfl (pc0 := 72) (pc' := 76) rfl (hb hby at_72) (by decide) (by decide) kk_) ?_
          refine own_pre (S' := (T5.setTop (mkF m 78 #[.val (.int i0), .val (.int i1), .val (.int i2), .val (.int i3), .val (.int lo), .val (.int hi), .val (.ref b3), .val (.int rr), .val (.int (0 : Int32)), .val (.int (1 : Int32))] []))) (fun tt_ kk_ => XS.istore X5.here hx rfl (hb hby at_76) rfl (l' := #[.val (.int i0), .val (.int i1), .val (.int i2), .val (.int i3), .val (.int lo), .val (.int hi), .val (.ref b3), .val (.int rr), .val (.int (0 : Int32)), .val (.int (1 : Int32))]) rfl kk_) ?_
          refine own_pre (S' := (T5.setTop (mkF m 80 #[.val (.int i0), .val (.int i1), .val (.int i2), .val (.int i3), .val (.int lo), .val (.int hi), .val (.ref b3), .val (.int rr), .val (.int (0 : Int32)), .val (.int (1 : Int32))] [(.int rr)]))) (fun tt_ kk_ => XS.iload X5.here hx rfl (hb hby at_78) rfl kk_) ?_
          refine own_pre (S' := (T5.setTop (mkF m 82 #[.val (.int i0), .val (.int i1), .val (.int i2), .val (.int i3), .val (.int lo), .val (.int hi), .val (.ref b3), .val (.int rr), .val (.int (0 : Int32)), .val (.int (1 : Int32))] [(.int (0 : Int32)), (.int rr)]))) (fun tt_ kk_ => XS.iload X5.here hx rfl (hb hby at_80) rfl kk_) ?_
          refine own_pre (S' := (T5.setTop (mkF m 94 #[.val (.int i0), .val (.int i1), .val (.int i2), .val (.int i3), .val (.int lo), .val (.int hi), .val (.ref b3), .val (.int rr), .val (.int (0 : Int32)), .val (.int (1 : Int32))] [(.int rr)]))) (fun tt_ kk_ => XS.ifYes X5.here hx rfl (pc0 := 82) (pc' := 94) rfl (hb hby at_82) rfl ((if0 _ _).trans (teq (by decide : ((0 : Int32) = (0 : Int32)))).1) (by decide) (by decide) kk_) ?_
          refine own_pre (S' := (T5.setTop (mkF m 95 #[.val (.int i0), .val (.int i1), .val (.int i2), .val (.int i3), .val (.int lo), .val (.int hi), .val (.ref b3), .val (.int rr), .val (.int (0 : Int32)), .val (.int (1 : Int32))] [(.int (0 : Int32)), (.int rr)]))) (fun tt_ kk_ => XS.iconst X5.here hx rfl (hb hby at_94) kk_) ?_
          have h95 : rr = (0 : Int32) := by
            simp only [Int32.lt_iff_toInt_lt] at hrr hlh c43 c49 c62 c68
            rcases hrr with ⟨h1, h2⟩ | ⟨h1, h2⟩ <;> first | exact h1 | (exfalso; omega)
          refine own_pre (S' := (T5.setTop (mkF m 98 #[.val (.int i0), .val (.int i1), .val (.int i2), .val (.int i3), .val (.int lo), .val (.int hi), .val (.ref b3), .val (.int rr), .val (.int (0 : Int32)), .val (.int (1 : Int32))] []))) (fun tt_ kk_ => XS.icmpNo X5.here hx rfl (hb hby at_95) rfl (teq h95).2 kk_) ?_
          refine own_pre (S' := (T5.setTop (mkF m 99 #[.val (.int i0), .val (.int i1), .val (.int i2), .val (.int i3), .val (.int lo), .val (.int hi), .val (.ref b3), .val (.int rr), .val (.int (0 : Int32)), .val (.int (1 : Int32))] [(.int (1 : Int32))]))) (fun tt_ kk_ => XS.iconst X5.here hx rfl (hb hby at_98) kk_) ?_
          refine own_pre (S' := (T5.setTop (mkF m 103 #[.val (.int i0), .val (.int i1), .val (.int i2), .val (.int i3), .val (.int lo), .val (.int hi), .val (.ref b3), .val (.int rr), .val (.int (0 : Int32)), .val (.int (1 : Int32))] [(.int (1 : Int32))]))) (fun tt_ kk_ => XS.goto X5.here hx rfl (pc0 := 99) (pc' := 103) rfl (hb hby at_99) (by decide) (by decide) kk_) ?_
          refine own_ret (t := .boolean) X5 hx hlk hrt rfl (Or.inl ⟨rfl, by simp, _, rfl⟩) (hb hby at_103) (by decide) (by decide) ?_
          exact ⟨rfl, N5⟩
    · -- pc 49: not i3 < lo
      refine own_pre (S' := (T5.setTop (mkF m 52 #[.val (.int i0), .val (.int i1), .val (.int i2), .val (.int i3), .val (.int lo), .val (.int hi), .val (.ref b3), .val (.int rr), .unset, .unset] []))) (fun tt_ kk_ => XS.icmpNo X5.here hx rfl (hb hby at_49) rfl (flt c49).2.2.1 kk_) ?_
      refine own_pre (S' := (T5.setTop (mkF m 53 #[.val (.int i0), .val (.int i1), .val (.int i2), .val (.int i3), .val (.int lo), .val (.int hi), .val (.ref b3), .val (.int rr), .unset, .unset] [(.int (1 : Int32))]))) (fun tt_ kk_ => XS.iconst X5.here hx rfl (hb hby at_52) kk_) ?_
      refine own_pre (S' := (T5.setTop (mkF m 57 #[.val (.int i0), .val (.int i1), .val (.int i2), .val (.int i3), .val (.int lo), .val (.int hi), .val (.ref b3), .val (.int rr), .unset, .unset] [(.int (1 : Int32))]))) (fun tt_ kk_ => XS.goto X5.here hx rfl (pc0 := 53) (pc' := 57) rfl (hb hby at_53) (by decide) (by decide) kk_) ?_
      refine own_pre (S' := (T5.setTop (mkF m 59 #[.val (.int i0), .val (.int i1), .val (.int i2), .val (.int i3), .val (.int lo), .val (.int hi), .val (.ref b3), .val (.int rr), .val (.int (1 : Int32)), .unset] []))) (fun tt_ kk_ => XS.istore X5.here hx rfl (hb hby at_57) rfl (l' := #[.val (.int i0), .val (.int i1), .val (.int i2), .val (.int i3), .val (.int lo), .val (.int hi), .val (.ref b3), .val (.int rr), .val (.int (1 : Int32)), .unset]) rfl kk_) ?_
      refine own_pre (S' := (T5.setTop (mkF m 60 #[.val (.int i0), .val (.int i1), .val (.int i2), .val (.int i3), .val (.int lo), .val (.int hi), .val (.ref b3), .val (.int rr), .val (.int (1 : Int32)), .unset] [(.int i2)]))) (fun tt_ kk_ => XS.iloadN X5.here hx rfl (hb hby at_59) rfl kk_) ?_
      refine own_pre (S' := (T5.setTop (mkF m 62 #[.val (.int i0), .val (.int i1), .val (.int i2), .val (.int i3), .val (.int lo), .val (.int hi), .val (.ref b3), .val (.int rr), .val (.int (1 : Int32)), .unset] [(.int hi), (.int i2)]))) (fun tt_ kk_ => XS.iload X5.here hx rfl (hb hby at_60) rfl kk_) ?_
      by_cases c62 : hi < i2
      · -- pc 62: hi < i2
        refine own_pre (S' := (T5.setTop (mkF m 75 #[.val (.int i0), .val (.int i1), .val (.int i2), .val (.int i3), .val (.int lo), .val (.int hi), .val (.ref b3), .val (.int rr), .val (.int (1 : Int32)), .unset] []))) (fun tt_ kk_ => XS.icmpYes X5.here hx rfl (pc0 := 62) (pc' := 75) rfl (hb hby at_62) rfl (tlt c62).2.2.1 (by decide) (by decide) kk_) ?_
        refine own_pre (S' := (T5.setTop (mkF m 76 #[.val (.int i0), .val (.int i1), .val (.int i2), .val (.int i3), .val (.int lo), .val (.int hi), .val (.ref b3), .val (.int rr), .val (.int (1 : Int32)), .unset] [(.int (0 : Int32))]))) (fun tt_ kk_ => XS.iconst X5.here hx rfl (hb hby at_75) kk_) ?_
        refine own_pre (S' := (T5.setTop (mkF m 78 #[.val (.int i0), .val (.int i1), .val (.int i2), .val (.int i3), .val (.int lo), .val (.int hi), .val (.ref b3), .val (.int rr), .val (.int (1 : Int32)), .val (.int (0 : Int32))] []))) (fun tt_ kk_ => XS.istore X5.here hx rfl (hb hby at_76) rfl (l' := #[.val (.int i0), .val (.int i1), .val (.int i2), .val (.int i3), .val (.int lo), .val (.int hi), .val (.ref b3), .val (.int rr), .val (.int (1 : Int32)), .val (.int (0 : Int32))]) rfl kk_) ?_
        refine own_pre (S' := (T5.setTop (mkF m 80 #[.val (.int i0), .val (.int i1), .val (.int i2), .val (.int i3), .val (.int lo), .val (.int hi), .val (.ref b3), .val (.int rr), .val (.int (1 : Int32)), .val (.int (0 : Int32))] [(.int rr)]))) (fun tt_ kk_ => XS.iload X5.here hx rfl (hb hby at_78) rfl kk_) ?_
        refine own_pre (S' := (T5.setTop (mkF m 82 #[.val (.int i0), .val (.int i1), .val (.int i2), .val (.int i3), .val (.int lo), .val (.int hi), .val (.ref b3), .val (.int rr), .val (.int (1 : Int32)), .val (.int (0 : Int32))] [(.int (1 : Int32)), (.int rr)]))) (fun tt_ kk_ => XS.iload X5.here hx rfl (hb hby at_80) rfl kk_) ?_
        refine own_pre (S' := (T5.setTop (mkF m 85 #[.val (.int i0), .val (.int i1), .val (.int i2), .val (.int i3), .val (.int lo), .val (.int hi), .val (.ref b3), .val (.int rr), .val (.int (1 : Int32)), .val (.int (0 : Int32))] [(.int rr)]))) (fun tt_ kk_ => XS.ifNo X5.here hx rfl (hb hby at_82) rfl ((if0 _ _).trans (feq (by decide : ¬ ((1 : Int32) = (0 : Int32)))).1) kk_) ?_
        refine own_pre (S' := (T5.setTop (mkF m 87 #[.val (.int i0), .val (.int i1), .val (.int i2), .val (.int i3), .val (.int lo), .val (.int hi), .val (.ref b3), .val (.int rr), .val (.int (1 : Int32)), .val (.int (0 : Int32))] [(.int (0 : Int32)), (.int rr)]))) (fun tt_ kk_ => XS.iload X5.here hx rfl (hb hby at_85) rfl kk_) ?_
        refine own_pre (S' := (T5.setTop (mkF m 94 #[.val (.int i0), .val (.int i1), .val (.int i2), .val (.int i3), .val (.int lo), .val (.int hi), .val (.ref b3), .val (.int rr), .val (.int (1 : Int32)), .val (.int (0 : Int32))] [(.int rr)]))) (fun tt_ kk_ => XS.ifYes X5.here hx rfl (pc0 := 87) (pc' := 94) rfl (hb hby at_87) rfl ((if0 _ _).trans (teq (by decide : ((0 : Int32) = (0 : Int32)))).1) (by decide) (by decide) kk_) ?_
        refine own_pre (S' := (T5.setTop (mkF m 95 #[.val (.int i0), .val (.int i1), .val (.int i2), .val (.int i3), .val (.int lo), .val (.int hi), .val (.ref b3), .val (.int rr), .val (.int (1 : Int32)), .val (.int (0 : Int32))] [(.int (0 : Int32)), (.int rr)]))) (fun tt_ kk_ => XS.iconst X5.here hx rfl (hb hby at_94) kk_) ?_
        have h95 : rr = (0 : Int32) := by
          simp only [Int32.lt_iff_toInt_lt] at hrr hlh c43 c49 c62
          rcases hrr with ⟨h1, h2⟩ | ⟨h1, h2⟩ <;> first | exact h1 | (exfalso; omega)
        refine own_pre (S' := (T5.setTop (mkF m 98 #[.val (.int i0), .val (.int i1), .val (.int i2), .val (.int i3), .val (.int lo), .val (.int hi), .val (.ref b3), .val (.int rr), .val (.int (1 : Int32)), .val (.int (0 : Int32))] []))) (fun tt_ kk_ => XS.icmpNo X5.here hx rfl (hb hby at_95) rfl (teq h95).2 kk_) ?_
        refine own_pre (S' := (T5.setTop (mkF m 99 #[.val (.int i0), .val (.int i1), .val (.int i2), .val (.int i3), .val (.int lo), .val (.int hi), .val (.ref b3), .val (.int rr), .val (.int (1 : Int32)), .val (.int (0 : Int32))] [(.int (1 : Int32))]))) (fun tt_ kk_ => XS.iconst X5.here hx rfl (hb hby at_98) kk_) ?_
        refine own_pre (S' := (T5.setTop (mkF m 103 #[.val (.int i0), .val (.int i1), .val (.int i2), .val (.int i3), .val (.int lo), .val (.int hi), .val (.ref b3), .val (.int rr), .val (.int (1 : Int32)), .val (.int (0 : Int32))] [(.int (1 : Int32))]))) (fun tt_ kk_ => XS.goto X5.here hx rfl (pc0 := 99) (pc' := 103) rfl (hb hby at_99) (by decide) (by decide) kk_) ?_
        refine own_ret (t := .boolean) X5 hx hlk hrt rfl (Or.inl ⟨rfl, by simp, _, rfl⟩) (hb hby at_103) (by decide) (by decide) ?_
        exact ⟨rfl, N5⟩
      · -- pc 62: not hi < i2
        refine own_pre (S' := (T5.setTop (mkF m 65 #[.val (.int i0), .val (.int i1), .val (.int i2), .val (.int i3), .val (.int lo), .val (.int hi), .val (.ref b3), .val (.int rr), .val (.int (1 : Int32)), .unset] []))) (fun tt_ kk_ => XS.icmpNo X5.here hx rfl (hb hby at_62) rfl (flt c62).2.2.1 kk_) ?_
        refine own_pre (S' := (T5.setTop (mkF m 67 #[.val (.int i0), .val (.int i1), .val (.int i2), .val (.int i3), .val (.int lo), .val (.int hi), .val (.ref b3), .val (.int rr), .val (.int (1 : Int32)), .unset] [(.int hi)]))) (fun tt_ kk_ => XS.iload X5.here hx rfl (hb hby at_65) rfl kk_) ?_
        refine own_pre (S' := (T5.setTop (mkF m 68 #[.val (.int i0), .val (.int i1), .val (.int i2), .val (.int i3), .val (.int lo), .val (.int hi), .val (.ref b3), .val (.int rr), .val (.int (1 : Int32)), .unset] [(.int i3), (.int hi)]))) (fun tt_ kk_ => XS.iloadN X5.here hx rfl (hb hby at_67) rfl kk_) ?_
        by_cases c68 : i3 < hi
        · -- pc 68: i3 < hi
          refine own_pre (S' := (T5.setTop (mkF m 75 #[.val (.int i0), .val (.int i1), .val (.int i2), .val (.int i3), .val (.int lo), .val (.int hi), .val (.ref b3), .val (.int rr), .val (.int (1 : Int32)), .unset] []))) (fun tt_ kk_ => XS.icmpYes X5.here hx rfl (pc0 := 68) (pc' := 75) rfl (hb hby at_68) rfl (tlt c68).2.2.1 (by decide) (by decide) kk_) ?_
          refine own_pre (S' := (T5.setTop (mkF m 76 #[.val (.int i0), .val (.int i1), .val (.int i2), .val (.int i3), .val (.int lo), .val (.int hi), .val (.ref b3), .val (.int rr), .val (.int (1 : Int32)), .unset] [(.int (0 : Int32))]))) (fun tt_ kk_ => XS.iconst X5.here hx rfl (hb hby at_75) kk_) ?_
          refine own_pre (S' := (T5.setTop (mkF m 78 #[.val (.int i0), .val (.int i1), .val (.int i2), .val (.int i3), .val (.int lo), .val (.int hi), .val (.ref b3), .val (.int rr), .val (.int (1 : Int32)), .val (.int (0 : Int32))] []))) (fun tt_ kk_ => XS.istore X5.here hx rfl (hb hby at_76) rfl (l' := #[.val (.int i0), .val (.int i1), .val (.int i2), .val (.int i3), .val (.int lo), .val (.int hi), .val (.ref b3), .val (.int rr), .val (.int (1 : Int32)), .val (.int (0 : Int32))]) rfl kk_) ?_
          refine own_pre (S' := (T5.setTop (mkF m 80 #[.val (.int i0), .val (.int i1), .val (.int i2), .val (.int i3), .val (.int lo), .val (.int hi), .val (.ref b3), .val (.int rr), .val (.int (1 : Int32)), .val (.int (0 : Int32))] [(.int rr)]))) (fun tt_ kk_ => XS.iload X5.here hx rfl (hb hby at_78) rfl kk_) ?_
          refine own_pre (S' := (T5.setTop (mkF m 82 #[.val (.int i0), .val (.int i1), .val (.int i2), .val (.int i3), .val (.int lo), .val (.int hi), .val (.ref b3), .val (.int rr), .val (.int (1 : Int32)), .val (.int (0 : Int32))] [(.int (1 : Int32)), (.int rr)]))) (fun tt_ kk_ => XS.iload X5.here hx rfl (hb hby at_80) rfl kk_) ?_
          refine own_pre (S' := (T5.setTop (mkF m 85 #[.val (.int i0), .val (.int i1), .val (.int i2), .val (.int i3), .val (.int lo), .val (.int hi), .val (.ref b3), .val (.int rr), .val (.int (1 : Int32)), .val (.int (0 : Int32))] [(.int rr)]))) (fun tt_ kk_ => XS.ifNo X5.here hx rfl (hb hby at_82) rfl ((if0 _ _).trans (feq (by decide : ¬ ((1 : Int32) = (0 : Int32)))).1) kk_) ?_
          refine own_pre (S' := (T5.setTop (mkF m 87 #[.val (.int i0), .val (.int i1), .val (.int i2), .val (.int i3), .val (.int lo), .val (.int hi), .val (.ref b3), .val (.int rr), .val (.int (1 : Int32)), .val (.int (0 : Int32))] [(.int (0 : Int32)), (.int rr)]))) (fun tt_ kk_ => XS.iload X5.here hx rfl (hb hby at_85) rfl kk_) ?_
          refine own_pre (S' := (T5.setTop (mkF m 94 #[.val (.int i0), .val (.int i1), .val (.int i2), .val (.int i3), .val (.int lo), .val (.int hi), .val (.ref b3), .val (.int rr), .val (.int (1 : Int32)), .val (.int (0 : Int32))] [(.int rr)]))) (fun tt_ kk_ => XS.ifYes X5.here hx rfl (pc0 := 87) (pc' := 94) rfl (hb hby at_87) rfl ((if0 _ _).trans (teq (by decide : ((0 : Int32) = (0 : Int32)))).1) (by decide) (by decide) kk_) ?_
          refine own_pre (S' := (T5.setTop (mkF m 95 #[.val (.int i0), .val (.int i1), .val (.int i2), .val (.int i3), .val (.int lo), .val (.int hi), .val (.ref b3), .val (.int rr), .val (.int (1 : Int32)), .val (.int (0 : Int32))] [(.int (0 : Int32)), (.int rr)]))) (fun tt_ kk_ => XS.iconst X5.here hx rfl (hb hby at_94) kk_) ?_
          have h95 : rr = (0 : Int32) := by
            simp only [Int32.lt_iff_toInt_lt] at hrr hlh c43 c49 c62 c68
            rcases hrr with ⟨h1, h2⟩ | ⟨h1, h2⟩ <;> first | exact h1 | (exfalso; omega)
          refine own_pre (S' := (T5.setTop (mkF m 98 #[.val (.int i0), .val (.int i1), .val (.int i2), .val (.int i3), .val (.int lo), .val (.int hi), .val (.ref b3), .val (.int rr), .val (.int (1 : Int32)), .val (.int (0 : Int32))] []))) (fun tt_ kk_ => XS.icmpNo X5.here hx rfl (hb hby at_95) rfl (teq h95).2 kk_) ?_
          refine own_pre (S' := (T5.setTop (mkF m 99 #[.val (.int i0), .val (.int i1), .val (.int i2), .val (.int i3), .val (.int lo), .val (.int hi), .val (.ref b3), .val (.int rr), .val (.int (1 : Int32)), .val (.int (0 : Int32))] [(.int (1 : Int32))]))) (fun tt_ kk_ => XS.iconst X5.here hx rfl (hb hby at_98) kk_) ?_
          refine own_pre (S' := (T5.setTop (mkF m 103 #[.val (.int i0), .val (.int i1), .val (.int i2), .val (.int i3), .val (.int lo), .val (.int hi), .val (.ref b3), .val (.int rr), .val (.int (1 : Int32)), .val (.int (0 : Int32))] [(.int (1 : Int32))]))) (fun tt_ kk_ => XS.goto X5.here hx rfl (pc0 := 99) (pc' := 103) rfl (hb hby at_99) (by decide) (by decide) kk_) ?_
          refine own_ret (t := .boolean) X5 hx hlk hrt rfl (Or.inl ⟨rfl, by simp, _, rfl⟩) (hb hby at_103) (by decide) (by decide) ?_
          exact ⟨rfl, N5⟩
        · -- pc 68: not i3 < hi
          refine own_pre (S' := (T5.setTop (mkF m 71 #[.val (.int i0), .val (.int i1), .val (.int i2), .val (.int i3), .val (.int lo), .val (.int hi), .val (.ref b3), .val (.int rr), .val (.int (1 : Int32)), .unset] []))) (fun tt_ kk_ => XS.icmpNo X5.here hx rfl (hb hby at_68) rfl (flt c68).2.2.1 kk_) ?_
          refine own_pre (S' := (T5.setTop (mkF m 72 #[.val (.int i0), .val (.int i1), .val (.int i2), .val (.int i3), .val (.int lo), .val (.int hi), .val (.ref b3), .val (.int rr), .val (.int (1 : Int32)), .unset] [(.int (1 : Int32))]))) (fun tt_ kk_ => XS.iconst X5.here hx rfl (hb hby at_71) kk_) ?_
          refine own_pre (S' := (T5.setTop (mkF m 76 #[.val (.int i0), .val (.int i1), .val (.int i2), .val (.int i3), .val (.int lo), .val (.int hi), .val (.ref b3), .val (.int rr), .val (.int (1 : Int32)), .unset] [(.int (1 : Int32))]))) (fun tt_ kk_ => XS.goto X5.here hx rfl (pc0 := 72) (pc' := 76) rfl (hb hby at_72) (by decide) (by decide) kk_) ?_
          refine own_pre (S' := (T5.setTop (mkF m 78 #[.val (.int i0), .val (.int i1), .val (.int i2), .val (.int i3), .val (.int lo), .val (.int hi), .val (.ref b3), .val (.int rr), .val (.int (1 : Int32)), .val (.int (1 : Int32))] []))) (fun tt_ kk_ => XS.istore X5.here hx rfl (hb hby at_76) rfl (l' := #[.val (.int i0), .val (.int i1), .val (.int i2), .val (.int i3), .val (.int lo), .val (.int hi), .val (.ref b3), .val (.int rr), .val (.int (1 : Int32)), .val (.int (1 : Int32))]) rfl kk_) ?_
          refine own_pre (S' := (T5.setTop (mkF m 80 #[.val (.int i0), .val (.int i1), .val (.int i2), .val (.int i3), .val (.int lo), .val (.int hi), .val (.ref b3), .val (.int rr), .val (.int (1 : Int32)), .val (.int (1 : Int32))] [(.int rr)]))) (fun tt_ kk_ => XS.iload X5.here hx rfl (hb hby at_78) rfl kk_) ?_
          refine own_pre (S' := (T5.setTop (mkF m 82 #[.val (.int i0), .val (.int i1), .val (.int i2), .val (.int i3), .val (.int lo), .val (.int hi), .val (.ref b3), .val (.int rr), .val (.int (1 : Int32)), .val (.int (1 : Int32))] [(.int (1 : Int32)), (.int rr)]))) (fun tt_ kk_ => XS.iload X5.here hx rfl (hb hby at_80) rfl kk_) ?_
          refine own_pre (S' := (T5.setTop (mkF m 85 #[.val (.int i0), .val (.int i1), .val (.int i2), .val (.int i3), .val (.int lo), .val (.int hi), .val (.ref b3), .val (.int rr), .val (.int (1 : Int32)), .val (.int (1 : Int32))] [(.int rr)]))) (fun tt_ kk_ => XS.ifNo X5.here hx rfl (hb hby at_82) rfl ((if0 _ _).trans (feq (by decide : ¬ ((1 : Int32) = (0 : Int32)))).1) kk_) ?_
          refine own_pre (S' := (T5.setTop (mkF m 87 #[.val (.int i0), .val (.int i1), .val (.int i2), .val (.int i3), .val (.int lo), .val (.int hi), .val (.ref b3), .val (.int rr), .val (.int (1 : Int32)), .val (.int (1 : Int32))] [(.int (1 : Int32)), (.int rr)]))) (fun tt_ kk_ => XS.iload X5.here hx rfl (hb hby at_85) rfl kk_) ?_
          refine own_pre (S' := (T5.setTop (mkF m 90 #[.val (.int i0), .val (.int i1), .val (.int i2), .val (.int i3), .val (.int lo), .val (.int hi), .val (.ref b3), .val (.int rr), .val (.int (1 : Int32)), .val (.int (1 : Int32))] [(.int rr)]))) (fun tt_ kk_ => XS.ifNo X5.here hx rfl (hb hby at_87) rfl ((if0 _ _).trans (feq (by decide : ¬ ((1 : Int32) = (0 : Int32)))).1) kk_) ?_
          refine own_pre (S' := (T5.setTop (mkF m 91 #[.val (.int i0), .val (.int i1), .val (.int i2), .val (.int i3), .val (.int lo), .val (.int hi), .val (.ref b3), .val (.int rr), .val (.int (1 : Int32)), .val (.int (1 : Int32))] [(.int (1 : Int32)), (.int rr)]))) (fun tt_ kk_ => XS.iconst X5.here hx rfl (hb hby at_90) kk_) ?_
          refine own_pre (S' := (T5.setTop (mkF m 95 #[.val (.int i0), .val (.int i1), .val (.int i2), .val (.int i3), .val (.int lo), .val (.int hi), .val (.ref b3), .val (.int rr), .val (.int (1 : Int32)), .val (.int (1 : Int32))] [(.int (1 : Int32)), (.int rr)]))) (fun tt_ kk_ => XS.goto X5.here hx rfl (pc0 := 91) (pc' := 95) rfl (hb hby at_91) (by decide) (by decide) kk_) ?_
          have h95 : rr = (1 : Int32) := by
            simp only [Int32.lt_iff_toInt_lt] at hrr hlh c43 c49 c62 c68
            rcases hrr with ⟨h1, h2⟩ | ⟨h1, h2⟩ <;> first | exact h1 | (exfalso; omega)
          refine own_pre (S' := (T5.setTop (mkF m 98 #[.val (.int i0), .val (.int i1), .val (.int i2), .val (.int i3), .val (.int lo), .val (.int hi), .val (.ref b3), .val (.int rr), .val (.int (1 : Int32)), .val (.int (1 : Int32))] []))) (fun tt_ kk_ => XS.icmpNo X5.here hx rfl (hb hby at_95) rfl (teq h95).2 kk_) ?_
          refine own_pre (S' := (T5.setTop (mkF m 99 #[.val (.int i0), .val (.int i1), .val (.int i2), .val (.int i3), .val (.int lo), .val (.int hi), .val (.ref b3), .val (.int rr), .val (.int (1 : Int32)), .val (.int (1 : Int32))] [(.int (1 : Int32))]))) (fun tt_ kk_ => XS.iconst X5.here hx rfl (hb hby at_98) kk_) ?_
          refine own_pre (S' := (T5.setTop (mkF m 103 #[.val (.int i0), .val (.int i1), .val (.int i2), .val (.int i3), .val (.int lo), .val (.int hi), .val (.ref b3), .val (.int rr), .val (.int (1 : Int32)), .val (.int (1 : Int32))] [(.int (1 : Int32))]))) (fun tt_ kk_ => XS.goto X5.here hx rfl (pc0 := 99) (pc' := 103) rfl (hb hby at_99) (by decide) (by decide) kk_) ?_
          refine own_ret (t := .boolean) X5 hx hlk hrt rfl (Or.inl ⟨rfl, by simp, _, rfl⟩) (hb hby at_103) (by decide) (by decide) ?_
          exact ⟨rfl, N5⟩
set_option maxRecDepth 65536 in
set_option maxHeartbeats 40000000 in
theorem comes_1 {Post : Tables → Env → Array Value → State → Outcome → State → Prop} (hpost : ∀ tb e args s v u, (limb_1_1.after args s (.returned v) u = true ∧ limb_1_2.after args s (.returned v) u = true ∧ True) → FrameEnd s (.returned v) u (Jvm.fieldLocs frame_1_writes args s ++ Jvm.arrayLocs frame_1_arrays args s ++ Jvm.staticLocs frame_1_statics s) 16 128 → Post tb e args s (.returned v) u) :
    ArmFor flags0 classFile x code maxLocals ret World_1 tables_1 room_1 Calls_1 rest_1 Pre_1 Post := by
  intro l hfl _ _ p e ha hc hk s m args below hf hA hF happ hP
  obtain ⟨hcalls, hrest, hpre⟩ := hP
  obtain ⟨-, -, -, hnamed, -, -, -, hat⟩ := (Spec.applies_iff hf).mp happ
  obtain ⟨hg, hn⟩ := and_e (Cond.before_iff.mp (show (Jvm.Cond.and given_1 narrow_1).before args s = true from hpre))
  obtain ⟨hcount, hgg⟩ := and_e hg
  obtain ⟨hk0, hgg0⟩ := and_e hgg
  obtain ⟨hk1, hgg1⟩ := and_e hgg0
  obtain ⟨hk2, hk3⟩ := and_e hgg1
  obtain ⟨w0, w1, w2, w3, rfl⟩ : ∃ w0 w1 w2 w3 : Value, args = #[w0, w1, w2, w3] := by
    have hs : args.size = 4 := by simpa [Cond.value, given_1] using hcount
    obtain ⟨L⟩ := args
    match L, hs with
    | [w0, w1, w2, w3], _ => exact ⟨w0, w1, w2, w3, rfl⟩
  have hw := fun d (hd : d ∈ tables_1) => atoms_spec (ws := Jvm.Cond.code x code maxLocals ret :: tables_1) hat d (List.mem_cons_of_mem _ hd)
  have hfit : Fit s := fun {y c} hc i hi => by
    obtain ⟨ha, rfl⟩ := Array.getElem?_eq_some_iff.mp hc
    have q := List.all_eq_true.mp ((Array.all_eq_true_iff_forall_mem.mp hF) _ (Array.getElem_mem ha)) i (List.mem_range.mpr hi)
    simpa [Array.getElem?_eq_getElem hi] using q
  obtain ⟨i0, ei0⟩ := is_v hk0
  obtain rfl : w0 = (.int i0) := Option.some.inj ei0
  obtain ⟨i1, ei1⟩ := is_v hk1
  obtain rfl : w1 = (.int i1) := Option.some.inj ei1
  obtain ⟨i2, ei2⟩ := is_v hk2
  obtain rfl : w2 = (.int i2) := Option.some.inj ei2
  obtain ⟨i3, ei3⟩ := is_v hk3
  obtain rfl : w3 = (.int i3) := Option.some.inj ei3
  obtain ⟨n, o, h1, h2, h3, _, L, rfl, ⟨rfl, N⟩, hq⟩ := own_law l s _ hw tables_1 i0 i1 i2 i3 s.heap s.heap.size (Nat.le_refl _)  p e ha hc hk s m _ below hf ((Spec.applies_iff_loose hf).mp happ).1 ⟨rfl, State.Warmed39.refl s, rfl⟩ trivial
  refine ⟨n, _, h1, h2, h3, hpost _ _ _ _ _ _ ⟨Cond.after_iff.mpr rfl, Cond.after_iff.mpr (eq_i res_at (Term.int_eval (1)) rfl), trivial⟩ ⟨hq.1, hq.2.1, (hq.2.2.sift fun y hy => Or.inr (N y hy)).mono (by decide) (by decide)⟩⟩
theorem main_1_1 : Claimed_1_1 := comes_1 fun _ _ _ _ _ _ h hF => ⟨h.1, hF⟩
theorem main_1_2 : Claimed_1_2 := comes_1 fun _ _ _ _ _ _ h hF => ⟨h.2.1, hF⟩
end Jvm.Pilot.@@N@@
namespace Jvm.Pilot.@@N@@
open Jvm Jvm.ClassFile Sem Op Lib Jvm.Free Jvm.Stand Jvm.Pilot.@@N@@.Jvm.D
/-! MADE BY PROGRAM (witnessworld.py) out of the Statement's table words and the real class files: 16 classes; the members and pool entries that the words name. The judged class is class 1, her method 1. -/
namespace start1
open Jvm.ClassFile
def u (s : String) : CpInfo := .utf8 (stringToUtf16 s)
/-- a pool by its gaps: so many unusable entries, then the entry; so many at the end -/
def gap : Nat → List CpInfo → List CpInfo
  | 0, r => r
  | n + 1, r => .unusable :: gap n r
def poolList (es : List (Nat × CpInfo)) (last : Nat) : List CpInfo := es.foldr (fun e r => gap e.1 (e.2 :: r)) (gap last [])
def pool (es : List (Nat × CpInfo)) (last : Nat) : Array CpInfo := ⟨poolList es last⟩
def fileOf (pool : Array CpInfo) (this : Nat) (attrs : Array Attribute := #[]) (ms : Array MethodInfo := #[]) (fl : Nat := 33) (sup : Nat := 0) (ifs : Array Nat := #[]) (fds : Array FieldInfo := #[]) : ClassFile where
  minorVersion := 0
  majorVersion := 65
  constantPool := pool
  accessFlags := fl
  thisClass := this
  superClass := sup
  interfaces := ifs
  fields := fds
  methods := ms
  attributes := attrs
def plain (name : String) (sup : Option ClassId) : Class where
  name := name
  kind := .ordinary
  loader := none
  accessFlags := 33
  super := sup
  interfaces := #[]
  cf := none
  fields := #[]
  methods := #[]
  instanceTypes := #[]
  staticTypes := #[]
  resolved := #[]
  callSites := []
  init := .initialized
  statics := none
  mirror := none

def pool0 : Array CpInfo := pool [(5, u "<init>"), (0, u "()V"), (1, .class_ 10), (1, u "java/lang/Object")] 113

def k0c0 : Code := { maxStack := 0, maxLocals := 1, code := object_method_1_code, exceptionTable := #[], attributes := #[] }
def k0m0 : Method := { name := "<init>", desc := "()V", sig := { parameters := [], returnType := none }, accessFlags := 1, code := some k0c0 }
/-- java/lang/Object -/
def k0 : Class := { plain "java/lang/Object" none with
  accessFlags := 33
  interfaces := #[]
  cf := some (fileOf pool0 8 #[] #[{ accessFlags := 1, nameIndex := 5, descriptorIndex := 6, attributes := #[] }] 33 0 #[] #[])
  fields := #[]
  methods := #[k0m0]
  instanceTypes := #[]
  staticTypes := #[]
  resolved := Array.replicate 124 none
  statics := none }

def pool1 : Array CpInfo := pool [(2, .class_ 4), (1, u "java/lang/Object"), (0, u "<init>"), (0, u "()V"), (0, .methodref 8 9), (0, .class_ 10), (0, .nameAndType 11 12), (0, u "java/lang/Math"), (0, u "min"), (0, u "(II)I"), (0, .methodref 8 14), (0, .nameAndType 15 12), (0, u "max"), (0, .class_ 17), (0, u "com/example/bidsmith/bidsmith/market/Range"), (0, .methodref 16 19), (0, .nameAndType 5 20), (0, u "(DD)V"), (0, .methodref 16 22), (0, .nameAndType 23 24), (0, u "within"), (0, u "(DD)Z"), (0, .class_ 26), (0, u "com/example/bidsmith/bidsmith/market/RangeWithinPinLaw"), (2, u "law"), (0, u "(IIII)Z")] 3

def k1m0 : Method := { name := "<init>", desc := "()V", sig := { parameters := [], returnType := none }, accessFlags := 1, code := none }
def k1c1 : Code := { maxStack := 6, maxLocals := 10, code := code, exceptionTable := #[], attributes := #[] }
def k1m1 : Method := { name := "law", desc := "(IIII)Z", sig := { parameters := [.int, .int, .int, .int], returnType := some .boolean }, accessFlags := 9, code := some k1c1 }
/-- com/example/bidsmith/bidsmith/market/RangeWithinPinLaw -/
def k1 : Class := { plain "com/example/bidsmith/bidsmith/market/RangeWithinPinLaw" (some 0) with
  accessFlags := 49
  interfaces := #[]
  cf := some (fileOf pool1 25 #[] #[{ accessFlags := 1, nameIndex := 5, descriptorIndex := 6, attributes := #[] }, { accessFlags := 9, nameIndex := 29, descriptorIndex := 30, attributes := #[] }] 49 2 #[] #[])
  fields := #[]
  methods := #[k1m0, k1m1]
  instanceTypes := #[]
  staticTypes := #[]
  resolved := Array.replicate 34 none
  statics := none }

def pool2 : Array CpInfo := pool [(1, .class_ 2), (0, u "java/lang/Math"), (1, .class_ 6), (1, u "java/lang/Object"), (0, u "<init>"), (0, u "()V"), (5, u "(D)D"), (83, .class_ 100), (1, u "java/lang/Math$RandomNumberGeneratorHolder"), (23, u "abs"), (47, u "negativeZeroFloatBits"), (0, u "J"), (2, u "negativeZeroDoubleBits"), (21, u "max"), (2, u "min"), (43, u "$assertionsDisabled"), (0, u "Z"), (88, u "(II)I"), (2, u "twoToTheDoubleScaleDown"), (0, u "D"), (4, u "twoToTheDoubleScaleUp"), (9, u "E"), (3, u "PI"), (2, u "TAU"), (2, u "DEGREES_TO_RADIANS"), (0, u "RADIANS_TO_DEGREES")] 94

def k2m0 : Method := { name := "<init>", desc := "()V", sig := { parameters := [], returnType := none }, accessFlags := 2, code := none }
def k2c1 : Code := { maxStack := 4, maxLocals := 2, code := jdk_29_method_64_code, exceptionTable := #[], attributes := #[] }
def k2m1 : Method := { name := "abs", desc := "(D)D", sig := { parameters := [.double], returnType := some .double }, accessFlags := 9, code := some k2c1 }
def k2c2 : Code := { maxStack := 2, maxLocals := 2, code := jdk_29_method_65_code, exceptionTable := #[], attributes := #[] }
def k2m2 : Method := { name := "max", desc := "(II)I", sig := { parameters := [.int, .int], returnType := some .int }, accessFlags := 9, code := some k2c2 }
def k2c3 : Code := { maxStack := 2, maxLocals := 2, code := jdk_29_method_69_code, exceptionTable := #[], attributes := #[] }
def k2m3 : Method := { name := "min", desc := "(II)I", sig := { parameters := [.int, .int], returnType := some .int }, accessFlags := 9, code := some k2c3 }
/-- java/lang/Math -/
def k2 : Class := { plain "java/lang/Math" (some 0) with
  accessFlags := 49
  interfaces := #[]
  cf := some (fileOf pool2 1 #[.nestMembers #[98]] #[{ accessFlags := 2, nameIndex := 7, descriptorIndex := 8, attributes := #[] }, { accessFlags := 9, nameIndex := 124, descriptorIndex := 14, attributes := #[] }, { accessFlags := 9, nameIndex := 198, descriptorIndex := 335, attributes := #[] }, { accessFlags := 9, nameIndex := 201, descriptorIndex := 335, attributes := #[] }] 49 4 #[] #[{ accessFlags := 25, nameIndex := 354, descriptorIndex := 339, attributes := #[] }, { accessFlags := 25, nameIndex := 358, descriptorIndex := 339, attributes := #[] }, { accessFlags := 25, nameIndex := 361, descriptorIndex := 339, attributes := #[] }, { accessFlags := 26, nameIndex := 364, descriptorIndex := 339, attributes := #[] }, { accessFlags := 26, nameIndex := 365, descriptorIndex := 339, attributes := #[] }, { accessFlags := 26, nameIndex := 172, descriptorIndex := 173, attributes := #[] }, { accessFlags := 26, nameIndex := 176, descriptorIndex := 173, attributes := #[] }, { accessFlags := 8, nameIndex := 344, descriptorIndex := 339, attributes := #[] }, { accessFlags := 8, nameIndex := 338, descriptorIndex := 339, attributes := #[] }, { accessFlags := 4120, nameIndex := 245, descriptorIndex := 246, attributes := #[] }])
  fields := #[{ name := "E", type := .double, accessFlags := 25, slot := 0, constantValue := 0 }, { name := "PI", type := .double, accessFlags := 25, slot := 1, constantValue := 0 }, { name := "TAU", type := .double, accessFlags := 25, slot := 2, constantValue := 0 }, { name := "DEGREES_TO_RADIANS", type := .double, accessFlags := 26, slot := 3, constantValue := 0 }, { name := "RADIANS_TO_DEGREES", type := .double, accessFlags := 26, slot := 4, constantValue := 0 }, { name := "negativeZeroFloatBits", type := .long, accessFlags := 26, slot := 5, constantValue := 0 }, { name := "negativeZeroDoubleBits", type := .long, accessFlags := 26, slot := 6, constantValue := 0 }, { name := "twoToTheDoubleScaleUp", type := .double, accessFlags := 8, slot := 7, constantValue := 0 }, { name := "twoToTheDoubleScaleDown", type := .double, accessFlags := 8, slot := 8, constantValue := 0 }, { name := "$assertionsDisabled", type := .boolean, accessFlags := 4120, slot := 9, constantValue := 0 }]
  methods := #[k2m0, k2m1, k2m2, k2m3]
  instanceTypes := #[]
  staticTypes := #[.double, .double, .double, .double, .double, .long, .long, .double, .double, .boolean]
  resolved := Array.replicate 460 none
  statics := none }

def pool3 : Array CpInfo := pool [(1, .methodref 2 3), (0, .class_ 4), (0, .nameAndType 5 6), (0, u "java/lang/Object"), (0, u "<init>"), (0, u "()V"), (0, .class_ 8), (0, u "java/lang/Record")] 13

def k3c0 : Code := { maxStack := 1, maxLocals := 1, code := jdk_30_method_1_code, exceptionTable := #[], attributes := #[] }
def k3m0 : Method := { name := "<init>", desc := "()V", sig := { parameters := [], returnType := none }, accessFlags := 4, code := some k3c0 }
/-- java/lang/Record -/
def k3 : Class := { plain "java/lang/Record" (some 0) with
  accessFlags := 1057
  interfaces := #[]
  cf := some (fileOf pool3 7 #[] #[{ accessFlags := 4, nameIndex := 5, descriptorIndex := 6, attributes := #[] }] 1057 2 #[] #[])
  fields := #[]
  methods := #[k3m0]
  instanceTypes := #[]
  staticTypes := #[]
  resolved := Array.replicate 22 none
  statics := none }

def pool4 : Array CpInfo := pool [(1, .methodref 2 3), (0, .class_ 4), (0, .nameAndType 5 6), (0, u "java/lang/Record"), (0, u "<init>"), (0, u "()V"), (0, .methodref 8 9), (0, .class_ 10), (0, .nameAndType 11 12), (0, u "java/lang/Double"), (0, u "isFinite"), (0, u "(D)Z"), (10, .fieldref 24 25), (0, .class_ 26), (0, .nameAndType 27 28), (0, u "com/example/bidsmith/bidsmith/market/Range"), (0, u "low"), (0, u "D"), (0, .fieldref 24 30), (0, .nameAndType 31 28), (0, u "high"), (18, u "(DD)V"), (6, u "within"), (0, u "(DD)Z")] 34

def k4c0 : Code := { maxStack := 6, maxLocals := 5, code := prog_56_method_1_code, exceptionTable := #[], attributes := #[] }
def k4m0 : Method := { name := "<init>", desc := "(DD)V", sig := { parameters := [.double, .double], returnType := none }, accessFlags := 1, code := some k4c0 }
def k4c1 : Code := { maxStack := 4, maxLocals := 5, code := prog_56_method_3_code, exceptionTable := #[], attributes := #[] }
def k4m1 : Method := { name := "within", desc := "(DD)Z", sig := { parameters := [.double, .double], returnType := some .boolean }, accessFlags := 1, code := some k4c1 }
/-- com/example/bidsmith/bidsmith/market/Range -/
def k4 : Class := { plain "com/example/bidsmith/bidsmith/market/Range" (some 3) with
  accessFlags := 49
  interfaces := #[]
  cf := some (fileOf pool4 24 #[] #[{ accessFlags := 1, nameIndex := 5, descriptorIndex := 50, attributes := #[] }, { accessFlags := 1, nameIndex := 57, descriptorIndex := 58, attributes := #[] }] 49 2 #[] #[{ accessFlags := 18, nameIndex := 27, descriptorIndex := 28, attributes := #[] }, { accessFlags := 18, nameIndex := 31, descriptorIndex := 28, attributes := #[] }])
  fields := #[{ name := "low", type := .double, accessFlags := 18, slot := 0, constantValue := 0 }, { name := "high", type := .double, accessFlags := 18, slot := 1, constantValue := 0 }]
  methods := #[k4m0, k4m1]
  instanceTypes := #[.double, .double]
  staticTypes := #[]
  resolved := Array.replicate 93 none
  statics := none }

def pool5 : Array CpInfo := pool [(1, .class_ 2), (0, u "java/io/Serializable"), (0, .class_ 4), (0, u "java/lang/Object")] 2

/-- java/io/Serializable -/
def k5 : Class := { plain "java/io/Serializable" (some 0) with
  accessFlags := 1537
  interfaces := #[]
  cf := some (fileOf pool5 1 #[] #[] 1537 3 #[] #[])
  fields := #[]
  methods := #[]
  instanceTypes := #[]
  staticTypes := #[]
  resolved := Array.replicate 7 none
  statics := none }

def pool6 : Array CpInfo := pool [(2, .class_ 4), (1, u "java/lang/Object"), (0, u "<init>"), (0, u "()V"), (1, .class_ 10), (1, u "java/lang/Number"), (2, .class_ 14), (0, u "java/io/Serializable"), (0, u "serialVersionUID"), (0, u "J")] 20

def k6m0 : Method := { name := "<init>", desc := "()V", sig := { parameters := [], returnType := none }, accessFlags := 1, code := none }
/-- java/lang/Number -/
def k6 : Class := { plain "java/lang/Number" (some 0) with
  accessFlags := 1057
  interfaces := #[5]
  cf := some (fileOf pool6 8 #[] #[{ accessFlags := 1, nameIndex := 5, descriptorIndex := 6, attributes := #[] }] 1057 2 #[13] #[{ accessFlags := 26, nameIndex := 15, descriptorIndex := 16, attributes := #[] }])
  fields := #[{ name := "serialVersionUID", type := .long, accessFlags := 26, slot := 0, constantValue := 0 }]
  methods := #[k6m0]
  instanceTypes := #[]
  staticTypes := #[.long]
  resolved := Array.replicate 37 none
  statics := none }

def pool7 : Array CpInfo := pool [(1, .class_ 2), (0, u "java/lang/Comparable"), (0, .class_ 4), (0, u "java/lang/Object")] 7

/-- java/lang/Comparable -/
def k7 : Class := { plain "java/lang/Comparable" (some 0) with
  accessFlags := 1537
  interfaces := #[]
  cf := some (fileOf pool7 1 #[] #[] 1537 3 #[] #[])
  fields := #[]
  methods := #[]
  instanceTypes := #[]
  staticTypes := #[]
  resolved := Array.replicate 12 none
  statics := none }

def pool8 : Array CpInfo := pool [(1, .class_ 2), (0, u "java/lang/constant/Constable"), (0, .class_ 4), (0, u "java/lang/Object")] 6

/-- java/lang/constant/Constable -/
def k8 : Class := { plain "java/lang/constant/Constable" (some 0) with
  accessFlags := 1537
  interfaces := #[]
  cf := some (fileOf pool8 1 #[] #[] 1537 3 #[] #[])
  fields := #[]
  methods := #[]
  instanceTypes := #[]
  staticTypes := #[]
  resolved := Array.replicate 11 none
  statics := none }

def pool9 : Array CpInfo := pool [(1, .class_ 2), (0, u "java/lang/constant/ConstantDesc"), (0, .class_ 4), (0, u "java/lang/Object")] 32

/-- java/lang/constant/ConstantDesc -/
def k9 : Class := { plain "java/lang/constant/ConstantDesc" (some 0) with
  accessFlags := 1537
  interfaces := #[]
  cf := some (fileOf pool9 1 #[] #[] 1537 3 #[] #[])
  fields := #[]
  methods := #[]
  instanceTypes := #[]
  staticTypes := #[]
  resolved := Array.replicate 37 none
  statics := none }

def pool10 : Array CpInfo := pool [(1, .class_ 2), (0, u "java/lang/Double"), (10, u "isFinite"), (0, u "(D)Z"), (8, .class_ 25), (1, u "java/lang/Math"), (12, .methodref 23 39), (0, .nameAndType 40 41), (0, u "abs"), (0, u "(D)D"), (69, .double 9218868437227405311), (2, .class_ 116), (1, u "java/lang/Number"), (3, u "value"), (0, u "D"), (51, u "TYPE"), (0, u "Ljava/lang/Class;"), (0, .class_ 176), (0, u "java/lang/Comparable"), (0, .class_ 178), (0, u "java/lang/constant/Constable"), (0, .class_ 180), (0, u "java/lang/constant/ConstantDesc"), (0, u "POSITIVE_INFINITY"), (3, u "NEGATIVE_INFINITY"), (2, u "NaN"), (2, u "MAX_VALUE"), (0, u "MIN_NORMAL"), (0, u "MIN_VALUE"), (2, u "SIZE"), (0, u "I"), (1, u "PRECISION"), (1, u "MAX_EXPONENT"), (1, u "MIN_EXPONENT"), (1, u "BYTES"), (3, u "serialVersionUID"), (0, u "J")] 79

def k10c0 : Code := { maxStack := 4, maxLocals := 2, code := jdk_117_method_8_code, exceptionTable := #[], attributes := #[] }
def k10m0 : Method := { name := "isFinite", desc := "(D)Z", sig := { parameters := [.double], returnType := some .boolean }, accessFlags := 9, code := some k10c0 }
/-- java/lang/Double -/
def k10 : Class := { plain "java/lang/Double" (some 6) with
  accessFlags := 49
  interfaces := #[7, 8, 9]
  cf := some (fileOf pool10 1 #[] #[{ accessFlags := 9, nameIndex := 13, descriptorIndex := 14, attributes := #[] }] 49 114 #[175, 177, 179] #[{ accessFlags := 25, nameIndex := 181, descriptorIndex := 121, attributes := #[] }, { accessFlags := 25, nameIndex := 185, descriptorIndex := 121, attributes := #[] }, { accessFlags := 25, nameIndex := 188, descriptorIndex := 121, attributes := #[] }, { accessFlags := 25, nameIndex := 191, descriptorIndex := 121, attributes := #[] }, { accessFlags := 25, nameIndex := 192, descriptorIndex := 121, attributes := #[] }, { accessFlags := 25, nameIndex := 193, descriptorIndex := 121, attributes := #[] }, { accessFlags := 25, nameIndex := 196, descriptorIndex := 197, attributes := #[] }, { accessFlags := 25, nameIndex := 199, descriptorIndex := 197, attributes := #[] }, { accessFlags := 25, nameIndex := 201, descriptorIndex := 197, attributes := #[] }, { accessFlags := 25, nameIndex := 203, descriptorIndex := 197, attributes := #[] }, { accessFlags := 25, nameIndex := 205, descriptorIndex := 197, attributes := #[] }, { accessFlags := 25, nameIndex := 173, descriptorIndex := 174, attributes := #[] }, { accessFlags := 18, nameIndex := 120, descriptorIndex := 121, attributes := #[] }, { accessFlags := 26, nameIndex := 209, descriptorIndex := 210, attributes := #[] }])
  fields := #[{ name := "POSITIVE_INFINITY", type := .double, accessFlags := 25, slot := 0, constantValue := 0 }, { name := "NEGATIVE_INFINITY", type := .double, accessFlags := 25, slot := 1, constantValue := 0 }, { name := "NaN", type := .double, accessFlags := 25, slot := 2, constantValue := 0 }, { name := "MAX_VALUE", type := .double, accessFlags := 25, slot := 3, constantValue := 0 }, { name := "MIN_NORMAL", type := .double, accessFlags := 25, slot := 4, constantValue := 0 }, { name := "MIN_VALUE", type := .double, accessFlags := 25, slot := 5, constantValue := 0 }, { name := "SIZE", type := .int, accessFlags := 25, slot := 6, constantValue := 0 }, { name := "PRECISION", type := .int, accessFlags := 25, slot := 7, constantValue := 0 }, { name := "MAX_EXPONENT", type := .int, accessFlags := 25, slot := 8, constantValue := 0 }, { name := "MIN_EXPONENT", type := .int, accessFlags := 25, slot := 9, constantValue := 0 }, { name := "BYTES", type := .int, accessFlags := 25, slot := 10, constantValue := 0 }, { name := "TYPE", type := (.object "java/lang/Class"), accessFlags := 25, slot := 11, constantValue := 0 }, { name := "value", type := .double, accessFlags := 18, slot := 0, constantValue := 0 }, { name := "serialVersionUID", type := .long, accessFlags := 26, slot := 12, constantValue := 0 }]
  methods := #[k10m0]
  instanceTypes := #[.double]
  staticTypes := #[.double, .double, .double, .double, .double, .double, .int, .int, .int, .int, .int, (.object "java/lang/Class"), .long]
  resolved := Array.replicate 290 none
  statics := none }

def pool11 : Array CpInfo := pool [(1, u "java/lang/Cloneable"), (0, .class_ 1), (0, u "java/lang/Object"), (0, .class_ 3)] 3

/-- java/lang/Cloneable -/
def k11 : Class := { plain "java/lang/Cloneable" (some 0) with
  accessFlags := 1537
  interfaces := #[]
  cf := some (fileOf pool11 2 #[] #[] 1537 4 #[] #[])
  fields := #[]
  methods := #[]
  instanceTypes := #[]
  staticTypes := #[]
  resolved := Array.replicate 8 none
  statics := none }

/-- the primitive byte -/
def k12 : Class := { plain "byte" none with kind := .primitive 'B', accessFlags := 0x411 }
/-- [B -/
def k13 : Class := { plain "[B" (some 0) with kind := .array 12 .byte, interfaces := #[11, 5], accessFlags := 1041 }

/-- the primitive int -/
def k14 : Class := { plain "int" none with kind := .primitive 'I', accessFlags := 0x411 }
/-- [I -/
def k15 : Class := { plain "[I" (some 0) with kind := .array 14 .int, interfaces := #[11, 5], accessFlags := 1041 }

def heap : Heap := #[]
def classes : Array Class := #[k0, k1, k2, k3, k4, k5, k6, k7, k8, k9, k10, k11, k12, k13, k14, k15]
def interned : List (Array UInt16 × Addr) := []
def slotsUsed : Nat := 0
def theMethod : MethodId := ⟨1, 1⟩
def args0 : Array Value := #[.int 5, .int 3, .int 7, .int 1]
def aboutOver (below : List Frame) : State where
  vm := { classes := classes, interned := interned.toArray }
  heap := heap
  slotsUsed := slotsUsed
  threads := #[{ frames := .invoking theMethod args0 :: below }]
def below0 : List Frame := [.native { method := ⟨0, 0⟩, args := #[] }]
def about1 : State := aboutOver below0
def p0 : Program := .bare "" "" ""
def e0 : Env := launch0.env 0 0 0
theorem w_frames : about1.frames = Frame.invoking theMethod args0 :: below0 := rfl
set_option maxRecDepth 65536 in
theorem w_args : argsFit about1.vm theMethod args0 = true := by decide +kernel
set_option maxRecDepth 65536 in
theorem w_heap : heapFits about1 = true := by decide +kernel
set_option maxRecDepth 65536 in
theorem w_runnable : about1.curStatus? = some .runnable := by decide +kernel
set_option maxRecDepth 65536 in
theorem w_alone : about1.alone = true := by decide +kernel
set_option maxRecDepth 65536 in
theorem w_named : about1.methodNamed? x = some theMethod := by decide +kernel
set_option maxRecDepth 65536 in
theorem w_hears : about1.hears theMethod below0 = true := by decide +kernel
set_option maxRecDepth 65536 in
theorem w_ripe : about1.ripe theMethod args0 below0 = true := by decide +kernel
theorem w_running : about1.status = .running := rfl
set_option maxRecDepth 65536 in
theorem w_room : about1.hasRoom e0.platform room_1 = true :=
  launch0.hasRoom_least _ room_1 (by decide +kernel) (by decide +kernel) (by decide +kernel) (by decide +kernel) (by decide +kernel) (by decide +kernel)
theorem allAtoms_all (ts : List Jvm.Cond) (a : Array Jvm.Value) (st : Jvm.State) : (allAtoms ts).before a st = ts.all (fun c => c.before a st) := by
  induction ts with
  | nil => rfl
  | cons c t ih =>
    show (Jvm.Cond.and c (allAtoms t)).before a st = _
    rw [Jvm.Cond.before_and, ih, List.all_cons]
def words1 : List Jvm.Cond := Jvm.Cond.code x code maxLocals ret :: tables_1
/-- a 'code' word, met by the world's own term for the bytes: nothing is compared byte by byte -/
theorem code_word {y : MethodName} {bytes : ByteArray} {mx : Nat} {rt : Option FieldType} {a : Array Value} {s : State} {m : MethodId} {meth : Method} {c : Code} (h1 : s.methodNamed? y = some m) (h2 : s.vm.method? m = some meth) (h3 : meth.code = some c) (h4 : c.code = bytes)
    (h5 : (c.maxLocals == mx && c.exceptionTable.isEmpty && decide (c.maxStack ≤ mostOperands) && decide (meth.sig.returnType = rt) && !meth.locks && decide (parseMethodDescriptor y.desc = some meth.sig)) = true) : (Jvm.Cond.code y bytes mx rt).before a s = true := by
  simp only [Bool.and_eq_true, beq_iff_eq, Bool.not_eq_true', decide_eq_true_eq] at h5
  obtain ⟨⟨⟨⟨⟨g1, g2⟩, g3⟩, g4⟩, g5⟩, g6⟩ := h5
  simp [Cond.before, Cond.holds, Cond.value, h1, h2, h3, h4, g1, g2, g3, g4, g5, g6]
def isCode : Jvm.Cond → Bool
  | .code _ _ _ _ => true
  | _ => false
theorem all_split {L : List Jvm.Cond} {P : Jvm.Cond → Bool} (h1 : L.all (fun c => isCode c || P c) = true) (h2 : ∀ c ∈ L.filter isCode, P c = true) : L.all P = true := by
  refine List.all_eq_true.mpr fun c hc => ?_
  have h := List.all_eq_true.mp h1 c hc
  rcases Bool.eq_false_or_eq_true (isCode c) with hi | hi
  · exact h2 c (List.mem_filter.mpr ⟨hc, hi⟩)
  · simpa [hi] using h
set_option maxRecDepth 65536 in
theorem w_c0 : (Jvm.Cond.code x code maxLocals ret).before args0 about1 = true := code_word (m := ⟨1, 1⟩) (meth := k1m1) (c := k1c1) (by decide +kernel) rfl rfl rfl (by decide +kernel)
set_option maxRecDepth 65536 in
theorem w_c1 : (Jvm.Cond.code ({ cls := "java/lang/Math", name := "min", desc := "(II)I" } : Jvm.MethodName) jdk_29_method_69_code (2 : Nat) (Option.some Jvm.ClassFile.FieldType.int)).before args0 about1 = true := code_word (m := ⟨2, 3⟩) (meth := k2m3) (c := k2c3) (by decide +kernel) rfl rfl rfl (by decide +kernel)
set_option maxRecDepth 65536 in
theorem w_c2 : (Jvm.Cond.code ({ cls := "java/lang/Math", name := "max", desc := "(II)I" } : Jvm.MethodName) jdk_29_method_65_code (2 : Nat) (Option.some Jvm.ClassFile.FieldType.int)).before args0 about1 = true := code_word (m := ⟨2, 2⟩) (meth := k2m2) (c := k2c2) (by decide +kernel) rfl rfl rfl (by decide +kernel)
set_option maxRecDepth 65536 in
theorem w_c3 : (Jvm.Cond.code ({ cls := "com/example/bidsmith/bidsmith/market/Range", name := "<init>", desc := "(DD)V" } : Jvm.MethodName) prog_56_method_1_code (5 : Nat) (Option.none : Option Jvm.ClassFile.FieldType)).before args0 about1 = true := code_word (m := ⟨4, 0⟩) (meth := k4m0) (c := k4c0) (by decide +kernel) rfl rfl rfl (by decide +kernel)
set_option maxRecDepth 65536 in
theorem w_c4 : (Jvm.Cond.code ({ cls := "java/lang/Record", name := "<init>", desc := "()V" } : Jvm.MethodName) jdk_30_method_1_code (1 : Nat) (Option.none : Option Jvm.ClassFile.FieldType)).before args0 about1 = true := code_word (m := ⟨3, 0⟩) (meth := k3m0) (c := k3c0) (by decide +kernel) rfl rfl rfl (by decide +kernel)
set_option maxRecDepth 65536 in
theorem w_c5 : (Jvm.Cond.code ({ cls := "java/lang/Object", name := "<init>", desc := "()V" } : Jvm.MethodName) object_method_1_code (1 : Nat) (Option.none : Option Jvm.ClassFile.FieldType)).before args0 about1 = true := code_word (m := ⟨0, 0⟩) (meth := k0m0) (c := k0c0) (by decide +kernel) rfl rfl rfl (by decide +kernel)
set_option maxRecDepth 65536 in
theorem w_c6 : (Jvm.Cond.code ({ cls := "java/lang/Double", name := "isFinite", desc := "(D)Z" } : Jvm.MethodName) jdk_117_method_8_code (2 : Nat) (Option.some Jvm.ClassFile.FieldType.boolean)).before args0 about1 = true := code_word (m := ⟨10, 0⟩) (meth := k10m0) (c := k10c0) (by decide +kernel) rfl rfl rfl (by decide +kernel)
set_option maxRecDepth 65536 in
theorem w_c7 : (Jvm.Cond.code ({ cls := "java/lang/Math", name := "abs", desc := "(D)D" } : Jvm.MethodName) jdk_29_method_64_code (2 : Nat) (Option.some Jvm.ClassFile.FieldType.double)).before args0 about1 = true := code_word (m := ⟨2, 1⟩) (meth := k2m1) (c := k2c1) (by decide +kernel) rfl rfl rfl (by decide +kernel)
set_option maxRecDepth 65536 in
theorem w_c8 : (Jvm.Cond.code ({ cls := "com/example/bidsmith/bidsmith/market/Range", name := "within", desc := "(DD)Z" } : Jvm.MethodName) prog_56_method_3_code (5 : Nat) (Option.some Jvm.ClassFile.FieldType.boolean)).before args0 about1 = true := code_word (m := ⟨4, 1⟩) (meth := k4m1) (c := k4c1) (by decide +kernel) rfl rfl rfl (by decide +kernel)
def codes1 : List Jvm.Cond := [Jvm.Cond.code x code maxLocals ret, Jvm.Cond.code ({ cls := "java/lang/Math", name := "min", desc := "(II)I" } : Jvm.MethodName) jdk_29_method_69_code (2 : Nat) (Option.some Jvm.ClassFile.FieldType.int), Jvm.Cond.code ({ cls := "java/lang/Math", name := "max", desc := "(II)I" } : Jvm.MethodName) jdk_29_method_65_code (2 : Nat) (Option.some Jvm.ClassFile.FieldType.int), Jvm.Cond.code ({ cls := "com/example/bidsmith/bidsmith/market/Range", name := "<init>", desc := "(DD)V" } : Jvm.MethodName) prog_56_method_1_code (5 : Nat) (Option.none : Option Jvm.ClassFile.FieldType), Jvm.Cond.code ({ cls := "java/lang/Record", name := "<init>", desc := "()V" } : Jvm.MethodName) jdk_30_method_1_code (1 : Nat) (Option.none : Option Jvm.ClassFile.FieldType), Jvm.Cond.code ({ cls := "java/lang/Object", name := "<init>", desc := "()V" } : Jvm.MethodName) object_method_1_code (1 : Nat) (Option.none : Option Jvm.ClassFile.FieldType), Jvm.Cond.code ({ cls := "java/lang/Double", name := "isFinite", desc := "(D)Z" } : Jvm.MethodName) jdk_117_method_8_code (2 : Nat) (Option.some Jvm.ClassFile.FieldType.boolean), Jvm.Cond.code ({ cls := "java/lang/Math", name := "abs", desc := "(D)D" } : Jvm.MethodName) jdk_29_method_64_code (2 : Nat) (Option.some Jvm.ClassFile.FieldType.double), Jvm.Cond.code ({ cls := "com/example/bidsmith/bidsmith/market/Range", name := "within", desc := "(DD)Z" } : Jvm.MethodName) prog_56_method_3_code (5 : Nat) (Option.some Jvm.ClassFile.FieldType.boolean)]
set_option maxRecDepth 65536 in
theorem codes_eq : words1.filter isCode = codes1 := rfl
theorem w_codes : ∀ c ∈ words1.filter isCode, c.before args0 about1 = true := by
  rw [codes_eq]
  intro c hc
  simp only [codes1, List.mem_cons, List.not_mem_nil, or_false] at hc
  rcases hc with rfl | rfl | rfl | rfl | rfl | rfl | rfl | rfl | rfl
  · exact w_c0
  · exact w_c1
  · exact w_c2
  · exact w_c3
  · exact w_c4
  · exact w_c5
  · exact w_c6
  · exact w_c7
  · exact w_c8
set_option maxRecDepth 65536 in
theorem w_t1 : (words1.take 24).all (fun c => isCode c || c.before args0 about1) = true := by decide +kernel
set_option maxRecDepth 65536 in
theorem w_t2 : (words1.drop 24).all (fun c => isCode c || c.before args0 about1) = true := by decide +kernel
theorem w_tables : (allAtoms (Jvm.Cond.code x code maxLocals ret :: tables_1)).before args0 about1 = true := by
  rw [allAtoms_all]
  show words1.all (fun c => c.before args0 about1) = true
  refine all_split ?_ w_codes
  rw [← List.take_append_drop 24 words1, List.all_append, w_t1, w_t2]
  rfl
set_option maxRecDepth 65536 in
theorem w_case : (Jvm.Cond.and given_1 narrow_1).before args0 about1 = true := by decide +kernel
theorem w_applies : (headSpec (Jvm.Cond.code x code maxLocals ret :: tables_1) room_1).applies x e0.platform about1 = true :=
  (Spec.applies_iff w_frames).mpr ⟨w_running, w_runnable, w_alone, w_named, w_hears, w_ripe, w_room, w_tables⟩
theorem atStart : AtStart classFile x code maxLocals ret World_1 tables_1 room_1 Calls_1 rest_1 Pre_1 launch0 p0 e0 about1 theMethod args0 below0 :=
  ⟨lists_1, trivial, launch0.admits_env _ _ _, launch0.least_env, fairChoices_fair.cas, fairChoices_fair.clock, w_frames, w_args, w_heap, w_applies, trivial, trivial, w_case⟩
end start1
theorem witness_1 : WitnessClaimed_1 := ⟨start1.p0, start1.e0, start1.about1, start1.theMethod, start1.args0, start1.below0, start1.atStart⟩
end Jvm.Pilot.@@N@@
