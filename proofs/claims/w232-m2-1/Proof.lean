import JvmDerived
import JvmDerived.Pilot.@@N@@Statement
import JvmDerived.Pilot.@@N@@Code
set_option linter.unusedVariables false
set_option linter.unusedSimpArgs false
namespace Jvm.Pilot.@@N@@
open Jvm Jvm.ClassFile Sem Op Lib Jvm.Free Jvm.Stand Jvm.LawKit Jvm.RoadKit Bundle Jvm.Pilot.@@N@@.Jvm.D
section OwnKit
variable {p : Program} {l : Launch} {e : Env} {R : Room} {s : State} {m : MethodId} {args : Array Value} {below : List Frame} {meth : Method} {c : Code} {T : State} {locs : List Loc} {cells slots : Nat} {Z : State} {a0 : Array Value} {h h' : Heap}
/-- from S the run comes to an end of which P holds -/
def Go (p : Program) (e : Env) (below : List Frame) (P : State → Outcome → Prop) (S : State) : Prop :=
  ∃ s₂ o, Steps p.tables e below S s₂ ∧ s₂.status = .running ∧ Ended s₂ below o ∧ P s₂ o
/-- what a contract says of the end -/
def Ret (s : State) (Q : Option Value → Heap → List Loc → Prop) (cs sl : Nat) : State → Outcome → Prop :=
  fun s₂ o => ∃ v L, o = .returned v ∧ Q v s₂.heap L ∧ FrameEnd s o s₂ L cs sl
theorem Go.st {P : State → Outcome → Prop} {S S' : State} (k : ∀ t, Steps p.tables e below S' t → Steps p.tables e below S t) (g : Go p e below P S') : Go p e below P S := by
  obtain ⟨t, o, q, r⟩ := g
  exact ⟨t, o, k t q, r⟩
/-- a contract in this family: entered with these arguments on this heap -/
abbrev Con (l : Launch) (Z : State) (h0 : Heap) (y : MethodName) (bytes : ByteArray) (maxL : Nat) (ret : Option FieldType) (ws : List Jvm.Cond) (rm : Room) (as' : Array Value) (Q : Option Value → Heap → List Loc → Prop) : Prop :=
  MetFree l y (head1 (Jvm.Cond.code y bytes maxL ret :: ws) rm) (fun a U => a = as' ∧ Z.Warmed39 U.vm ∧ U.heap = h0) (fun _ _ _ _ _ => True) (fun _ U o U' => ∃ v L, o = .returned v ∧ Q v U'.heap L ∧ FrameEnd U o U' L rm.cells rm.slots)
theorem own_con {h0 : Heap} {y : MethodName} {bytes : ByteArray} {maxL : Nat} {ret : Option FieldType} {ws : List Jvm.Cond} {rm : Room} {as' : Array Value} {Q : Option Value → Heap → List Loc → Prop} (hpl : plainFor y = true)
    (body : ∀ (p : Program) (e : Env) (s : State) (m : MethodId) (below : List Frame) (meth : Method) (c : Code) (T : State), Stand p l e rm s m as' below meth c T [] 0 0 → p.tables.exec = Jvm.exec → c.code = bytes → c.maxLocals = maxL → s.vm.findClass y.cls = some m.cls → meth.name = y.name → meth.sig.returnType = ret → meth.locks = false → Z.Warmed39 s.vm → T.heap = h0 →
      Go p e below (Ret s Q rm.cells rm.slots) (T.setTop (entryFrame m as' maxL))) : Con l Z h0 y bytes maxL ret ws rm as' Q := by
  refine MetFree.of_bodySF hpl hisR ?_
  intro p e s m args below meth c s₁ Bd hml0 hP hK
  obtain ⟨rfl, hZ, hh⟩ := hP
  exact body p e s m below meth c s₁ (Stand.of_body Bd) Bd.exec Bd.bytes hml0 (findClass_of_methodNamed Bd.named) (name_of_methodNamed Bd.named Bd.method).1 Bd.returns Bd.notSynchronized hZ (by rw [← hh, Bd.state]; rfl)
theorem own_callS (X : Stand p l e R s m args below meth c T locs cells slots) (hx : p.tables.exec = Jvm.exec) (hZ : Z.Warmed39 s.vm)
    {own : String} {index : Nat} {y : MethodName} {bytes : ByteArray} {maxL : Nat} {ret : Option FieldType} {rm : Room} {as' : Array Value} {Q : Option Value → Heap → List Loc → Prop}
    (hown : s.vm.findClass own = some m.cls) (w1 : (Jvm.Cond.methodLink own index y).before a0 Z = true) (w2 : (Jvm.Cond.static y).before a0 Z = true) (w3 : (Jvm.Cond.initialized y.cls).before a0 Z = true) (w4 : (Jvm.Cond.code y bytes maxL ret).before a0 Z = true)
    (hy : y.cls ≠ "java/lang/invoke/MethodHandle" ∧ y.cls ≠ "java/lang/invoke/VarHandle") (eT : T.heap = h) (hM : Con l Z h y bytes maxL ret [] rm as' Q)
    (W : Nat) (hf : rm.frames + 1 ≤ R.frames) (hl : W + (maxL + 11) + rm.locals ≤ R.locals) (hc : cells + rm.cells ≤ R.cells) (hs : slots + rm.slots ≤ R.slots)
    {g : JFrame} (hg : g.method = m) (hsize : g.locals.size = c.maxLocals) (argsL rest : List Value) (has : argsL.toArray = as') (hlen : ∀ sig, parseMethodDescriptor y.desc = some sig → argsL.length = sig.parameters.length) (hstack : g.stack = argsL.reverse ++ rest) (hW : 2 * g.monitorRoom + (rest.map fun v => v.category).sum ≤ W)
    (hd : decode c.code g.pc = .ok (.invokestatic index, 3)) :
    ∃ (v : Option Value) (T' : State) (L : List Loc), Stand p l e R s m args below meth c T' (locs ++ L) (cells + rm.cells) (slots + rm.slots) ∧ Q v T'.heap L ∧ ∀ t, Steps p.tables e below (T'.setTop { g with pc := g.pc + 3, stack := v.toList ++ rest }) t → Steps p.tables e below (T.setTop g) t := by
  obtain ⟨v, _, ⟨T', L', k', n'⟩, -, X', ⟨L, hQ, l1, l2, l3⟩, st⟩ := Jvm.LawKit.callS X hx hown (mvT hZ w1) (mvT hZ w2) (mvT hZ w3) (mvT hZ w4) hy (backOf (W := W) hM hZ w4 w3 hf hl) hg hsize hlen hstack hW hd (fun _ _ => ⟨has, eT, hc, hs⟩)
  dsimp only [Pt.U, Pt.locs, Pt.cells, Pt.slots] at X' l1 l2 l3 st hQ
  subst l1 l2 l3
  exact ⟨v, T', L, X', hQ, st⟩
theorem own_callV (X : Stand p l e R s m args below meth c T locs cells slots) (hx : p.tables.exec = Jvm.exec) (hZ : Z.Warmed39 s.vm)
    {own C : String} {index : Nat} {y z : MethodName} {bytes : ByteArray} {maxL : Nat} {ret : Option FieldType} {rm : Room} {as' : Array Value} {Q : Option Value → Heap → List Loc → Prop} {b : Addr}
    (hown : s.vm.findClass own = some m.cls) (w1 : (Jvm.Cond.methodLink own index y).before a0 Z = true) (w2 : (Jvm.Cond.declares y).before a0 Z = true) (hnf : NotFace s y) (w4 : (Jvm.Cond.selects C y z).before a0 Z = true) (w5 : (Jvm.Cond.instanceMethod z).before a0 Z = true) (w3 : (Jvm.Cond.initialized z.cls).before a0 Z = true) (w6 : (Jvm.Cond.code z bytes maxL ret).before a0 Z = true)
    (hy : y.cls ≠ "java/lang/invoke/MethodHandle" ∧ y.cls ≠ "java/lang/invoke/VarHandle") (eT : T.heap = h) (E : Exa Z h b C) (hM : Con l Z h z bytes maxL ret [] rm as' Q)
    (W : Nat) (hf : rm.frames + 1 ≤ R.frames) (hl : W + (maxL + 11) + rm.locals ≤ R.locals) (hc : cells + rm.cells ≤ R.cells) (hs : slots + rm.slots ≤ R.slots)
    {g : JFrame} (hg : g.method = m) (hsize : g.locals.size = c.maxLocals) (argsL rest : List Value) (has : (.ref b :: argsL).toArray = as') (hlen : ∀ sig, parseMethodDescriptor y.desc = some sig → argsL.length = sig.parameters.length) (hstack : g.stack = argsL.reverse ++ .ref b :: rest) (hW : 2 * g.monitorRoom + (rest.map fun v => v.category).sum ≤ W)
    (hd : decode c.code g.pc = .ok (.invokevirtual index, 3)) :
    ∃ (v : Option Value) (T' : State) (L : List Loc), Stand p l e R s m args below meth c T' (locs ++ L) (cells + rm.cells) (slots + rm.slots) ∧ Q v T'.heap L ∧ ∀ t, Steps p.tables e below (T'.setTop { g with pc := g.pc + 3, stack := v.toList ++ rest }) t → Steps p.tables e below (T.setTop g) t := by
  obtain ⟨cq, kq, qa, qb, qc⟩ := isOf hZ eT E
  obtain ⟨v, _, ⟨T', L', k', n'⟩, -, X', ⟨L, hQ, l1, l2, l3⟩, st⟩ := X.virtualBack hx hown (mvT hZ w1) (mvT hZ w2) hnf (mvT hZ w4) (mvT hZ w5) hy (backOf (W := W) hM hZ w6 w3 hf hl) qa qc hg hsize (Steps.refl _) hlen hstack hW hd (fun _ _ => ⟨has, eT, hc, hs⟩)
  dsimp only [Pt.U, Pt.locs, Pt.cells, Pt.slots] at X' l1 l2 l3 st hQ
  subst l1 l2 l3
  exact ⟨v, T', L, X', hQ, fun t k => st.trans k⟩
theorem own_callI (X : Stand p l e R s m args below meth c T locs cells slots) (hx : p.tables.exec = Jvm.exec) (hZ : Z.Warmed39 s.vm)
    {own : String} {index : Nat} {y : MethodName} {bytes : ByteArray} {maxL : Nat} {rm : Room} {as' : Array Value} {Q : Option Value → Heap → List Loc → Prop} {b : Addr} (hy1 : y.name = "<init>")
    (hown : s.vm.findClass own = some m.cls) (w1 : (Jvm.Cond.methodLink own index y).before a0 Z = true) (w5 : (Jvm.Cond.instanceMethod y).before a0 Z = true) (w3 : (Jvm.Cond.initialized y.cls).before a0 Z = true) (w6 : (Jvm.Cond.code y bytes maxL none).before a0 Z = true)
    (hy : y.cls ≠ "java/lang/invoke/MethodHandle" ∧ y.cls ≠ "java/lang/invoke/VarHandle") (eT : T.heap = h) (hM : Con l Z h y bytes maxL none [] rm as' Q)
    (W : Nat) (hf : rm.frames + 1 ≤ R.frames) (hl : W + (maxL + 11) + rm.locals ≤ R.locals) (hc : cells + rm.cells ≤ R.cells) (hs : slots + rm.slots ≤ R.slots)
    {g : JFrame} (hg : g.method = m) (hsize : g.locals.size = c.maxLocals) (argsL rest : List Value) (has : (.ref b :: argsL).toArray = as') (hlen : ∀ sig, parseMethodDescriptor y.desc = some sig → argsL.length = sig.parameters.length) (hstack : g.stack = argsL.reverse ++ .ref b :: rest) (hW : 2 * g.monitorRoom + (rest.map fun v => v.category).sum ≤ W)
    (hd : decode c.code g.pc = .ok (.invokespecial index, 3)) :
    ∃ (v : Option Value) (T' : State) (L : List Loc), Stand p l e R s m args below meth c T' (locs ++ L) (cells + rm.cells) (slots + rm.slots) ∧ Q v T'.heap L ∧ ∀ t, Steps p.tables e below (T'.setTop { g with pc := g.pc + 3, stack := v.toList ++ rest }) t → Steps p.tables e below (T.setTop g) t := by
  obtain ⟨v, _, ⟨T', L', k', n'⟩, -, X', ⟨L, hQ, l1, l2, l3⟩, st⟩ := X.specialBack hx hy1 hown (mvT hZ w1) (mvT hZ w5) (mvT hZ w6) hy (backOf (W := W) hM hZ w6 w3 hf hl) hg hsize (Steps.refl _) hlen hstack hW hd (fun _ _ => ⟨has, eT, hc, hs⟩)
  dsimp only [Pt.U, Pt.locs, Pt.cells, Pt.slots] at X' l1 l2 l3 st hQ
  subst l1 l2 l3
  exact ⟨v, T', L, X', hQ, fun t k => st.trans k⟩
/-- the end of a walk -/
theorem own_fin (X : Stand p l e R s m args below meth c T locs cells slots) (hlk : meth.locks = false) {v : Option Value} (hv : meth.sig.returnType = none → v = none) {Q : Option Value → Heap → List Loc → Prop} {cs sl : Nat} (eT : T.heap = h) (hQ : Q v h locs) (hc : cells ≤ cs) (hs : slots ≤ sl) {S : State}
    (k : ∀ fs : List Frame, (∀ (f : JFrame) (acts : List Action), f.method = m → f.locked = none → f.entered = [] → (doReturn e (T.setTop f) acts v).1 = T.setFrames fs) → Steps p.tables e below S (T.setFrames fs)) : Go p e below (Ret s Q cs sl) S := by
  obtain ⟨fs, hr, hrun, hended, hW, hsame⟩ := X.leave hv hlk
  refine ⟨_, _, k fs hr, hrun, hended, _, _, rfl, ?_, ⟨_, rfl⟩, hW, hsame.mono hc hs⟩
  have q : (T.setFrames fs).heap = h := eT
  rw [q]; exact hQ
theorem own_retO (X : Stand p l e R s m args below meth c T locs cells slots) (hx : p.tables.exec = Jvm.exec) (hlk : meth.locks = false) {pc : Nat} {Ls : Array Slot} {w : Value} {t : FieldType} {i : Instr} {rest : List Value} (hret : meth.sig.returnType = some t) (hn : narrow t w = w)
    (hi : (i = .ireturn ∧ (t = .int ∨ t = .boolean ∨ t = .byte ∨ t = .char ∨ t = .short) ∧ ∃ z, w = .int z) ∨ (i = .lreturn ∧ t = .long ∧ ∃ z, w = .long z) ∨ (i = .dreturn ∧ t = .double ∧ ∃ z, w = .double z) ∨ (i = .freturn ∧ t = .float ∧ ∃ z, w = .float z) ∨ (i = .areturn ∧ t.isReference = true ∧ w.isRef = true))
    (hd : decode c.code pc = .ok (i, 1)) {Q : Option Value → Heap → List Loc → Prop} {cs sl : Nat} (eT : T.heap = h) (hQ : Q (some w) h locs) (hc : cells ≤ cs) (hs : slots ≤ sl) : Go p e below (Ret s Q cs sl) (T.setTop (mkF m pc Ls (w :: rest))) :=
  own_fin X hlk (fun q => by rw [hret] at q; cases q) eT hQ hc hs fun fs hr => retOut X hx hret hn hi hd hr
theorem own_retI (X : Stand p l e R s m args below meth c T locs cells slots) (hx : p.tables.exec = Jvm.exec) (hlk : meth.locks = false) {pc : Nat} {Ls : Array Slot} {w : Int32} {rest : List Value} (hret : meth.sig.returnType = some .int)
    (hd : decode c.code pc = .ok (.ireturn, 1)) {Q : Option Value → Heap → List Loc → Prop} {cs sl : Nat} (eT : T.heap = h) (hQ : Q (some (.int w)) h locs) (hc : cells ≤ cs) (hs : slots ≤ sl) : Go p e below (Ret s Q cs sl) (T.setTop (mkF m pc Ls (.int w :: rest))) :=
  own_retO X hx hlk hret rfl (Or.inl ⟨rfl, Or.inl rfl, _, rfl⟩) hd eT hQ hc hs
theorem own_retJ (X : Stand p l e R s m args below meth c T locs cells slots) (hx : p.tables.exec = Jvm.exec) (hlk : meth.locks = false) {pc : Nat} {Ls : Array Slot} {w : Int64} {rest : List Value} (hret : meth.sig.returnType = some .long)
    (hd : decode c.code pc = .ok (.lreturn, 1)) {Q : Option Value → Heap → List Loc → Prop} {cs sl : Nat} (eT : T.heap = h) (hQ : Q (some (.long w)) h locs) (hc : cells ≤ cs) (hs : slots ≤ sl) : Go p e below (Ret s Q cs sl) (T.setTop (mkF m pc Ls (.long w :: rest))) :=
  own_retO X hx hlk hret rfl (Or.inr (Or.inl ⟨rfl, rfl, _, rfl⟩)) hd eT hQ hc hs
theorem own_retA (X : Stand p l e R s m args below meth c T locs cells slots) (hx : p.tables.exec = Jvm.exec) (hlk : meth.locks = false) {pc : Nat} {Ls : Array Slot} {w : Value} {t : FieldType} {rest : List Value} (hret : meth.sig.returnType = some t) (hn : narrow t w = w) (ht : t.isReference = true) (hw : w.isRef = true)
    (hd : decode c.code pc = .ok (.areturn, 1)) {Q : Option Value → Heap → List Loc → Prop} {cs sl : Nat} (eT : T.heap = h) (hQ : Q (some w) h locs) (hc : cells ≤ cs) (hs : slots ≤ sl) : Go p e below (Ret s Q cs sl) (T.setTop (mkF m pc Ls (w :: rest))) :=
  own_retO X hx hlk hret hn (Or.inr (Or.inr (Or.inr (Or.inr ⟨rfl, ht, hw⟩)))) hd eT hQ hc hs
theorem own_retN (X : Stand p l e R s m args below meth c T locs cells slots) (hx : p.tables.exec = Jvm.exec) (hlk : meth.locks = false) {pc : Nat} {Ls : Array Slot} {z : Int32} {t : FieldType} {rest : List Value} (hret : meth.sig.returnType = some t) (ht : t = .boolean ∨ t = .byte ∨ t = .char ∨ t = .short)
    (hd : decode c.code pc = .ok (.ireturn, 1)) {Q : Option Value → Heap → List Loc → Prop} {cs sl : Nat} (eT : T.heap = h) (hQ : Q (some (.int (nar t z))) h locs) (hc : cells ≤ cs) (hs : slots ≤ sl) : Go p e below (Ret s Q cs sl) (T.setTop (mkF m pc Ls (.int z :: rest))) :=
  own_fin X hlk (fun q => by rw [hret] at q; cases q) eT hQ hc hs fun fs hr => retN X hx hret ht hd hr
theorem own_retV (X : Stand p l e R s m args below meth c T locs cells slots) (hx : p.tables.exec = Jvm.exec) (hlk : meth.locks = false) {pc : Nat} {Ls : Array Slot} (hret : meth.sig.returnType = none)
    (hd : decode c.code pc = .ok (.return_, 1)) {Q : Option Value → Heap → List Loc → Prop} {cs sl : Nat} (eT : T.heap = h) (hQ : Q none h locs) (hc : cells ≤ cs) (hs : slots ≤ sl) : Go p e below (Ret s Q cs sl) (T.setTop (mkF m pc Ls [])) :=
  own_fin X hlk (fun _ => rfl) eT hQ hc hs fun fs hr => X.returnOut hx hret hd hr
theorem own_Llt {x y : Int64} (h : x < y) : ifCond.holds .lt (lcmpW x y) = true ∧ ifCond.holds .ge (lcmpW x y) = false := by
  have q := (lc_lt x y).mpr h; rw [← lcW] at q; exact ⟨(if0 _ _).trans (tlt q).1, (if0 _ _).trans (tlt q).2.1⟩
theorem own_Lnlt {x y : Int64} (h : ¬ x < y) : ifCond.holds .lt (lcmpW x y) = false ∧ ifCond.holds .ge (lcmpW x y) = true := by
  have q : ¬ lcmpW x y < 0 := fun r => h ((lc_lt x y).mp (by rw [← lcW]; exact r)); exact ⟨(if0 _ _).trans (flt q).1, (if0 _ _).trans (flt q).2.1⟩
theorem own_Lgt {x y : Int64} (h : y < x) : ifCond.holds .gt (lcmpW x y) = true ∧ ifCond.holds .le (lcmpW x y) = false := by
  have q := (lc_gt x y).mpr h; rw [← lcW] at q; exact ⟨(if0 _ _).trans (tlt q).2.2.1, (if0 _ _).trans (tlt q).2.2.2⟩
theorem own_Lngt {x y : Int64} (h : ¬ y < x) : ifCond.holds .gt (lcmpW x y) = false ∧ ifCond.holds .le (lcmpW x y) = true := by
  have q : ¬ 0 < lcmpW x y := fun r => h ((lc_gt x y).mp (by rw [← lcW]; exact r)); exact ⟨(if0 _ _).trans (flt q).2.2.1, (if0 _ _).trans (flt q).2.2.2⟩
theorem own_Leq {x y : Int64} (h : x = y) : ifCond.holds .eq (lcmpW x y) = true ∧ ifCond.holds .ne (lcmpW x y) = false := by
  have q := (lc_eq x y).mpr h; rw [← lcW] at q; exact ⟨(if0 _ _).trans (teq q).1, (if0 _ _).trans (teq q).2⟩
theorem own_Lne {x y : Int64} (h : ¬ x = y) : ifCond.holds .eq (lcmpW x y) = false ∧ ifCond.holds .ne (lcmpW x y) = true := by
  have q : ¬ lcmpW x y = 0 := fun r => h ((lc_eq x y).mp (by rw [← lcW]; exact r)); exact ⟨(if0 _ _).trans (feq q).1, (if0 _ _).trans (feq q).2⟩
theorem own_Ext.refl (h : Heap) : Ext h h := ⟨Nat.le_refl _, fun _ _ q => q⟩
theorem own_Ext.trans {h1 h2 h3 : Heap} (a : Ext h1 h2) (b : Ext h2 h3) : Ext h1 h3 := ⟨Nat.le_trans a.1 b.1, fun x c q => b.2 x c (a.2 x c q)⟩
theorem own_Ext.wr {h0 : Heap} {a : Addr} {sl : Nat} {v : Value} (E : Ext h0 h) (W : Wr h h' a sl v) (q : h0.size ≤ a) : Ext h0 h' := by
  have K : Keep h0 h [] := ⟨E.1, fun x c r _ => E.2 x c r, fun x c r => ⟨c, E.2 x c r, rfl, rfl, rfl⟩⟩
  have K' := K.wr W (Or.inr q)
  exact ⟨K'.1, fun x c r => K'.2.1 x c r (fun z => nomatch z)⟩
theorem own_Ext.keep {h0 : Heap} {ws : List Addr} (E : Ext h0 h) (K : Keep h h' ws) (q : ∀ x ∈ ws, h0.size ≤ x) : Ext h0 h' := by
  refine ⟨Nat.le_trans E.1 K.1, fun x c r => K.2.1 x c (E.2 x c r) fun z => ?_⟩
  have lt : x < h0.size := (Array.getElem?_eq_some_iff.mp r).1
  exact absurd (q x z) (Nat.not_le_of_lt lt)
theorem own_fldI {t : Term} {x : Addr} {C n d : String} {k : Int32} (ev : t.eval args s none [] s = some (.ref x)) (hq : (Jvm.Cond.eq (.field t C n d) (.int k)).value args s none s [] = some true) : Fld s s.heap x C n d (.int k) := by
  obtain ⟨u, v, e1, e2, k1, k2⟩ := cmp_v (Or.inl hq)
  obtain rfl : v = .int k := (Option.some.inj (e2.symm.trans (Term.int_eval k)))
  obtain ⟨z, rfl⟩ := k2
  obtain rfl : z = k := gotT (Jvm.Cond.eq_ints e1 (Term.int_eval k)) hq
  exact Fld.start ((fld_at ev).symm.trans e1)
theorem own_fldJ {t : Term} {x : Addr} {C n d : String} {k : Int64} (ev : t.eval args s none [] s = some (.ref x)) (hq : (Jvm.Cond.eq (.field t C n d) (.long k)).value args s none s [] = some true) : Fld s s.heap x C n d (.long k) := by
  obtain ⟨u, v, e1, e2, k1, k2⟩ := cmp_v (Or.inl hq)
  obtain rfl : v = .long k := (Option.some.inj (e2.symm.trans (long_at k)))
  obtain ⟨z, rfl⟩ := k2
  obtain rfl : z = k := gotT (eq_L e1 (long_at k)) hq
  exact Fld.start ((fld_at ev).symm.trans e1)
theorem own_len0 {t : Term} {x : Addr} {ty : FieldType} {cl : Cell} (ev : t.eval args s none [] s = some (.ref x)) (A : Arr s s.heap x cl ty) (hq : (Jvm.Cond.eq (.length t) (.int 0)).value args s none s [] = some true) : True := trivial
end OwnKit
/-- the sheet's i-th word -/
theorem ww {Z : State} {a0 : Array Value} (hw : ∀ d ∈ tables_1, d.before a0 Z = true) (i : Nat) {d : Jvm.Cond} (h : tables_1[i]? = some d) : d.before a0 Z = true := hw _ (List.mem_of_getElem? h)
section OwnHeap
variable {p : Program} {l : Launch} {e : Env} {R : Room} {s : State} {m : MethodId} {args : Array Value} {below : List Frame} {meth : Method} {c : Code} {T : State} {locs : List Loc} {cells slots : Nat} {Z : State} {a0 : Array Value} {h h' : Heap} {a : Addr} {k : ClassId} {ty : FieldType} {z j : Int32} {vs : List Value} {dv v : Value} {g : JFrame} {rest : List Value}
theorem own_arvset {i : Nat} (F : Arv Z h a k ty z vs dv) (hv : fits ty v = true) (W : Wr h h' a j.toNatClampNeg v) (hi : j.toNatClampNeg = i) (hl : i < vs.length) : Arv Z h' a k ty z (vs.set i v) dv := by
  obtain ⟨cl, A, q, S, N, H, G⟩ := F
  exact Arv.set A q S N H G hv W i hi hl
theorem own_stI (X : Stand p l e R s m args below meth c T locs cells slots) (hx : p.tables.exec = Jvm.exec) (hZ : Z.Warmed39 s.vm) (eT : T.heap = h) (F : Arv Z h a k .int z vs dv) {x : Int32} (hj : ¬ j < 0 ∧ j < z) (i : Nat) (hi : j.toNatClampNeg = i) (hl : i < vs.length) (hg : g.method = m) (hs : g.stack = .int x :: .int j :: .ref a :: rest) (hd : decode c.code g.pc = .ok (.iastore, 1)) :
    ∃ T' h', Stand p l e R s m args below meth c T' (locs ++ [⟨a, j.toNatClampNeg⟩]) cells slots ∧ T'.heap = h' ∧ Wr h h' a j.toNatClampNeg (.int x) ∧ Arv Z h' a k .int z (vs.set i (.int x)) dv ∧ ∀ target, Steps p.tables e below (T'.setTop { g with pc := g.pc + 1, stack := rest }) target → Steps p.tables e below (T.setTop g) target := by
  obtain ⟨cl, A, q, S, N, H, G⟩ := id F
  obtain ⟨T', h', X', e', W, st⟩ := stI X hx hZ eT A (inb_of S hj) hg hs hd
  exact ⟨T', h', X', e', W, own_arvset F rfl W hi hl, st⟩
theorem own_stJ (X : Stand p l e R s m args below meth c T locs cells slots) (hx : p.tables.exec = Jvm.exec) (hZ : Z.Warmed39 s.vm) (eT : T.heap = h) (F : Arv Z h a k .long z vs dv) {x : Int64} (hj : ¬ j < 0 ∧ j < z) (i : Nat) (hi : j.toNatClampNeg = i) (hl : i < vs.length) (hg : g.method = m) (hs : g.stack = .long x :: .int j :: .ref a :: rest) (hd : decode c.code g.pc = .ok (.lastore, 1)) :
    ∃ T' h', Stand p l e R s m args below meth c T' (locs ++ [⟨a, j.toNatClampNeg⟩]) cells slots ∧ T'.heap = h' ∧ Wr h h' a j.toNatClampNeg (.long x) ∧ Arv Z h' a k .long z (vs.set i (.long x)) dv ∧ ∀ target, Steps p.tables e below (T'.setTop { g with pc := g.pc + 1, stack := rest }) target → Steps p.tables e below (T.setTop g) target := by
  obtain ⟨cl, A, q, S, N, H, G⟩ := id F
  obtain ⟨T', h', X', e', W, st⟩ := stJ X hx hZ eT A (inb_of S hj) hg hs hd
  exact ⟨T', h', X', e', W, own_arvset F rfl W hi hl, st⟩
theorem own_stB (X : Stand p l e R s m args below meth c T locs cells slots) (hx : p.tables.exec = Jvm.exec) (hZ : Z.Warmed39 s.vm) (eT : T.heap = h) (F : Arv Z h a k .byte z vs dv) {x : Int32} (hj : ¬ j < 0 ∧ j < z) (i : Nat) (hi : j.toNatClampNeg = i) (hl : i < vs.length) (hg : g.method = m) (hs : g.stack = .int x :: .int j :: .ref a :: rest) (hd : decode c.code g.pc = .ok (.bastore, 1)) :
    ∃ T' h', Stand p l e R s m args below meth c T' (locs ++ [⟨a, j.toNatClampNeg⟩]) cells slots ∧ T'.heap = h' ∧ Wr h h' a j.toNatClampNeg (.int (nar .byte x)) ∧ Arv Z h' a k .byte z (vs.set i (.int (nar .byte x))) dv ∧ ∀ target, Steps p.tables e below (T'.setTop { g with pc := g.pc + 1, stack := rest }) target → Steps p.tables e below (T.setTop g) target := by
  obtain ⟨cl, A, q, S, N, H, G⟩ := id F
  obtain ⟨T', h', X', e', W, st⟩ := stB X hx hZ eT A (inb_of S hj) hg hs hd
  exact ⟨T', h', X', e', W, own_arvset F (fits_nar_byte _) W hi hl, st⟩
theorem own_stC (X : Stand p l e R s m args below meth c T locs cells slots) (hx : p.tables.exec = Jvm.exec) (hZ : Z.Warmed39 s.vm) (eT : T.heap = h) (F : Arv Z h a k .char z vs dv) {x : Int32} (hj : ¬ j < 0 ∧ j < z) (i : Nat) (hi : j.toNatClampNeg = i) (hl : i < vs.length) (hg : g.method = m) (hs : g.stack = .int x :: .int j :: .ref a :: rest) (hd : decode c.code g.pc = .ok (.castore, 1)) :
    ∃ T' h', Stand p l e R s m args below meth c T' (locs ++ [⟨a, j.toNatClampNeg⟩]) cells slots ∧ T'.heap = h' ∧ Wr h h' a j.toNatClampNeg (.int (nar .char x)) ∧ Arv Z h' a k .char z (vs.set i (.int (nar .char x))) dv ∧ ∀ target, Steps p.tables e below (T'.setTop { g with pc := g.pc + 1, stack := rest }) target → Steps p.tables e below (T.setTop g) target := by
  obtain ⟨cl, A, q, S, N, H, G⟩ := id F
  obtain ⟨T', h', X', e', W, st⟩ := stC X hx hZ eT A (inb_of S hj) hg hs hd
  exact ⟨T', h', X', e', W, own_arvset F (fits_nar_char _) W hi hl, st⟩
theorem own_stR (X : Stand p l e R s m args below meth c T locs cells slots) (hx : p.tables.exec = Jvm.exec) (hZ : Z.Warmed39 s.vm) (eT : T.heap = h) {C : String} {y : Addr} (F : Arv Z h a k (.object C) z vs dv) (O : Ovr Z k C) (I : Ins Z h y C true) (hj : ¬ j < 0 ∧ j < z) (i : Nat) (hi : j.toNatClampNeg = i) (hl : i < vs.length) (hg : g.method = m) (hs : g.stack = .ref y :: .int j :: .ref a :: rest) (hd : decode c.code g.pc = .ok (.aastore, 1)) :
    ∃ T' h', Stand p l e R s m args below meth c T' (locs ++ [⟨a, j.toNatClampNeg⟩]) cells slots ∧ T'.heap = h' ∧ Wr h h' a j.toNatClampNeg (.ref y) ∧ Arv Z h' a k (.object C) z (vs.set i (.ref y)) dv ∧ ∀ target, Steps p.tables e below (T'.setTop { g with pc := g.pc + 1, stack := rest }) target → Steps p.tables e below (T.setTop g) target := by
  obtain ⟨cl, A, q, S, N, H, G⟩ := id F
  obtain ⟨T', h', X', e', W, st⟩ := stR X hx hZ eT A (inb_of S hj) rfl (Sto.ofV A q O I) hg hs hd
  exact ⟨T', h', X', e', W, own_arvset F rfl W hi hl, st⟩
theorem own_ldR (X : Stand p l e R s m args below meth c T locs cells slots) (hx : p.tables.exec = Jvm.exec) (hZ : Z.Warmed39 s.vm) (eT : T.heap = h) (F : Arv Z h a k ty z vs dv) (hty : ty.isReference = true) (hj : ¬ j < 0 ∧ j < z) (hv : vs.getD j.toNatClampNeg dv = v) (hg : g.method = m) (hs : g.stack = .int j :: .ref a :: rest) (hd : decode c.code g.pc = .ok (.aaload, 1)) :
    ∀ target, Steps p.tables e below (T.setTop { g with pc := g.pc + 1, stack := v :: rest }) target → Steps p.tables e below (T.setTop g) target := by
  obtain ⟨cl, A, q, S, N, H, G⟩ := F
  exact fun t k => X.aaload hx (by rw [eT]; exact A.1) (State.isArrayOf_alike hZ.alike A.2.1) hty A.2.2 (inb_of S hj) (H.at (inb_of S hj) hv) hg hs hd t k
theorem own_ldJ (X : Stand p l e R s m args below meth c T locs cells slots) (hx : p.tables.exec = Jvm.exec) (hZ : Z.Warmed39 s.vm) (eT : T.heap = h) (F : Arv Z h a k .long z vs dv) (hj : ¬ j < 0 ∧ j < z) (hv : vs.getD j.toNatClampNeg dv = v) (hg : g.method = m) (hs : g.stack = .int j :: .ref a :: rest) (hd : decode c.code g.pc = .ok (.laload, 1)) :
    ∀ target, Steps p.tables e below (T.setTop { g with pc := g.pc + 1, stack := v :: rest }) target → Steps p.tables e below (T.setTop g) target := by
  obtain ⟨cl, A, q, S, N, H, G⟩ := F
  exact fun t k => X.laload hx (by rw [eT]; exact A.1) (State.isArrayOf_alike hZ.alike A.2.1) A.2.2 (inb_of S hj) (H.at (inb_of S hj) hv) hg hs hd t k
theorem own_ldI (X : Stand p l e R s m args below meth c T locs cells slots) (hx : p.tables.exec = Jvm.exec) (hZ : Z.Warmed39 s.vm) (eT : T.heap = h) (F : Arv Z h a k .int z vs dv) (hj : ¬ j < 0 ∧ j < z) (hv : vs.getD j.toNatClampNeg dv = v) (hg : g.method = m) (hs : g.stack = .int j :: .ref a :: rest) (hd : decode c.code g.pc = .ok (.iaload, 1)) :
    ∀ target, Steps p.tables e below (T.setTop { g with pc := g.pc + 1, stack := v :: rest }) target → Steps p.tables e below (T.setTop g) target := by
  obtain ⟨cl, A, q, S, N, H, G⟩ := F
  exact fun t k => X.iaload hx (by rw [eT]; exact A.1) (State.isArrayOf_alike hZ.alike A.2.1) A.2.2 (inb_of S hj) (H.at (inb_of S hj) hv) hg hs hd t k
theorem own_ldB (X : Stand p l e R s m args below meth c T locs cells slots) (hx : p.tables.exec = Jvm.exec) (hZ : Z.Warmed39 s.vm) (eT : T.heap = h) (F : Arv Z h a k .byte z vs dv) (hj : ¬ j < 0 ∧ j < z) (hv : vs.getD j.toNatClampNeg dv = v) (hg : g.method = m) (hs : g.stack = .int j :: .ref a :: rest) (hd : decode c.code g.pc = .ok (.baload, 1)) :
    ∀ target, Steps p.tables e below (T.setTop { g with pc := g.pc + 1, stack := v :: rest }) target → Steps p.tables e below (T.setTop g) target := by
  obtain ⟨cl, A, q, S, N, H, G⟩ := F
  exact fun t k => X.baloadBytes hx (by rw [eT]; exact A.1) (State.isArrayOf_alike hZ.alike A.2.1) A.2.2 (inb_of S hj) (H.at (inb_of S hj) hv) hg hs hd t k
theorem own_alen (X : Stand p l e R s m args below meth c T locs cells slots) (hx : p.tables.exec = Jvm.exec) (hZ : Z.Warmed39 s.vm) (eT : T.heap = h) (F : Arv Z h a k ty z vs dv) (hg : g.method = m) (hs : g.stack = .ref a :: rest) (hd : decode c.code g.pc = .ok (.arraylength, 1)) :
    ∀ target, Steps p.tables e below (T.setTop { g with pc := g.pc + 1, stack := .int z :: rest }) target → Steps p.tables e below (T.setTop g) target := by
  obtain ⟨cl, A, q, S, N, H, G⟩ := F
  intro t k
  refine X.arraylength hx (by rw [eT]; exact A.1) (State.isArrayOf_alike hZ.alike A.2.1) hg hs hd t ?_
  rw [len_of S N]; exact k
theorem own_lt_ne {x y : Addr} (q : x < h.size) (g : y = h.size) : x ≠ y := Nat.ne_of_lt (g ▸ q)
theorem own_lt_ne' {x y : Addr} (q : x < h.size) (g : h.size ≤ y) : x ≠ y := Nat.ne_of_lt (Nat.lt_of_lt_of_le q g)
theorem own_callVU (X : Stand p l e R s m args below meth c T locs cells slots) (hx : p.tables.exec = Jvm.exec) (hZ : Z.Warmed39 s.vm)
    {own C owner : String} {index : Nat} {y z : MethodName} {bytes : ByteArray} {maxL : Nat} {ret : Option FieldType} {rm : Room} {as' : Array Value} {Q : Option Value → Heap → List Loc → Prop} {b : Addr}
    (hown : s.vm.findClass own = some m.cls) (w1 : (Jvm.Cond.methodLink own index y).before a0 Z = true) (w2 : (Jvm.Cond.sameMethod y.cls owner y.name y.desc).before a0 Z = true) (w7 : (Jvm.Cond.declares ⟨owner, y.name, y.desc⟩).before a0 Z = true) (ho : owner ≠ "java/lang/invoke/MethodHandle" ∧ owner ≠ "java/lang/invoke/VarHandle") (w4 : (Jvm.Cond.selects C y z).before a0 Z = true) (w5 : (Jvm.Cond.instanceMethod z).before a0 Z = true) (w3 : (Jvm.Cond.initialized z.cls).before a0 Z = true) (w6 : (Jvm.Cond.code z bytes maxL ret).before a0 Z = true)
    (eT : T.heap = h) (E : Exa Z h b C) (hM : Con l Z h z bytes maxL ret [] rm as' Q)
    (W : Nat) (hf : rm.frames + 1 ≤ R.frames) (hl : W + (maxL + 11) + rm.locals ≤ R.locals) (hc : cells + rm.cells ≤ R.cells) (hs : slots + rm.slots ≤ R.slots)
    {g : JFrame} (hg : g.method = m) (hsize : g.locals.size = c.maxLocals) (argsL rest : List Value) (has : (.ref b :: argsL).toArray = as') (hlen : ∀ sig, parseMethodDescriptor y.desc = some sig → argsL.length = sig.parameters.length) (hstack : g.stack = argsL.reverse ++ .ref b :: rest) (hW : 2 * g.monitorRoom + (rest.map fun v => v.category).sum ≤ W)
    (hd : decode c.code g.pc = .ok (.invokevirtual index, 3)) :
    ∃ (v : Option Value) (T' : State) (L : List Loc), Stand p l e R s m args below meth c T' (locs ++ L) (cells + rm.cells) (slots + rm.slots) ∧ Q v T'.heap L ∧ ∀ t, Steps p.tables e below (T'.setTop { g with pc := g.pc + 3, stack := v.toList ++ rest }) t → Steps p.tables e below (T.setTop g) t := by
  obtain ⟨cq, kq, qa, qb, qc⟩ := isOf hZ eT E
  obtain ⟨v, _, ⟨T', L', k', n'⟩, -, X', ⟨L, hQ, l1, l2, l3⟩, st⟩ := X.virtualBackUp hx hown (mvT hZ w1) (mvT hZ w2) (mvT hZ w7) ho (mvT hZ w4) (mvT hZ w5) (backOf (W := W) hM hZ w6 w3 hf hl) qa qc hg hsize (Steps.refl _) hlen hstack hW hd (fun _ _ => ⟨has, eT, hc, hs⟩)
  dsimp only [Pt.U, Pt.locs, Pt.cells, Pt.slots] at X' l1 l2 l3 st hQ
  subst l1 l2 l3
  exact ⟨v, T', L, X', hQ, fun t k => st.trans k⟩
theorem own_callF (X : Stand p l e R s m args below meth c T locs cells slots) (hx : p.tables.exec = Jvm.exec) (hZ : Z.Warmed39 s.vm)
    {own C : String} {index count : Nat} {y z : MethodName} {bytes : ByteArray} {maxL : Nat} {ret : Option FieldType} {rm : Room} {as' : Array Value} {Q : Option Value → Heap → List Loc → Prop} {b : Addr}
    (hown : s.vm.findClass own = some m.cls) (w1 : (Jvm.Cond.methodLink own index y).before a0 Z = true) (w2 : (Jvm.Cond.declares y).before a0 Z = true) (w7 : (Jvm.Cond.interfaceMethod y.cls y.cls y.name y.desc).before a0 Z = true) (w4 : (Jvm.Cond.selects C y z).before a0 Z = true) (w5 : (Jvm.Cond.instanceMethod z).before a0 Z = true) (w8 : (Jvm.Cond.publicMethod z).before a0 Z = true) (w9 : (Jvm.Cond.unhidden C y.name y.desc).before a0 Z = true) (w10 : (Jvm.Cond.castable C y.cls).before a0 Z = true) (w3 : (Jvm.Cond.initialized z.cls).before a0 Z = true) (w6 : (Jvm.Cond.code z bytes maxL ret).before a0 Z = true)
    (hy : y.cls ≠ "java/lang/invoke/MethodHandle" ∧ y.cls ≠ "java/lang/invoke/VarHandle") (eT : T.heap = h) (E : Exa Z h b C) (hM : Con l Z h z bytes maxL ret [] rm as' Q)
    (W : Nat) (hf : rm.frames + 1 ≤ R.frames) (hl : W + (maxL + 11) + rm.locals ≤ R.locals) (hc : cells + rm.cells ≤ R.cells) (hs : slots + rm.slots ≤ R.slots)
    {g : JFrame} (hg : g.method = m) (hsize : g.locals.size = c.maxLocals) (argsL rest : List Value) (has : (.ref b :: argsL).toArray = as') (hlen : ∀ sig, parseMethodDescriptor y.desc = some sig → argsL.length = sig.parameters.length) (hstack : g.stack = argsL.reverse ++ .ref b :: rest) (hW : 2 * g.monitorRoom + (rest.map fun v => v.category).sum ≤ W)
    (hd : decode c.code g.pc = .ok (.invokeinterface index count, 5)) :
    ∃ (v : Option Value) (T' : State) (L : List Loc), Stand p l e R s m args below meth c T' (locs ++ L) (cells + rm.cells) (slots + rm.slots) ∧ Q v T'.heap L ∧ ∀ t, Steps p.tables e below (T'.setTop { g with pc := g.pc + 5, stack := v.toList ++ rest }) t → Steps p.tables e below (T.setTop g) t := by
  obtain ⟨cq, kq, qa, qb, qc⟩ := isOf hZ eT E
  obtain ⟨v, _, ⟨T', L', k', n'⟩, -, X', ⟨L, hQ, l1, l2, l3⟩, st⟩ := X.interfaceBack hx hown (mvT hZ w1) (mvT hZ w2) (mvT hZ w7 (by simp [Cond.onTables, Cond.keepsFace, Cond.keeps, Cond.steady, Cond.faceAtom, hy.1, hy.2])) (mvT hZ w4) (mvT hZ w5) (mvT hZ w8) (mvT hZ w9) (mvT hZ w10) hy (backOf (W := W) hM hZ w6 w3 hf hl) qa qb qc hg hsize (Steps.refl _) hlen hstack hW hd (fun _ _ => ⟨has, eT, hc, hs⟩)
  dsimp only [Pt.U, Pt.locs, Pt.cells, Pt.slots] at X' l1 l2 l3 st hQ
  subst l1 l2 l3
  exact ⟨v, T', L, X', hQ, fun t k => st.trans k⟩
theorem own_callP (X : Stand p l e R s m args below meth c T locs cells slots) (hx : p.tables.exec = Jvm.exec) (hZ : Z.Warmed39 s.vm)
    {own : String} {index n : Nat} {y : MethodName} {bytes : ByteArray} {maxL : Nat} {ret : Option FieldType} {rm : Room} {as' : Array Value} {Q : Option Value → Heap → List Loc → Prop} {b : Addr} {C : String}
    (hown : s.vm.findClass own = some m.cls) (w1 : (Jvm.Cond.methodLink own index y).before a0 Z = true) (w5 : (Jvm.Cond.instanceMethod y).before a0 Z = true) (w2 : (Jvm.Cond.privateMethod y).before a0 Z = true) (wi : (Jvm.Cond.instantiable y.cls n).before a0 Z = true) (w3 : (Jvm.Cond.initialized y.cls).before a0 Z = true) (w6 : (Jvm.Cond.code y bytes maxL ret).before a0 Z = true)
    (hy : y.cls ≠ "java/lang/invoke/MethodHandle" ∧ y.cls ≠ "java/lang/invoke/VarHandle") (eT : T.heap = h) (E : Exa Z h b C) (hM : Con l Z h y bytes maxL ret [] rm as' Q)
    (W : Nat) (hf : rm.frames + 1 ≤ R.frames) (hl : W + (maxL + 11) + rm.locals ≤ R.locals) (hc : cells + rm.cells ≤ R.cells) (hs : slots + rm.slots ≤ R.slots)
    {g : JFrame} (hg : g.method = m) (hsize : g.locals.size = c.maxLocals) (argsL rest : List Value) (has : (.ref b :: argsL).toArray = as') (hlen : ∀ sig, parseMethodDescriptor y.desc = some sig → argsL.length = sig.parameters.length) (hstack : g.stack = argsL.reverse ++ .ref b :: rest) (hW : 2 * g.monitorRoom + (rest.map fun v => v.category).sum ≤ W)
    (hd : decode c.code g.pc = .ok (.invokevirtual index, 3)) :
    ∃ (v : Option Value) (T' : State) (L : List Loc), Stand p l e R s m args below meth c T' (locs ++ L) (cells + rm.cells) (slots + rm.slots) ∧ Q v T'.heap L ∧ ∀ t, Steps p.tables e below (T'.setTop { g with pc := g.pc + 3, stack := v.toList ++ rest }) t → Steps p.tables e below (T.setTop g) t := by
  obtain ⟨cq, q1, q2⟩ := E.cell
  have hpriv := Cond.privateMethod_at (mvP hZ w2 (args := args))
  have wi' : (Jvm.Cond.instantiable y.cls n).before args s = true := mvT hZ wi
  obtain ⟨ci, ki, i1, i2, -, i4, -⟩ := Cond.instantiable_spec wi'
  have hni : ki.isInterface = false := by cases hh : ki.isInterface <;> simp [hh] at i4 ⊢
  obtain ⟨v, _, ⟨T', L', k', n'⟩, -, X', ⟨L, hQ, l1, l2, l3⟩, st⟩ := X.privateBack hx hown (mvT hZ w1) (mvT hZ w5) (selects_self_of_private i1 i2 hni hpriv (mvT hZ w5) hy) hpriv (mvT hZ w6) hy (backOf (W := W) hM hZ w6 w3 hf hl) hg hsize (Steps.refl _) (by rw [eT]; exact q1) q2 hlen hstack hW hd (fun _ _ => ⟨has, eT, hc, hs⟩)
  dsimp only [Pt.U, Pt.locs, Pt.cells, Pt.slots] at X' l1 l2 l3 st hQ
  subst l1 l2 l3
  exact ⟨v, T', L, X', hQ, fun t k => st.trans k⟩
theorem own_nosub {C K O : String} {n : Nat} (w : (Jvm.Cond.superclass C O).before a0 Z = true) (wo : (Jvm.Cond.noSuperclass O).before a0 Z = true) (wk : (Jvm.Cond.instantiable K n).before a0 Z = true) (h1 : C ≠ K) (h2 : O ≠ K) :
    ∃ c t, Z.vm.findClass C = some c ∧ Z.vm.findClass K = some t ∧ Z.vm.assignable c t = false := by
  obtain ⟨c, f0⟩ := found_sup w
  obtain ⟨t, kt, g1, g2, g3, g4, -⟩ := Cond.instantiable_spec wk
  have g5 : kt.isInterface = false := by cases hh : kt.isInterface <;> simp [hh] at g4 ⊢
  obtain ⟨q, k, kp, f1, f2, f3, f4, f5, -, f7⟩ := Cond.superclass_spec f0 w
  obtain ⟨co, ko, o1, o2, o3, -, -⟩ := Cond.noSuperclass_spec wo
  cases o1.symm.trans f1
  have ne1 := ids_ne f0 g1 h1
  have ne2 := ids_ne o1 g1 h2
  have sub : ∀ fuel, Z.vm.isSubclassAux fuel c t = false := by
    intro fuel
    cases fuel with
    | zero => rfl
    | succ f =>
      have r : Z.vm.isSubclassAux f q t = false := by
        cases f with
        | zero => rfl
        | succ f' => simp [Vm.isSubclassAux, ne2, o2, o3]
      simp [Vm.isSubclassAux, ne1, f2, f4, r]
  refine ⟨c, t, f0, g1, ?_⟩
  show Z.vm.assignableAux (255 + 1) c t = false
  simp [Vm.assignableAux, ne1, f2, g2, f5, g3, g5, Vm.isSubclass, sub]
theorem own_arv0 {t : Term} {w : Addr} {cl : Cell} (hf : Fit s) (ev : t.eval args s none [] s = some (.ref w)) (A : Arr s s.heap w cl ty) (hq : (Jvm.Cond.eq (.length t) (.int 0)).value args s none s [] = some true) : Arv s s.heap w cl.cls ty 0 [] dv := by
  have ha : s.arrayAt? w = some cl := Arr.fin (Vm.Alike.refl _) A
  obtain ⟨u, v, e1, e2, k1, k2⟩ := cmp_v (Or.inl hq)
  obtain rfl : v = .int 0 := Option.some.inj (e2.symm.trans (Term.int_eval 0))
  obtain ⟨z, rfl⟩ := k2
  obtain rfl : z = 0 := gotT (Jvm.Cond.eq_ints e1 (Term.int_eval 0)) hq
  by_cases hl : cl.slots.size < 2 ^ 31
  · have q := (len_f ev ha hl).symm.trans e1
    exact Arv.start hf A hl (Value.int.inj (Option.some.inj q)) (by decide) rfl trivial
  · exfalso
    simp [Term.eval, ev, ha, hl] at e1
end OwnHeap
/-- what stands at the start: the statics, their classes and fields -/
def SF (Z : State) (w_NO_VARIABLES : Addr) : Prop := Sta Z Z.heap "com/example/pathwise/pathwise/Expression" "NO_VARIABLES" "Ljava/util/Map;" (.ref w_NO_VARIABLES) ∧ Exa Z Z.heap w_NO_VARIABLES "java/util/ImmutableCollections$MapN" ∧ Fld Z Z.heap w_NO_VARIABLES "java/util/ImmutableCollections$MapN" "size" "I" (.int (0 : Int32))
theorem d3_0 : decode jdk_71_method_1_code 0 = .ok (.aload_n 0, 1) := by decide +kernel
theorem d3_1 : decode jdk_71_method_1_code 1 = .ok (.invokespecial 1, 3) := by decide +kernel
theorem d3_4 : decode jdk_71_method_1_code 4 = .ok (.return_, 1) := by decide +kernel
theorem pn_980846 : plainName "java/util/AbstractMap" = true := by first | (simp [plainName, overriddenIn]; done) | decide +kernel
theorem ef_rmA (m : MethodId) (x0 : Addr) : entryFrame m #[(.ref x0)] 1 = mkF m 0 #[.val (.ref x0)] [] := by first | (simp [entryFrame, mkF, argsToLocals, Value.category]; done) | rfl
set_option maxRecDepth 65536 in
set_option maxHeartbeats 400000000 in
theorem rmA (l : Launch) (Z : State) (a0 : Array Value) (hw : ∀ d ∈ tables_1, d.before a0 Z = true) (ws : List Jvm.Cond) (w_NO_VARIABLES : Addr) (hS : SF Z w_NO_VARIABLES) (a1 : Addr) (h0 : Heap) (O0 : Ext Z.heap h0)  :
    Con l Z h0 (⟨"java/util/AbstractMap", "<init>", "()V"⟩ : MethodName) jdk_71_method_1_code 1 none ws ({ frames := 1, cells := 0, slots := 0, locals := 12 } : Room) #[(.ref a1)] (fun v h L => v = none ∧ Fr Z.heap.size L ∧ h = h0) := by
  obtain ⟨S_NO_VARIABLES, E_NO_VARIABLES, F_NO_VARIABLES_size⟩ := id hS
  refine own_con (plainFor_of_name pn_980846) ?_
  intro p e s m below meth c T0 X0 hx hby hml hown hnm hret hlk hZ e0
  have hown : s.vm.findClass "java/util/AbstractMap" = some m.cls := hown
  have N0 := Fr.nil Z.heap.size
  refine Go.st (S' := T0.setTop (mkF m 0 #[.val (.ref a1)] [])) (fun _ k => castTop (ef_rmA m a1) k) ?_
  refine Go.st (S' := T0.setTop (mkF m 1 #[.val (.ref a1)] [(.ref a1)])) (fun _ k => XS.aloadN X0.here hx rfl (hb hby d3_0) rfl rfl k) ?_
  obtain ⟨T1, X1, e1, st1⟩ := initO X0 hx hZ hown (ww hw 16 rfl) (ww hw 17 rfl) (ww hw 18 rfl) e0 (g := (mkF m 1 #[.val (.ref a1)] [(.ref a1)])) rfl (by rw [hml]; rfl) rfl (hb hby d3_1) (by decide) (W := 0) (by show 2 * 0 + _ ≤ _; exact Nat.le_of_eq rfl) (by decide)
  refine Go.st (S' := T1.setTop (mkF m 4 #[.val (.ref a1)] [])) st1 ?_
  exact own_retV X1 hx hlk hret (hb hby d3_4) e1 ⟨rfl, N0, rfl⟩ (by decide) (by decide)
theorem d2_0 : decode jdk_69_method_7_code 0 = .ok (.aload_n 0, 1) := by decide +kernel
theorem d2_1 : decode jdk_69_method_7_code 1 = .ok (.invokespecial 43, 3) := by decide +kernel
theorem d2_4 : decode jdk_69_method_7_code 4 = .ok (.aload_n 0, 1) := by decide +kernel
theorem d2_5 : decode jdk_69_method_7_code 5 = .ok (.ldc 92, 2) := by decide +kernel
theorem d2_7 : decode jdk_69_method_7_code 7 = .ok (.putfield 81, 3) := by decide +kernel
theorem d2_10 : decode jdk_69_method_7_code 10 = .ok (.return_, 1) := by decide +kernel
theorem pd_428486 : parseMethodDescriptor "()V" = some ⟨[], none⟩ := by decide +kernel
theorem sn_397996_size_loadFactor {Z : State} {a0 : Array Value} (hw : ∀ d ∈ tables_1, d.before a0 Z = true) : Jvm.RoadKit.slotOf Z "java/util/HashMap" "size" "I" ≠ Jvm.RoadKit.slotOf Z "java/util/HashMap" "loadFactor" "F" := slot_ne (Or.inl (ww hw 34 rfl)) (Or.inr (ww hw 21 rfl)) (by decide) (t := .int) (t' := .float) (by decide) (by decide)
theorem pn_769265 : plainName "java/util/HashMap" = true := by first | (simp [plainName, overriddenIn]; done) | decide +kernel
theorem ef_rmH (m : MethodId) (x0 : Addr) : entryFrame m #[(.ref x0)] 1 = mkF m 0 #[.val (.ref x0)] [] := by first | (simp [entryFrame, mkF, argsToLocals, Value.category]; done) | rfl
set_option maxRecDepth 65536 in
set_option maxHeartbeats 400000000 in
theorem rmH (l : Launch) (Z : State) (a0 : Array Value) (hw : ∀ d ∈ tables_1, d.before a0 Z = true) (ws : List Jvm.Cond) (w_NO_VARIABLES : Addr) (hS : SF Z w_NO_VARIABLES) (a1 : Addr) (h0 : Heap) (O0 : Ext Z.heap h0) (ga : Z.heap.size ≤ a1) (EA : Exa Z h0 a1 "java/util/HashMap") (FL : Fld Z h0 a1 "java/util/HashMap" "loadFactor" "F" (.float 0)) (FS : Fld Z h0 a1 "java/util/HashMap" "size" "I" (.int 0)) :
    Con l Z h0 (⟨"java/util/HashMap", "<init>", "()V"⟩ : MethodName) jdk_69_method_7_code 1 none ws ({ frames := 2, cells := 0, slots := 0, locals := 24 } : Room) #[(.ref a1)] (fun v h L => v = none ∧ Fr Z.heap.size L ∧ Keep h0 h [a1] ∧ Fld Z h a1 "java/util/HashMap" "size" "I" (.int 0)) := by
  obtain ⟨S_NO_VARIABLES, E_NO_VARIABLES, F_NO_VARIABLES_size⟩ := id hS
  refine own_con (plainFor_of_name pn_769265) ?_
  intro p e s m below meth c T0 X0 hx hby hml hown hnm hret hlk hZ e0
  have hown : s.vm.findClass "java/util/HashMap" = some m.cls := hown
  have N0 := Fr.nil Z.heap.size
  have KP0 : Keep h0 h0 [a1] := Keep.refl h0 _
  refine Go.st (S' := T0.setTop (mkF m 0 #[.val (.ref a1)] [])) (fun _ k => castTop (ef_rmH m a1) k) ?_
  refine Go.st (S' := T0.setTop (mkF m 1 #[.val (.ref a1)] [(.ref a1)])) (fun _ k => XS.aloadN X0.here hx rfl (hb hby d2_0) rfl rfl k) ?_
  obtain ⟨_, T2, L2, X2, ⟨rfl, Nq2, eq2⟩, st2⟩ := own_callI X0 hx hZ rfl hown (ww hw 10 rfl) (ww hw 11 rfl) (ww hw 14 rfl) (ww hw 15 rfl) (by decide) e0 (rmA l Z a0 hw [] w_NO_VARIABLES hS a1 h0 O0) 0 (by decide) (by decide) (by decide) (by decide) (g := (mkF m 1 #[.val (.ref a1)] [(.ref a1)])) rfl (by rw [hml]; rfl) [] [] rfl (lenOf pd_428486 rfl) rfl (by show 2 * 0 + _ ≤ _; exact Nat.le_of_eq rfl) (hb hby d2_1)
  have N2 := Fr.app N0 Nq2
  refine Go.st (S' := T2.setTop (mkF m 4 #[.val (.ref a1)] [])) st2 ?_
  refine Go.st (S' := T2.setTop (mkF m 5 #[.val (.ref a1)] [(.ref a1)])) (fun _ k => XS.aloadN X2.here hx rfl (hb hby d2_4) rfl rfl k) ?_
  refine Go.st (S' := T2.setTop (mkF m 7 #[.val (.ref a1)] [(.float (1061158912 : UInt32)), (.ref a1)])) (X2.ldcFloatC hx hown (mvT hZ (ww hw 19 rfl)) (g := (mkF m 5 #[.val (.ref a1)] [(.ref a1)])) rfl (hb hby d2_5)) ?_
  obtain ⟨T3, h3, X3, e3, W3, st3⟩ := putF X2 hx hZ hown (host := "") (Or.inl (ww hw 20 rfl)) Via.refl eq2 FL EA (Or.inr ⟨(ww hw 21 rfl), rfl, hnm⟩) (ww hw 5 rfl) (ty := .float) (by decide) rfl rfl (g := (mkF m 7 #[.val (.ref a1)] [(.float (1061158912 : UInt32)), (.ref a1)])) rfl rfl (hb hby d2_7)
  have N3 := Fr.snoc X3 N2 ga
  have Fw3 := FL.same W3
  have O3 : Ext Z.heap h3 := own_Ext.wr O0 W3 ga
  have KP3 : Keep h0 h3 [a1] := KP0.wr W3 (Or.inl (List.mem_of_getElem? (i := 0) rfl))
  refine Go.st (S' := T3.setTop (mkF m 10 #[.val (.ref a1)] [])) st3 ?_
  exact own_retV X3 hx hlk hret (hb hby d2_10) e3 ⟨rfl, N3, KP3, (FS.other W3 (Or.inr (sn_397996_size_loadFactor hw)))⟩ (by decide) (by decide)
theorem d5_0 : decode jdk_69_method_11_code 0 = .ok (.aload_n 0, 1) := by decide +kernel
theorem d5_1 : decode jdk_69_method_11_code 1 = .ok (.getfield 156, 3) := by decide +kernel
theorem d5_4 : decode jdk_69_method_11_code 4 = .ok (.ifCond .ne 7, 3) := by decide +kernel
theorem d5_7 : decode jdk_69_method_11_code 7 = .ok (.iconst 1, 1) := by decide +kernel
theorem d5_8 : decode jdk_69_method_11_code 8 = .ok (.goto 4, 3) := by decide +kernel
theorem d5_12 : decode jdk_69_method_11_code 12 = .ok (.ireturn, 1) := by decide +kernel
theorem ef_rmE (m : MethodId) (x0 : Addr) : entryFrame m #[(.ref x0)] 1 = mkF m 0 #[.val (.ref x0)] [] := by first | (simp [entryFrame, mkF, argsToLocals, Value.category]; done) | rfl
set_option maxRecDepth 65536 in
set_option maxHeartbeats 400000000 in
theorem rmE (l : Launch) (Z : State) (a0 : Array Value) (hw : ∀ d ∈ tables_1, d.before a0 Z = true) (ws : List Jvm.Cond) (w_NO_VARIABLES : Addr) (hS : SF Z w_NO_VARIABLES) (a1 : Addr) (h0 : Heap) (O0 : Ext Z.heap h0) (FS : Fld Z h0 a1 "java/util/HashMap" "size" "I" (.int 0)) :
    Con l Z h0 (⟨"java/util/HashMap", "isEmpty", "()Z"⟩ : MethodName) jdk_69_method_11_code 1 (some .boolean) ws ({ frames := 0, cells := 0, slots := 0, locals := 0 } : Room) #[(.ref a1)] (fun v h L => v = some (.int 1) ∧ Fr Z.heap.size L ∧ h = h0) := by
  obtain ⟨S_NO_VARIABLES, E_NO_VARIABLES, F_NO_VARIABLES_size⟩ := id hS
  refine own_con (plainFor_of_name pn_769265) ?_
  intro p e s m below meth c T0 X0 hx hby hml hown hnm hret hlk hZ e0
  have hown : s.vm.findClass "java/util/HashMap" = some m.cls := hown
  have N0 := Fr.nil Z.heap.size
  refine Go.st (S' := T0.setTop (mkF m 0 #[.val (.ref a1)] [])) (fun _ k => castTop (ef_rmE m a1) k) ?_
  refine Go.st (S' := T0.setTop (mkF m 1 #[.val (.ref a1)] [(.ref a1)])) (fun _ k => XS.aloadN X0.here hx rfl (hb hby d5_0) rfl rfl k) ?_
  obtain ⟨T4, X4, e4, st4⟩ := getF X0 hx hZ hown (host := "") (Or.inl (ww hw 33 rfl)) Via.refl e0 FS (g := (mkF m 1 #[.val (.ref a1)] [(.ref a1)])) rfl rfl (hb hby d5_1)
  refine Go.st (S' := T4.setTop (mkF m 4 #[.val (.ref a1)] [(.int (0 : Int32))])) st4 ?_
  refine Go.st (S' := T4.setTop (mkF m 7 #[.val (.ref a1)] [])) (fun _ k => XS.ifNo X4.here hx rfl (hb hby d5_4) rfl ((if0 _ _).trans (teq (by decide)).2) k) ?_
  refine Go.st (S' := T4.setTop (mkF m 8 #[.val (.ref a1)] [(.int (1 : Int32))])) (fun _ k => XS.iconst X4.here hx rfl (hb hby d5_7) k) ?_
  refine Go.st (S' := T4.setTop (mkF m 12 #[.val (.ref a1)] [(.int (1 : Int32))])) (fun _ k => XS.goto X4.here hx rfl (pc0 := 8) (pc' := 12) rfl (hb hby d5_8) (by decide) (by decide) k) ?_
  exact own_retN X4 hx hlk hret (by simp) (hb hby d5_12) e4 ⟨rfl, N0, rfl⟩ (by decide) (by decide)
theorem d6_0 : decode jdk_2605_method_7_code 0 = .ok (.aload_n 0, 1) := by decide +kernel
theorem d6_1 : decode jdk_2605_method_7_code 1 = .ok (.getfield 16, 3) := by decide +kernel
theorem d6_4 : decode jdk_2605_method_7_code 4 = .ok (.ifCond .ne 7, 3) := by decide +kernel
theorem d6_7 : decode jdk_2605_method_7_code 7 = .ok (.iconst 1, 1) := by decide +kernel
theorem d6_8 : decode jdk_2605_method_7_code 8 = .ok (.goto 4, 3) := by decide +kernel
theorem d6_12 : decode jdk_2605_method_7_code 12 = .ok (.ireturn, 1) := by decide +kernel
theorem pn_937111 : plainName "java/util/ImmutableCollections$MapN" = true := by first | (simp [plainName, overriddenIn]; done) | decide +kernel
theorem ef_rmM (m : MethodId) (x0 : Addr) : entryFrame m #[(.ref x0)] 1 = mkF m 0 #[.val (.ref x0)] [] := by first | (simp [entryFrame, mkF, argsToLocals, Value.category]; done) | rfl
set_option maxRecDepth 65536 in
set_option maxHeartbeats 400000000 in
theorem rmM (l : Launch) (Z : State) (a0 : Array Value) (hw : ∀ d ∈ tables_1, d.before a0 Z = true) (ws : List Jvm.Cond) (w_NO_VARIABLES : Addr) (hS : SF Z w_NO_VARIABLES) (a1 : Addr) (h0 : Heap) (O0 : Ext Z.heap h0) (FS : Fld Z h0 a1 "java/util/ImmutableCollections$MapN" "size" "I" (.int 0)) :
    Con l Z h0 (⟨"java/util/ImmutableCollections$MapN", "isEmpty", "()Z"⟩ : MethodName) jdk_2605_method_7_code 1 (some .boolean) ws ({ frames := 0, cells := 0, slots := 0, locals := 0 } : Room) #[(.ref a1)] (fun v h L => v = some (.int 1) ∧ Fr Z.heap.size L ∧ h = h0) := by
  obtain ⟨S_NO_VARIABLES, E_NO_VARIABLES, F_NO_VARIABLES_size⟩ := id hS
  refine own_con (plainFor_of_name pn_937111) ?_
  intro p e s m below meth c T0 X0 hx hby hml hown hnm hret hlk hZ e0
  have hown : s.vm.findClass "java/util/ImmutableCollections$MapN" = some m.cls := hown
  have N0 := Fr.nil Z.heap.size
  refine Go.st (S' := T0.setTop (mkF m 0 #[.val (.ref a1)] [])) (fun _ k => castTop (ef_rmM m a1) k) ?_
  refine Go.st (S' := T0.setTop (mkF m 1 #[.val (.ref a1)] [(.ref a1)])) (fun _ k => XS.aloadN X0.here hx rfl (hb hby d6_0) rfl rfl k) ?_
  obtain ⟨T5, X5, e5, st5⟩ := getF X0 hx hZ hown (host := "") (Or.inl (ww hw 42 rfl)) Via.refl e0 FS (g := (mkF m 1 #[.val (.ref a1)] [(.ref a1)])) rfl rfl (hb hby d6_1)
  refine Go.st (S' := T5.setTop (mkF m 4 #[.val (.ref a1)] [(.int (0 : Int32))])) st5 ?_
  refine Go.st (S' := T5.setTop (mkF m 7 #[.val (.ref a1)] [])) (fun _ k => XS.ifNo X5.here hx rfl (hb hby d6_4) rfl ((if0 _ _).trans (teq (by decide)).2) k) ?_
  refine Go.st (S' := T5.setTop (mkF m 8 #[.val (.ref a1)] [(.int (1 : Int32))])) (fun _ k => XS.iconst X5.here hx rfl (hb hby d6_7) k) ?_
  refine Go.st (S' := T5.setTop (mkF m 12 #[.val (.ref a1)] [(.int (1 : Int32))])) (fun _ k => XS.goto X5.here hx rfl (pc0 := 8) (pc' := 12) rfl (hb hby d6_8) (by decide) (by decide) k) ?_
  exact own_retN X5 hx hlk hret (by simp) (hb hby d6_12) e5 ⟨rfl, N0, rfl⟩ (by decide) (by decide)
theorem d1_0 : decode prog_37_method_11_code 0 = .ok (.aload_n 0, 1) := by decide +kernel
theorem d1_1 : decode prog_37_method_11_code 1 = .ok (.ifnull 5, 3) := by decide +kernel
theorem d1_4 : decode prog_37_method_11_code 4 = .ok (.aload_n 0, 1) := by decide +kernel
theorem d1_5 : decode prog_37_method_11_code 5 = .ok (.areturn, 1) := by decide +kernel
theorem pn_691910 : plainName "com/example/pathwise/pathwise/Expression" = true := by first | (simp [plainName, overriddenIn]; done) | decide +kernel
theorem ef_rmGa (m : MethodId) (x0 : Addr) (x1 : Int32) : entryFrame m #[(.ref x0), (.int x1)] 2 = mkF m 0 #[.val (.ref x0), .val (.int x1)] [] := by first | (simp [entryFrame, mkF, argsToLocals, Value.category]; done) | rfl
set_option maxRecDepth 65536 in
set_option maxHeartbeats 400000000 in
theorem rmGa (l : Launch) (Z : State) (a0 : Array Value) (hw : ∀ d ∈ tables_1, d.before a0 Z = true) (ws : List Jvm.Cond) (w_NO_VARIABLES : Addr) (hS : SF Z w_NO_VARIABLES) (a1 : Addr) (p2 : Int32) (h0 : Heap) (O0 : Ext Z.heap h0)  :
    Con l Z h0 (⟨"com/example/pathwise/pathwise/Expression", "given", "(Ljava/util/Map;Z)Ljava/util/Map;"⟩ : MethodName) prog_37_method_11_code 2 (some (.object "java/util/Map")) ws ({ frames := 0, cells := 0, slots := 0, locals := 0 } : Room) #[(.ref a1), (.int p2)] (fun v h L => v = some (.ref a1) ∧ Fr Z.heap.size L ∧ h = h0) := by
  obtain ⟨S_NO_VARIABLES, E_NO_VARIABLES, F_NO_VARIABLES_size⟩ := id hS
  refine own_con (plainFor_of_name pn_691910) ?_
  intro p e s m below meth c T0 X0 hx hby hml hown hnm hret hlk hZ e0
  have hown : s.vm.findClass "com/example/pathwise/pathwise/Expression" = some m.cls := hown
  have N0 := Fr.nil Z.heap.size
  refine Go.st (S' := T0.setTop (mkF m 0 #[.val (.ref a1), .val (.int p2)] [])) (fun _ k => castTop (ef_rmGa m a1 p2) k) ?_
  refine Go.st (S' := T0.setTop (mkF m 1 #[.val (.ref a1), .val (.int p2)] [(.ref a1)])) (fun _ k => XS.aloadN X0.here hx rfl (hb hby d1_0) rfl rfl k) ?_
  refine Go.st (S' := T0.setTop (mkF m 4 #[.val (.ref a1), .val (.int p2)] [])) (fun _ k => XS.ifnullNo X0.here hx rfl (hb hby d1_1) rfl k) ?_
  refine Go.st (S' := T0.setTop (mkF m 5 #[.val (.ref a1), .val (.int p2)] [(.ref a1)])) (fun _ k => XS.aloadN X0.here hx rfl (hb hby d1_4) rfl rfl k) ?_
  exact own_retA X0 hx hlk hret rfl rfl rfl (hb hby d1_5) e0 ⟨rfl, N0, rfl⟩ (by decide) (by decide)
theorem d1_6 : decode prog_37_method_11_code 6 = .ok (.iload_n 1, 1) := by decide +kernel
theorem d1_7 : decode prog_37_method_11_code 7 = .ok (.ifCond .eq 13, 3) := by decide +kernel
theorem d1_20 : decode prog_37_method_11_code 20 = .ok (.getstatic 122, 3) := by decide +kernel
theorem d1_23 : decode prog_37_method_11_code 23 = .ok (.areturn, 1) := by decide +kernel
theorem ef_rmGc (m : MethodId) (x1 : Int32) : entryFrame m #[.null, (.int x1)] 2 = mkF m 0 #[.val .null, .val (.int x1)] [] := by first | (simp [entryFrame, mkF, argsToLocals, Value.category]; done) | rfl
set_option maxRecDepth 65536 in
set_option maxHeartbeats 400000000 in
theorem rmGc (l : Launch) (Z : State) (a0 : Array Value) (hw : ∀ d ∈ tables_1, d.before a0 Z = true) (ws : List Jvm.Cond) (w_NO_VARIABLES : Addr) (hS : SF Z w_NO_VARIABLES)   (h0 : Heap) (O0 : Ext Z.heap h0)  :
    Con l Z h0 (⟨"com/example/pathwise/pathwise/Expression", "given", "(Ljava/util/Map;Z)Ljava/util/Map;"⟩ : MethodName) prog_37_method_11_code 2 (some (.object "java/util/Map")) ws ({ frames := 0, cells := 0, slots := 0, locals := 0 } : Room) #[.null, (.int (0 : Int32))] (fun v h L => v = some (.ref w_NO_VARIABLES) ∧ Fr Z.heap.size L ∧ h = h0) := by
  obtain ⟨S_NO_VARIABLES, E_NO_VARIABLES, F_NO_VARIABLES_size⟩ := id hS
  refine own_con (plainFor_of_name pn_691910) ?_
  intro p e s m below meth c T0 X0 hx hby hml hown hnm hret hlk hZ e0
  have hown : s.vm.findClass "com/example/pathwise/pathwise/Expression" = some m.cls := hown
  have N0 := Fr.nil Z.heap.size
  refine Go.st (S' := T0.setTop (mkF m 0 #[.val .null, .val (.int (0 : Int32))] [])) (fun _ k => castTop (ef_rmGc m (0 : Int32)) k) ?_
  refine Go.st (S' := T0.setTop (mkF m 1 #[.val .null, .val (.int (0 : Int32))] [.null])) (fun _ k => XS.aloadN X0.here hx rfl (hb hby d1_0) rfl rfl k) ?_
  refine Go.st (S' := T0.setTop (mkF m 6 #[.val .null, .val (.int (0 : Int32))] [])) (fun _ k => XS.ifnullYes X0.here hx rfl (pc0 := 1) (pc' := 6) rfl (hb hby d1_1) rfl (by decide) (by decide) k) ?_
  refine Go.st (S' := T0.setTop (mkF m 7 #[.val .null, .val (.int (0 : Int32))] [(.int (0 : Int32))])) (fun _ k => XS.iloadN X0.here hx rfl (hb hby d1_6) rfl k) ?_
  refine Go.st (S' := T0.setTop (mkF m 20 #[.val .null, .val (.int (0 : Int32))] [])) (fun _ k => XS.ifYes X0.here hx rfl (pc0 := 7) (pc' := 20) rfl (hb hby d1_7) rfl ((if0 _ _).trans (teq (by decide)).1) (by decide) (by decide) k) ?_
  obtain ⟨T6, X6, e6, st6⟩ := getS2 X0 hx hZ hown (host := "") (Or.inl (ww hw 22 rfl)) Via.refl e0 (S_NO_VARIABLES.ext O0) (g := (mkF m 20 #[.val .null, .val (.int (0 : Int32))] [])) rfl (hb hby d1_20)
  refine Go.st (S' := T6.setTop (mkF m 23 #[.val .null, .val (.int (0 : Int32))] [(.ref w_NO_VARIABLES)])) st6 ?_
  exact own_retA X6 hx hlk hret rfl rfl rfl (hb hby d1_23) e6 ⟨rfl, N0, rfl⟩ (by decide) (by decide)
theorem d1_10 : decode prog_37_method_11_code 10 = .ok (.new 119, 3) := by decide +kernel
theorem d1_13 : decode prog_37_method_11_code 13 = .ok (.dup, 1) := by decide +kernel
theorem d1_14 : decode prog_37_method_11_code 14 = .ok (.invokespecial 121, 3) := by decide +kernel
theorem d1_17 : decode prog_37_method_11_code 17 = .ok (.goto 6, 3) := by decide +kernel
theorem ef_rmGb (m : MethodId) (x1 : Int32) : entryFrame m #[.null, (.int x1)] 2 = mkF m 0 #[.val .null, .val (.int x1)] [] := by first | (simp [entryFrame, mkF, argsToLocals, Value.category]; done) | rfl
set_option maxRecDepth 65536 in
set_option maxHeartbeats 400000000 in
theorem rmGb (l : Launch) (Z : State) (a0 : Array Value) (hw : ∀ d ∈ tables_1, d.before a0 Z = true) (ws : List Jvm.Cond) (w_NO_VARIABLES : Addr) (hS : SF Z w_NO_VARIABLES)   (h0 : Heap) (O0 : Ext Z.heap h0)  :
    Con l Z h0 (⟨"com/example/pathwise/pathwise/Expression", "given", "(Ljava/util/Map;Z)Ljava/util/Map;"⟩ : MethodName) prog_37_method_11_code 2 (some (.object "java/util/Map")) ws ({ frames := 3, cells := 1, slots := 8, locals := 37 } : Room) #[.null, (.int (1 : Int32))] (fun v h L => (∃ b, v = some (.ref b) ∧ h0.size ≤ b ∧ Exa Z h b "java/util/HashMap" ∧ Fld Z h b "java/util/HashMap" "size" "I" (.int 0)) ∧ Fr Z.heap.size L ∧ Keep h0 h []) := by
  obtain ⟨S_NO_VARIABLES, E_NO_VARIABLES, F_NO_VARIABLES_size⟩ := id hS
  refine own_con (plainFor_of_name pn_691910) ?_
  intro p e s m below meth c T0 X0 hx hby hml hown hnm hret hlk hZ e0
  have hown : s.vm.findClass "com/example/pathwise/pathwise/Expression" = some m.cls := hown
  have N0 := Fr.nil Z.heap.size
  have KP0 : Keep h0 h0 [] := Keep.refl h0 _
  refine Go.st (S' := T0.setTop (mkF m 0 #[.val .null, .val (.int (1 : Int32))] [])) (fun _ k => castTop (ef_rmGb m (1 : Int32)) k) ?_
  refine Go.st (S' := T0.setTop (mkF m 1 #[.val .null, .val (.int (1 : Int32))] [.null])) (fun _ k => XS.aloadN X0.here hx rfl (hb hby d1_0) rfl rfl k) ?_
  refine Go.st (S' := T0.setTop (mkF m 6 #[.val .null, .val (.int (1 : Int32))] [])) (fun _ k => XS.ifnullYes X0.here hx rfl (pc0 := 1) (pc' := 6) rfl (hb hby d1_1) rfl (by decide) (by decide) k) ?_
  refine Go.st (S' := T0.setTop (mkF m 7 #[.val .null, .val (.int (1 : Int32))] [(.int (1 : Int32))])) (fun _ k => XS.iloadN X0.here hx rfl (hb hby d1_6) rfl k) ?_
  refine Go.st (S' := T0.setTop (mkF m 10 #[.val .null, .val (.int (1 : Int32))] [])) (fun _ k => XS.ifNo X0.here hx rfl (hb hby d1_7) rfl ((if0 _ _).trans (feq (by decide)).1) k) ?_
  obtain ⟨T7, h7, X7, e7, E7, A7, D7, -, st7⟩ := newO X0 hx hZ hown (ww hw 4 rfl) (ww hw 5 rfl) (ww hw 6 rfl) e0 (g := (mkF m 10 #[.val .null, .val (.int (1 : Int32))] [])) rfl (hb hby d1_10) (by decide) (by decide)
  obtain ⟨b7, g7⟩ : ∃ z, z = h0.size := ⟨_, rfl⟩
  rw [← g7] at A7 D7 st7
  have gz7 : Z.heap.size ≤ b7 := Nat.le_trans O0.1 (Nat.le_of_eq g7.symm)
  have sz7 : h0.size ≤ b7 := Nat.le_trans KP0.1 (Nat.le_of_eq g7.symm)
  have O7 : Ext Z.heap h7 := own_Ext.trans O0 E7
  have KP7 : Keep h0 h7 [] := KP0.ext E7
  have F7_loadFactor : Fld Z h7 b7 "java/util/HashMap" "loadFactor" "F" (.float 0) := D7 (Or.inr (ww hw 21 rfl)) (ty := .float) (by decide)
  have F7_size : Fld Z h7 b7 "java/util/HashMap" "size" "I" (.int (0 : Int32)) := D7 (Or.inl (ww hw 34 rfl)) (ty := .int) (by decide)
  refine Go.st (S' := T7.setTop (mkF m 13 #[.val .null, .val (.int (1 : Int32))] [(.ref b7)])) st7 ?_
  refine Go.st (S' := T7.setTop (mkF m 14 #[.val .null, .val (.int (1 : Int32))] [(.ref b7), (.ref b7)])) (fun _ k => XS.dup X7.here hx rfl (hb hby d1_13) rfl rfl k) ?_
  obtain ⟨_, T8, L8, X8, ⟨rfl, Nq8, kp8, fs8⟩, st8⟩ := own_callI X7 hx hZ rfl hown (ww hw 7 rfl) (ww hw 8 rfl) (ww hw 6 rfl) (ww hw 9 rfl) (by decide) e7 (rmH l Z a0 hw [] w_NO_VARIABLES hS b7 h7 O7 gz7 A7 F7_loadFactor F7_size) 1 (by decide) (by decide) (by decide) (by decide) (g := (mkF m 14 #[.val .null, .val (.int (1 : Int32))] [(.ref b7), (.ref b7)])) rfl (by rw [hml]; rfl) [] [(.ref b7)] rfl (lenOf pd_428486 rfl) rfl (by show 2 * 0 + _ ≤ _; exact Nat.le_of_eq rfl) (hb hby d1_14)
  have N8 := Fr.app N0 Nq8
  have O8 : Ext Z.heap T8.heap := own_Ext.keep O7 kp8 (allS gz7 all0)
  have KP8 : Keep h0 T8.heap [] := KP7.trans kp8 (allS (Or.inr sz7) all0)
  refine Go.st (S' := T8.setTop (mkF m 17 #[.val .null, .val (.int (1 : Int32))] [(.ref b7)])) st8 ?_
  refine Go.st (S' := T8.setTop (mkF m 23 #[.val .null, .val (.int (1 : Int32))] [(.ref b7)])) (fun _ k => XS.goto X8.here hx rfl (pc0 := 17) (pc' := 23) rfl (hb hby d1_17) (by decide) (by decide) k) ?_
  exact own_retA X8 hx hlk hret rfl rfl rfl (hb hby d1_23) rfl ⟨⟨_, rfl, sz7, (A7.keep kp8), fs8⟩, N8, KP8⟩ (by decide) (by decide)
theorem pd_16346 : parseMethodDescriptor "(Ljava/util/Map;Z)Ljava/util/Map;" = some ⟨[(.object "java/util/Map"), .boolean], some (.object "java/util/Map")⟩ := by decide +kernel
theorem pd_428490 : parseMethodDescriptor "()Z" = some ⟨[], some .boolean⟩ := by decide +kernel
theorem pn_537967 : plainName "com/example/pathwise/pathwise/ExpressionGivenPinLaw" = true := by first | (simp [plainName, overriddenIn]; done) | decide +kernel
theorem ef_rm0 (m : MethodId) (x0 : Int32) : entryFrame m #[(.int x0)] maxLocals = mkF m 0 #[.val (.int x0), .unset, .unset, .unset, .unset, .unset, .unset, .unset] [] := by first | (simp [entryFrame, mkF, argsToLocals, Value.category, maxLocals]; done) | rfl
set_option maxRecDepth 65536 in
set_option maxHeartbeats 400000000 in
theorem rm0 (l : Launch) (Z : State) (a0 : Array Value) (hw : ∀ d ∈ tables_1, d.before a0 Z = true) (ws : List Jvm.Cond) (w_NO_VARIABLES : Addr) (hS : SF Z w_NO_VARIABLES) (p1 : Int32) (h0 : Heap) (O0 : Ext Z.heap h0)  :
    Con l Z h0 x code maxLocals ret ws room_1 #[(.int p1)] (fun v h L => v = some (.int 1) ∧ Fr Z.heap.size L) := by
  obtain ⟨S_NO_VARIABLES, E_NO_VARIABLES, F_NO_VARIABLES_size⟩ := id hS
  refine own_con (plainFor_of_name pn_537967) ?_
  intro p e s m below meth c T0 X0 hx hby hml hown hnm hret hlk hZ e0
  have hown : s.vm.findClass "com/example/pathwise/pathwise/ExpressionGivenPinLaw" = some m.cls := hown
  have N0 := Fr.nil Z.heap.size
  refine Go.st (S' := T0.setTop (mkF m 0 #[.val (.int p1), .unset, .unset, .unset, .unset, .unset, .unset, .unset] [])) (fun _ k => castTop (ef_rm0 m p1) k) ?_
  refine Go.st (S' := T0.setTop (mkF m 1 #[.val (.int p1), .unset, .unset, .unset, .unset, .unset, .unset, .unset] [.null])) (fun _ k => XS.aconstNull X0.here hx rfl (hb hby at_0) k) ?_
  refine Go.st (S' := T0.setTop (mkF m 2 #[.val (.int p1), .unset, .unset, .unset, .unset, .unset, .unset, .unset] [(.int (1 : Int32)), .null])) (fun _ k => XS.iconst X0.here hx rfl (hb hby at_1) k) ?_
  obtain ⟨_, T9, L9, X9, ⟨⟨b9, rfl, sb9, ex9, fs9⟩, Nq9, kp9⟩, st9⟩ := own_callS X0 hx hZ hown (ww hw 0 rfl) (ww hw 1 rfl) (ww hw 2 rfl) (ww hw 3 rfl) (by decide) e0 (rmGb l Z a0 hw [] w_NO_VARIABLES hS h0 O0) 0 (by decide) (by decide) (by decide) (by decide) (g := (mkF m 2 #[.val (.int p1), .unset, .unset, .unset, .unset, .unset, .unset, .unset] [(.int (1 : Int32)), .null])) rfl (by rw [hml]; rfl) [.null, (.int (1 : Int32))] [] rfl (lenOf pd_16346 rfl) rfl (by show 2 * 0 + _ ≤ _; exact Nat.le_of_eq rfl) (hb hby at_2)
  have N9 := Fr.app N0 Nq9
  have O9 : Ext Z.heap T9.heap := own_Ext.keep O0 kp9 all0
  refine Go.st (S' := T9.setTop (mkF m 5 #[.val (.int p1), .unset, .unset, .unset, .unset, .unset, .unset, .unset] [(.ref b9)])) st9 ?_
  refine Go.st (S' := T9.setTop (mkF m 6 #[.val (.int p1), .val (.ref b9), .unset, .unset, .unset, .unset, .unset, .unset] [])) (fun _ k => XS.astoreN X9.here hx rfl (hb hby at_5) rfl rfl (l' := #[.val (.int p1), .val (.ref b9), .unset, .unset, .unset, .unset, .unset, .unset]) rfl k) ?_
  refine Go.st (S' := T9.setTop (mkF m 7 #[.val (.int p1), .val (.ref b9), .unset, .unset, .unset, .unset, .unset, .unset] [.null])) (fun _ k => XS.aconstNull X9.here hx rfl (hb hby at_6) k) ?_
  refine Go.st (S' := T9.setTop (mkF m 8 #[.val (.int p1), .val (.ref b9), .unset, .unset, .unset, .unset, .unset, .unset] [(.int (1 : Int32)), .null])) (fun _ k => XS.iconst X9.here hx rfl (hb hby at_7) k) ?_
  obtain ⟨_, T10, L10, X10, ⟨⟨b10, rfl, sb10, ex10, fs10⟩, Nq10, kp10⟩, st10⟩ := own_callS X9 hx hZ hown (ww hw 0 rfl) (ww hw 1 rfl) (ww hw 2 rfl) (ww hw 3 rfl) (by decide) rfl (rmGb l Z a0 hw [] w_NO_VARIABLES hS T9.heap O9) 0 (by decide) (by decide) (by decide) (by decide) (g := (mkF m 8 #[.val (.int p1), .val (.ref b9), .unset, .unset, .unset, .unset, .unset, .unset] [(.int (1 : Int32)), .null])) rfl (by rw [hml]; rfl) [.null, (.int (1 : Int32))] [] rfl (lenOf pd_16346 rfl) rfl (by show 2 * 0 + _ ≤ _; exact Nat.le_of_eq rfl) (hb hby at_8)
  have N10 := Fr.app N9 Nq10
  have ne_b9_b10 : b9 ≠ b10 := own_lt_ne' ex9.lt sb10
  have O10 : Ext Z.heap T10.heap := own_Ext.keep O9 kp10 all0
  refine Go.st (S' := T10.setTop (mkF m 11 #[.val (.int p1), .val (.ref b9), .unset, .unset, .unset, .unset, .unset, .unset] [(.ref b10)])) st10 ?_
  refine Go.st (S' := T10.setTop (mkF m 12 #[.val (.int p1), .val (.ref b9), .val (.ref b10), .unset, .unset, .unset, .unset, .unset] [])) (fun _ k => XS.astoreN X10.here hx rfl (hb hby at_11) rfl rfl (l' := #[.val (.int p1), .val (.ref b9), .val (.ref b10), .unset, .unset, .unset, .unset, .unset]) rfl k) ?_
  refine Go.st (S' := T10.setTop (mkF m 13 #[.val (.int p1), .val (.ref b9), .val (.ref b10), .unset, .unset, .unset, .unset, .unset] [.null])) (fun _ k => XS.aconstNull X10.here hx rfl (hb hby at_12) k) ?_
  refine Go.st (S' := T10.setTop (mkF m 14 #[.val (.int p1), .val (.ref b9), .val (.ref b10), .unset, .unset, .unset, .unset, .unset] [(.int (0 : Int32)), .null])) (fun _ k => XS.iconst X10.here hx rfl (hb hby at_13) k) ?_
  obtain ⟨_, T11, L11, X11, ⟨rfl, Nq11, eq11⟩, st11⟩ := own_callS X10 hx hZ hown (ww hw 0 rfl) (ww hw 1 rfl) (ww hw 2 rfl) (ww hw 3 rfl) (by decide) rfl (rmGc l Z a0 hw [] w_NO_VARIABLES hS T10.heap O10) 0 (by decide) (by decide) (by decide) (by decide) (g := (mkF m 14 #[.val (.int p1), .val (.ref b9), .val (.ref b10), .unset, .unset, .unset, .unset, .unset] [(.int (0 : Int32)), .null])) rfl (by rw [hml]; rfl) [.null, (.int (0 : Int32))] [] rfl (lenOf pd_16346 rfl) rfl (by show 2 * 0 + _ ≤ _; exact Nat.le_of_eq rfl) (hb hby at_14)
  have N11 := Fr.app N10 Nq11
  refine Go.st (S' := T11.setTop (mkF m 17 #[.val (.int p1), .val (.ref b9), .val (.ref b10), .unset, .unset, .unset, .unset, .unset] [(.ref w_NO_VARIABLES)])) st11 ?_
  refine Go.st (S' := T11.setTop (mkF m 18 #[.val (.int p1), .val (.ref b9), .val (.ref b10), .val (.ref w_NO_VARIABLES), .unset, .unset, .unset, .unset] [])) (fun _ k => XS.astoreN X11.here hx rfl (hb hby at_17) rfl rfl (l' := #[.val (.int p1), .val (.ref b9), .val (.ref b10), .val (.ref w_NO_VARIABLES), .unset, .unset, .unset, .unset]) rfl k) ?_
  refine Go.st (S' := T11.setTop (mkF m 19 #[.val (.int p1), .val (.ref b9), .val (.ref b10), .val (.ref w_NO_VARIABLES), .unset, .unset, .unset, .unset] [.null])) (fun _ k => XS.aconstNull X11.here hx rfl (hb hby at_18) k) ?_
  refine Go.st (S' := T11.setTop (mkF m 20 #[.val (.int p1), .val (.ref b9), .val (.ref b10), .val (.ref w_NO_VARIABLES), .unset, .unset, .unset, .unset] [(.int (0 : Int32)), .null])) (fun _ k => XS.iconst X11.here hx rfl (hb hby at_19) k) ?_
  obtain ⟨_, T12, L12, X12, ⟨rfl, Nq12, eq12⟩, st12⟩ := own_callS X11 hx hZ hown (ww hw 0 rfl) (ww hw 1 rfl) (ww hw 2 rfl) (ww hw 3 rfl) (by decide) eq11 (rmGc l Z a0 hw [] w_NO_VARIABLES hS T10.heap O10) 0 (by decide) (by decide) (by decide) (by decide) (g := (mkF m 20 #[.val (.int p1), .val (.ref b9), .val (.ref b10), .val (.ref w_NO_VARIABLES), .unset, .unset, .unset, .unset] [(.int (0 : Int32)), .null])) rfl (by rw [hml]; rfl) [.null, (.int (0 : Int32))] [] rfl (lenOf pd_16346 rfl) rfl (by show 2 * 0 + _ ≤ _; exact Nat.le_of_eq rfl) (hb hby at_20)
  have N12 := Fr.app N11 Nq12
  refine Go.st (S' := T12.setTop (mkF m 23 #[.val (.int p1), .val (.ref b9), .val (.ref b10), .val (.ref w_NO_VARIABLES), .unset, .unset, .unset, .unset] [(.ref w_NO_VARIABLES)])) st12 ?_
  refine Go.st (S' := T12.setTop (mkF m 25 #[.val (.int p1), .val (.ref b9), .val (.ref b10), .val (.ref w_NO_VARIABLES), .val (.ref w_NO_VARIABLES), .unset, .unset, .unset] [])) (fun _ k => XS.astore X12.here hx rfl (hb hby at_23) rfl rfl (l' := #[.val (.int p1), .val (.ref b9), .val (.ref b10), .val (.ref w_NO_VARIABLES), .val (.ref w_NO_VARIABLES), .unset, .unset, .unset]) rfl k) ?_
  refine Go.st (S' := T12.setTop (mkF m 26 #[.val (.int p1), .val (.ref b9), .val (.ref b10), .val (.ref w_NO_VARIABLES), .val (.ref w_NO_VARIABLES), .unset, .unset, .unset] [(.ref b9)])) (fun _ k => XS.aloadN X12.here hx rfl (hb hby at_25) rfl rfl k) ?_
  refine Go.st (S' := T12.setTop (mkF m 29 #[.val (.int p1), .val (.ref b9), .val (.ref b10), .val (.ref w_NO_VARIABLES), .val (.ref w_NO_VARIABLES), .unset, .unset, .unset] [])) (fun _ k => XS.ifnullNo X12.here hx rfl (hb hby at_26) rfl k) ?_
  refine Go.st (S' := T12.setTop (mkF m 30 #[.val (.int p1), .val (.ref b9), .val (.ref b10), .val (.ref w_NO_VARIABLES), .val (.ref w_NO_VARIABLES), .unset, .unset, .unset] [(.ref b10)])) (fun _ k => XS.aloadN X12.here hx rfl (hb hby at_29) rfl rfl k) ?_
  refine Go.st (S' := T12.setTop (mkF m 33 #[.val (.int p1), .val (.ref b9), .val (.ref b10), .val (.ref w_NO_VARIABLES), .val (.ref w_NO_VARIABLES), .unset, .unset, .unset] [])) (fun _ k => XS.ifnullNo X12.here hx rfl (hb hby at_30) rfl k) ?_
  refine Go.st (S' := T12.setTop (mkF m 34 #[.val (.int p1), .val (.ref b9), .val (.ref b10), .val (.ref w_NO_VARIABLES), .val (.ref w_NO_VARIABLES), .unset, .unset, .unset] [(.ref w_NO_VARIABLES)])) (fun _ k => XS.aloadN X12.here hx rfl (hb hby at_33) rfl rfl k) ?_
  refine Go.st (S' := T12.setTop (mkF m 37 #[.val (.int p1), .val (.ref b9), .val (.ref b10), .val (.ref w_NO_VARIABLES), .val (.ref w_NO_VARIABLES), .unset, .unset, .unset] [])) (fun _ k => XS.ifnullNo X12.here hx rfl (hb hby at_34) rfl k) ?_
  refine Go.st (S' := T12.setTop (mkF m 39 #[.val (.int p1), .val (.ref b9), .val (.ref b10), .val (.ref w_NO_VARIABLES), .val (.ref w_NO_VARIABLES), .unset, .unset, .unset] [(.ref w_NO_VARIABLES)])) (fun _ k => XS.aload X12.here hx rfl (hb hby at_37) rfl rfl k) ?_
  refine Go.st (S' := T12.setTop (mkF m 44 #[.val (.int p1), .val (.ref b9), .val (.ref b10), .val (.ref w_NO_VARIABLES), .val (.ref w_NO_VARIABLES), .unset, .unset, .unset] [])) (fun _ k => XS.ifnonnullYes X12.here hx rfl (pc0 := 39) (pc' := 44) rfl (hb hby at_39) rfl (by decide) (by decide) k) ?_
  refine Go.st (S' := T12.setTop (mkF m 45 #[.val (.int p1), .val (.ref b9), .val (.ref b10), .val (.ref w_NO_VARIABLES), .val (.ref w_NO_VARIABLES), .unset, .unset, .unset] [(.int p1)])) (fun _ k => XS.iloadN X12.here hx rfl (hb hby at_44) rfl k) ?_
  refine Go.st (S' := T12.setTop (mkF m 46 #[.val (.int p1), .val (.ref b9), .val (.ref b10), .val (.ref w_NO_VARIABLES), .val (.ref w_NO_VARIABLES), .unset, .unset, .unset] [(.int (1 : Int32)), (.int p1)])) (fun _ k => XS.iconst X12.here hx rfl (hb hby at_45) k) ?_
  refine Go.st (S' := T12.setTop (mkF m 47 #[.val (.int p1), .val (.ref b9), .val (.ref b10), .val (.ref w_NO_VARIABLES), .val (.ref w_NO_VARIABLES), .unset, .unset, .unset] [(.int (p1 &&& (1 : Int32)))])) (fun _ k => XS.iand X12.here hx rfl (hb hby at_46) rfl k) ?_
  by_cases hc47 : (p1 &&& (1 : Int32)) = (0 : Int32)
  · refine Go.st (S' := T12.setTop (mkF m 54 #[.val (.int p1), .val (.ref b9), .val (.ref b10), .val (.ref w_NO_VARIABLES), .val (.ref w_NO_VARIABLES), .unset, .unset, .unset] [])) (fun _ k => XS.ifYes X12.here hx rfl (pc0 := 47) (pc' := 54) rfl (hb hby at_47) rfl ((if0 _ _).trans (teq hc47).1) (by decide) (by decide) k) ?_
    refine Go.st (S' := T12.setTop (mkF m 55 #[.val (.int p1), .val (.ref b9), .val (.ref b10), .val (.ref w_NO_VARIABLES), .val (.ref w_NO_VARIABLES), .unset, .unset, .unset] [(.int (0 : Int32))])) (fun _ k => XS.iconst X12.here hx rfl (hb hby at_54) k) ?_
    refine Go.st (S' := T12.setTop (mkF m 57 #[.val (.int p1), .val (.ref b9), .val (.ref b10), .val (.ref w_NO_VARIABLES), .val (.ref w_NO_VARIABLES), .val (.int (0 : Int32)), .unset, .unset] [])) (fun _ k => XS.istore X12.here hx rfl (hb hby at_55) rfl (l' := #[.val (.int p1), .val (.ref b9), .val (.ref b10), .val (.ref w_NO_VARIABLES), .val (.ref w_NO_VARIABLES), .val (.int (0 : Int32)), .unset, .unset]) rfl k) ?_
    refine Go.st (S' := T12.setTop (mkF m 58 #[.val (.int p1), .val (.ref b9), .val (.ref b10), .val (.ref w_NO_VARIABLES), .val (.ref w_NO_VARIABLES), .val (.int (0 : Int32)), .unset, .unset] [(.int p1)])) (fun _ k => XS.iloadN X12.here hx rfl (hb hby at_57) rfl k) ?_
    refine Go.st (S' := T12.setTop (mkF m 59 #[.val (.int p1), .val (.ref b9), .val (.ref b10), .val (.ref w_NO_VARIABLES), .val (.ref w_NO_VARIABLES), .val (.int (0 : Int32)), .unset, .unset] [(.int (2 : Int32)), (.int p1)])) (fun _ k => XS.iconst X12.here hx rfl (hb hby at_58) k) ?_
    refine Go.st (S' := T12.setTop (mkF m 60 #[.val (.int p1), .val (.ref b9), .val (.ref b10), .val (.ref w_NO_VARIABLES), .val (.ref w_NO_VARIABLES), .val (.int (0 : Int32)), .unset, .unset] [(.int (p1 &&& (2 : Int32)))])) (fun _ k => XS.iand X12.here hx rfl (hb hby at_59) rfl k) ?_
    by_cases hc60 : (p1 &&& (2 : Int32)) = (0 : Int32)
    · refine Go.st (S' := T12.setTop (mkF m 67 #[.val (.int p1), .val (.ref b9), .val (.ref b10), .val (.ref w_NO_VARIABLES), .val (.ref w_NO_VARIABLES), .val (.int (0 : Int32)), .unset, .unset] [])) (fun _ k => XS.ifYes X12.here hx rfl (pc0 := 60) (pc' := 67) rfl (hb hby at_60) rfl ((if0 _ _).trans (teq hc60).1) (by decide) (by decide) k) ?_
      refine Go.st (S' := T12.setTop (mkF m 68 #[.val (.int p1), .val (.ref b9), .val (.ref b10), .val (.ref w_NO_VARIABLES), .val (.ref w_NO_VARIABLES), .val (.int (0 : Int32)), .unset, .unset] [(.ref w_NO_VARIABLES)])) (fun _ k => XS.aloadN X12.here hx rfl (hb hby at_67) rfl rfl k) ?_
      refine Go.st (S' := T12.setTop (mkF m 70 #[.val (.int p1), .val (.ref b9), .val (.ref b10), .val (.ref w_NO_VARIABLES), .val (.ref w_NO_VARIABLES), .val (.int (0 : Int32)), .val (.ref w_NO_VARIABLES), .unset] [])) (fun _ k => XS.astore X12.here hx rfl (hb hby at_68) rfl rfl (l' := #[.val (.int p1), .val (.ref b9), .val (.ref b10), .val (.ref w_NO_VARIABLES), .val (.ref w_NO_VARIABLES), .val (.int (0 : Int32)), .val (.ref w_NO_VARIABLES), .unset]) rfl k) ?_
      refine Go.st (S' := T12.setTop (mkF m 72 #[.val (.int p1), .val (.ref b9), .val (.ref b10), .val (.ref w_NO_VARIABLES), .val (.ref w_NO_VARIABLES), .val (.int (0 : Int32)), .val (.ref w_NO_VARIABLES), .unset] [(.ref w_NO_VARIABLES)])) (fun _ k => XS.aload X12.here hx rfl (hb hby at_70) rfl rfl k) ?_
      refine Go.st (S' := T12.setTop (mkF m 74 #[.val (.int p1), .val (.ref b9), .val (.ref b10), .val (.ref w_NO_VARIABLES), .val (.ref w_NO_VARIABLES), .val (.int (0 : Int32)), .val (.ref w_NO_VARIABLES), .unset] [(.int (0 : Int32)), (.ref w_NO_VARIABLES)])) (fun _ k => XS.iload X12.here hx rfl (hb hby at_72) rfl k) ?_
      obtain ⟨_, T13, L13, X13, ⟨rfl, Nq13, eq13⟩, st13⟩ := own_callS X12 hx hZ hown (ww hw 0 rfl) (ww hw 1 rfl) (ww hw 2 rfl) (ww hw 3 rfl) (by decide) eq12 (rmGa l Z a0 hw [] w_NO_VARIABLES hS w_NO_VARIABLES (0 : Int32) T10.heap O10) 0 (by decide) (by decide) (by decide) (by decide) (g := (mkF m 74 #[.val (.int p1), .val (.ref b9), .val (.ref b10), .val (.ref w_NO_VARIABLES), .val (.ref w_NO_VARIABLES), .val (.int (0 : Int32)), .val (.ref w_NO_VARIABLES), .unset] [(.int (0 : Int32)), (.ref w_NO_VARIABLES)])) rfl (by rw [hml]; rfl) [(.ref w_NO_VARIABLES), (.int (0 : Int32))] [] rfl (lenOf pd_16346 rfl) rfl (by show 2 * 0 + _ ≤ _; exact Nat.le_of_eq rfl) (hb hby at_74)
      have N13 := Fr.app N12 Nq13
      refine Go.st (S' := T13.setTop (mkF m 77 #[.val (.int p1), .val (.ref b9), .val (.ref b10), .val (.ref w_NO_VARIABLES), .val (.ref w_NO_VARIABLES), .val (.int (0 : Int32)), .val (.ref w_NO_VARIABLES), .unset] [(.ref w_NO_VARIABLES)])) st13 ?_
      refine Go.st (S' := T13.setTop (mkF m 79 #[.val (.int p1), .val (.ref b9), .val (.ref b10), .val (.ref w_NO_VARIABLES), .val (.ref w_NO_VARIABLES), .val (.int (0 : Int32)), .val (.ref w_NO_VARIABLES), .val (.ref w_NO_VARIABLES)] [])) (fun _ k => XS.astore X13.here hx rfl (hb hby at_77) rfl rfl (l' := #[.val (.int p1), .val (.ref b9), .val (.ref b10), .val (.ref w_NO_VARIABLES), .val (.ref w_NO_VARIABLES), .val (.int (0 : Int32)), .val (.ref w_NO_VARIABLES), .val (.ref w_NO_VARIABLES)]) rfl k) ?_
      refine Go.st (S' := T13.setTop (mkF m 80 #[.val (.int p1), .val (.ref b9), .val (.ref b10), .val (.ref w_NO_VARIABLES), .val (.ref w_NO_VARIABLES), .val (.int (0 : Int32)), .val (.ref w_NO_VARIABLES), .val (.ref w_NO_VARIABLES)] [(.ref b9)])) (fun _ k => XS.aloadN X13.here hx rfl (hb hby at_79) rfl rfl k) ?_
      refine Go.st (S' := T13.setTop (mkF m 81 #[.val (.int p1), .val (.ref b9), .val (.ref b10), .val (.ref w_NO_VARIABLES), .val (.ref w_NO_VARIABLES), .val (.int (0 : Int32)), .val (.ref w_NO_VARIABLES), .val (.ref w_NO_VARIABLES)] [(.ref b10), (.ref b9)])) (fun _ k => XS.aloadN X13.here hx rfl (hb hby at_80) rfl rfl k) ?_
      refine Go.st (S' := T13.setTop (mkF m 84 #[.val (.int p1), .val (.ref b9), .val (.ref b10), .val (.ref w_NO_VARIABLES), .val (.ref w_NO_VARIABLES), .val (.int (0 : Int32)), .val (.ref w_NO_VARIABLES), .val (.ref w_NO_VARIABLES)] [])) (fun _ k => Jvm.RoadKit.acmp (g := (mkF m 81 #[.val (.int p1), .val (.ref b9), .val (.ref b10), .val (.ref w_NO_VARIABLES), .val (.ref w_NO_VARIABLES), .val (.int (0 : Int32)), .val (.ref w_NO_VARIABLES), .val (.ref w_NO_VARIABLES)] [(.ref b10), (.ref b9)])) X13 hx rfl rfl rfl (pc0 := 81) (pc' := 84) (same := false) rfl (hb hby at_81) rfl (decide_eq_false fun q => ne_b9_b10 (Value.ref.inj q)) (by decide) (by decide) k) ?_
      refine Go.st (S' := T13.setTop (mkF m 85 #[.val (.int p1), .val (.ref b9), .val (.ref b10), .val (.ref w_NO_VARIABLES), .val (.ref w_NO_VARIABLES), .val (.int (0 : Int32)), .val (.ref w_NO_VARIABLES), .val (.ref w_NO_VARIABLES)] [(.ref w_NO_VARIABLES)])) (fun _ k => XS.aloadN X13.here hx rfl (hb hby at_84) rfl rfl k) ?_
      refine Go.st (S' := T13.setTop (mkF m 87 #[.val (.int p1), .val (.ref b9), .val (.ref b10), .val (.ref w_NO_VARIABLES), .val (.ref w_NO_VARIABLES), .val (.int (0 : Int32)), .val (.ref w_NO_VARIABLES), .val (.ref w_NO_VARIABLES)] [(.ref w_NO_VARIABLES), (.ref w_NO_VARIABLES)])) (fun _ k => XS.aload X13.here hx rfl (hb hby at_85) rfl rfl k) ?_
      refine Go.st (S' := T13.setTop (mkF m 90 #[.val (.int p1), .val (.ref b9), .val (.ref b10), .val (.ref w_NO_VARIABLES), .val (.ref w_NO_VARIABLES), .val (.int (0 : Int32)), .val (.ref w_NO_VARIABLES), .val (.ref w_NO_VARIABLES)] [])) (fun _ k => Jvm.RoadKit.acmp (g := (mkF m 87 #[.val (.int p1), .val (.ref b9), .val (.ref b10), .val (.ref w_NO_VARIABLES), .val (.ref w_NO_VARIABLES), .val (.int (0 : Int32)), .val (.ref w_NO_VARIABLES), .val (.ref w_NO_VARIABLES)] [(.ref w_NO_VARIABLES), (.ref w_NO_VARIABLES)])) X13 hx rfl rfl rfl (pc0 := 87) (pc' := 90) (same := true) rfl (hb hby at_87) rfl (decide_eq_true rfl) (by decide) (by decide) k) ?_
      refine Go.st (S' := T13.setTop (mkF m 91 #[.val (.int p1), .val (.ref b9), .val (.ref b10), .val (.ref w_NO_VARIABLES), .val (.ref w_NO_VARIABLES), .val (.int (0 : Int32)), .val (.ref w_NO_VARIABLES), .val (.ref w_NO_VARIABLES)] [(.ref b9)])) (fun _ k => XS.aloadN X13.here hx rfl (hb hby at_90) rfl rfl k) ?_
      refine Go.st (S' := T13.setTop (mkF m 92 #[.val (.int p1), .val (.ref b9), .val (.ref b10), .val (.ref w_NO_VARIABLES), .val (.ref w_NO_VARIABLES), .val (.int (0 : Int32)), .val (.ref w_NO_VARIABLES), .val (.ref w_NO_VARIABLES)] [(.ref w_NO_VARIABLES), (.ref b9)])) (fun _ k => XS.aloadN X13.here hx rfl (hb hby at_91) rfl rfl k) ?_
      refine Go.st (S' := T13.setTop (mkF m 95 #[.val (.int p1), .val (.ref b9), .val (.ref b10), .val (.ref w_NO_VARIABLES), .val (.ref w_NO_VARIABLES), .val (.int (0 : Int32)), .val (.ref w_NO_VARIABLES), .val (.ref w_NO_VARIABLES)] [])) (fun _ k => Jvm.RoadKit.acmp (g := (mkF m 92 #[.val (.int p1), .val (.ref b9), .val (.ref b10), .val (.ref w_NO_VARIABLES), .val (.ref w_NO_VARIABLES), .val (.int (0 : Int32)), .val (.ref w_NO_VARIABLES), .val (.ref w_NO_VARIABLES)] [(.ref w_NO_VARIABLES), (.ref b9)])) X13 hx rfl rfl rfl (pc0 := 92) (pc' := 95) (same := false) rfl (hb hby at_92) rfl (decide_eq_false fun q => (Ne.symm (own_lt_ne' E_NO_VARIABLES.lt (Nat.le_trans O0.1 sb9))) (Value.ref.inj q)) (by decide) (by decide) k) ?_
      refine Go.st (S' := T13.setTop (mkF m 96 #[.val (.int p1), .val (.ref b9), .val (.ref b10), .val (.ref w_NO_VARIABLES), .val (.ref w_NO_VARIABLES), .val (.int (0 : Int32)), .val (.ref w_NO_VARIABLES), .val (.ref w_NO_VARIABLES)] [(.ref b9)])) (fun _ k => XS.aloadN X13.here hx rfl (hb hby at_95) rfl rfl k) ?_
      obtain ⟨_, T14, L14, X14, ⟨rfl, Nq14, eq14⟩, st14⟩ := own_callF X13 hx hZ hown (ww hw 24 rfl) (ww hw 25 rfl) (ww hw 26 rfl) (ww hw 27 rfl) (ww hw 28 rfl) (ww hw 29 rfl) (ww hw 30 rfl) (ww hw 31 rfl) (ww hw 6 rfl) (ww hw 32 rfl) (by decide) eq13 (ex9.keep kp10) (rmE l Z a0 hw [] w_NO_VARIABLES hS b9 T10.heap O10 (fs9.keep kp10 nin0)) 0 (by decide) (by decide) (by decide) (by decide) (g := (mkF m 96 #[.val (.int p1), .val (.ref b9), .val (.ref b10), .val (.ref w_NO_VARIABLES), .val (.ref w_NO_VARIABLES), .val (.int (0 : Int32)), .val (.ref w_NO_VARIABLES), .val (.ref w_NO_VARIABLES)] [(.ref b9)])) rfl (by rw [hml]; rfl) [] [] rfl (lenOf pd_428490 rfl) rfl (by show 2 * 0 + _ ≤ _; exact Nat.le_of_eq rfl) (hb hby at_96)
      have N14 := Fr.app N13 Nq14
      refine Go.st (S' := T14.setTop (mkF m 101 #[.val (.int p1), .val (.ref b9), .val (.ref b10), .val (.ref w_NO_VARIABLES), .val (.ref w_NO_VARIABLES), .val (.int (0 : Int32)), .val (.ref w_NO_VARIABLES), .val (.ref w_NO_VARIABLES)] [(.int (1 : Int32))])) st14 ?_
      refine Go.st (S' := T14.setTop (mkF m 104 #[.val (.int p1), .val (.ref b9), .val (.ref b10), .val (.ref w_NO_VARIABLES), .val (.ref w_NO_VARIABLES), .val (.int (0 : Int32)), .val (.ref w_NO_VARIABLES), .val (.ref w_NO_VARIABLES)] [])) (fun _ k => XS.ifNo X14.here hx rfl (hb hby at_101) rfl ((if0 _ _).trans (feq (by decide)).1) k) ?_
      refine Go.st (S' := T14.setTop (mkF m 105 #[.val (.int p1), .val (.ref b9), .val (.ref b10), .val (.ref w_NO_VARIABLES), .val (.ref w_NO_VARIABLES), .val (.int (0 : Int32)), .val (.ref w_NO_VARIABLES), .val (.ref w_NO_VARIABLES)] [(.ref b10)])) (fun _ k => XS.aloadN X14.here hx rfl (hb hby at_104) rfl rfl k) ?_
      obtain ⟨_, T15, L15, X15, ⟨rfl, Nq15, eq15⟩, st15⟩ := own_callF X14 hx hZ hown (ww hw 24 rfl) (ww hw 25 rfl) (ww hw 26 rfl) (ww hw 27 rfl) (ww hw 28 rfl) (ww hw 29 rfl) (ww hw 30 rfl) (ww hw 31 rfl) (ww hw 6 rfl) (ww hw 32 rfl) (by decide) eq14 ex10 (rmE l Z a0 hw [] w_NO_VARIABLES hS b10 T10.heap O10 fs10) 0 (by decide) (by decide) (by decide) (by decide) (g := (mkF m 105 #[.val (.int p1), .val (.ref b9), .val (.ref b10), .val (.ref w_NO_VARIABLES), .val (.ref w_NO_VARIABLES), .val (.int (0 : Int32)), .val (.ref w_NO_VARIABLES), .val (.ref w_NO_VARIABLES)] [(.ref b10)])) rfl (by rw [hml]; rfl) [] [] rfl (lenOf pd_428490 rfl) rfl (by show 2 * 0 + _ ≤ _; exact Nat.le_of_eq rfl) (hb hby at_105)
      have N15 := Fr.app N14 Nq15
      refine Go.st (S' := T15.setTop (mkF m 110 #[.val (.int p1), .val (.ref b9), .val (.ref b10), .val (.ref w_NO_VARIABLES), .val (.ref w_NO_VARIABLES), .val (.int (0 : Int32)), .val (.ref w_NO_VARIABLES), .val (.ref w_NO_VARIABLES)] [(.int (1 : Int32))])) st15 ?_
      refine Go.st (S' := T15.setTop (mkF m 113 #[.val (.int p1), .val (.ref b9), .val (.ref b10), .val (.ref w_NO_VARIABLES), .val (.ref w_NO_VARIABLES), .val (.int (0 : Int32)), .val (.ref w_NO_VARIABLES), .val (.ref w_NO_VARIABLES)] [])) (fun _ k => XS.ifNo X15.here hx rfl (hb hby at_110) rfl ((if0 _ _).trans (feq (by decide)).1) k) ?_
      refine Go.st (S' := T15.setTop (mkF m 114 #[.val (.int p1), .val (.ref b9), .val (.ref b10), .val (.ref w_NO_VARIABLES), .val (.ref w_NO_VARIABLES), .val (.int (0 : Int32)), .val (.ref w_NO_VARIABLES), .val (.ref w_NO_VARIABLES)] [(.ref w_NO_VARIABLES)])) (fun _ k => XS.aloadN X15.here hx rfl (hb hby at_113) rfl rfl k) ?_
      obtain ⟨_, T16, L16, X16, ⟨rfl, Nq16, eq16⟩, st16⟩ := own_callF X15 hx hZ hown (ww hw 24 rfl) (ww hw 25 rfl) (ww hw 26 rfl) (ww hw 35 rfl) (ww hw 36 rfl) (ww hw 37 rfl) (ww hw 38 rfl) (ww hw 39 rfl) (ww hw 40 rfl) (ww hw 41 rfl) (by decide) eq15 (E_NO_VARIABLES.ext O10) (rmM l Z a0 hw [] w_NO_VARIABLES hS w_NO_VARIABLES T10.heap O10 (F_NO_VARIABLES_size.ext O10)) 0 (by decide) (by decide) (by decide) (by decide) (g := (mkF m 114 #[.val (.int p1), .val (.ref b9), .val (.ref b10), .val (.ref w_NO_VARIABLES), .val (.ref w_NO_VARIABLES), .val (.int (0 : Int32)), .val (.ref w_NO_VARIABLES), .val (.ref w_NO_VARIABLES)] [(.ref w_NO_VARIABLES)])) rfl (by rw [hml]; rfl) [] [] rfl (lenOf pd_428490 rfl) rfl (by show 2 * 0 + _ ≤ _; exact Nat.le_of_eq rfl) (hb hby at_114)
      have N16 := Fr.app N15 Nq16
      refine Go.st (S' := T16.setTop (mkF m 119 #[.val (.int p1), .val (.ref b9), .val (.ref b10), .val (.ref w_NO_VARIABLES), .val (.ref w_NO_VARIABLES), .val (.int (0 : Int32)), .val (.ref w_NO_VARIABLES), .val (.ref w_NO_VARIABLES)] [(.int (1 : Int32))])) st16 ?_
      refine Go.st (S' := T16.setTop (mkF m 122 #[.val (.int p1), .val (.ref b9), .val (.ref b10), .val (.ref w_NO_VARIABLES), .val (.ref w_NO_VARIABLES), .val (.int (0 : Int32)), .val (.ref w_NO_VARIABLES), .val (.ref w_NO_VARIABLES)] [])) (fun _ k => XS.ifNo X16.here hx rfl (hb hby at_119) rfl ((if0 _ _).trans (feq (by decide)).1) k) ?_
      refine Go.st (S' := T16.setTop (mkF m 124 #[.val (.int p1), .val (.ref b9), .val (.ref b10), .val (.ref w_NO_VARIABLES), .val (.ref w_NO_VARIABLES), .val (.int (0 : Int32)), .val (.ref w_NO_VARIABLES), .val (.ref w_NO_VARIABLES)] [(.ref w_NO_VARIABLES)])) (fun _ k => XS.aload X16.here hx rfl (hb hby at_122) rfl rfl k) ?_
      refine Go.st (S' := T16.setTop (mkF m 126 #[.val (.int p1), .val (.ref b9), .val (.ref b10), .val (.ref w_NO_VARIABLES), .val (.ref w_NO_VARIABLES), .val (.int (0 : Int32)), .val (.ref w_NO_VARIABLES), .val (.ref w_NO_VARIABLES)] [(.ref w_NO_VARIABLES), (.ref w_NO_VARIABLES)])) (fun _ k => XS.aload X16.here hx rfl (hb hby at_124) rfl rfl k) ?_
      refine Go.st (S' := T16.setTop (mkF m 129 #[.val (.int p1), .val (.ref b9), .val (.ref b10), .val (.ref w_NO_VARIABLES), .val (.ref w_NO_VARIABLES), .val (.int (0 : Int32)), .val (.ref w_NO_VARIABLES), .val (.ref w_NO_VARIABLES)] [])) (fun _ k => Jvm.RoadKit.acmp (g := (mkF m 126 #[.val (.int p1), .val (.ref b9), .val (.ref b10), .val (.ref w_NO_VARIABLES), .val (.ref w_NO_VARIABLES), .val (.int (0 : Int32)), .val (.ref w_NO_VARIABLES), .val (.ref w_NO_VARIABLES)] [(.ref w_NO_VARIABLES), (.ref w_NO_VARIABLES)])) X16 hx rfl rfl rfl (pc0 := 126) (pc' := 129) (same := true) rfl (hb hby at_126) rfl (decide_eq_true rfl) (by decide) (by decide) k) ?_
      refine Go.st (S' := T16.setTop (mkF m 130 #[.val (.int p1), .val (.ref b9), .val (.ref b10), .val (.ref w_NO_VARIABLES), .val (.ref w_NO_VARIABLES), .val (.int (0 : Int32)), .val (.ref w_NO_VARIABLES), .val (.ref w_NO_VARIABLES)] [(.int (1 : Int32))])) (fun _ k => XS.iconst X16.here hx rfl (hb hby at_129) k) ?_
      refine Go.st (S' := T16.setTop (mkF m 134 #[.val (.int p1), .val (.ref b9), .val (.ref b10), .val (.ref w_NO_VARIABLES), .val (.ref w_NO_VARIABLES), .val (.int (0 : Int32)), .val (.ref w_NO_VARIABLES), .val (.ref w_NO_VARIABLES)] [(.int (1 : Int32))])) (fun _ k => XS.goto X16.here hx rfl (pc0 := 130) (pc' := 134) rfl (hb hby at_130) (by decide) (by decide) k) ?_
      exact own_retN X16 hx hlk hret (by simp) (hb hby at_134) eq16 ⟨rfl, N16⟩ (by decide) (by decide)
    · refine Go.st (S' := T12.setTop (mkF m 63 #[.val (.int p1), .val (.ref b9), .val (.ref b10), .val (.ref w_NO_VARIABLES), .val (.ref w_NO_VARIABLES), .val (.int (0 : Int32)), .unset, .unset] [])) (fun _ k => XS.ifNo X12.here hx rfl (hb hby at_60) rfl ((if0 _ _).trans (feq hc60).1) k) ?_
      refine Go.st (S' := T12.setTop (mkF m 64 #[.val (.int p1), .val (.ref b9), .val (.ref b10), .val (.ref w_NO_VARIABLES), .val (.ref w_NO_VARIABLES), .val (.int (0 : Int32)), .unset, .unset] [(.ref b9)])) (fun _ k => XS.aloadN X12.here hx rfl (hb hby at_63) rfl rfl k) ?_
      refine Go.st (S' := T12.setTop (mkF m 68 #[.val (.int p1), .val (.ref b9), .val (.ref b10), .val (.ref w_NO_VARIABLES), .val (.ref w_NO_VARIABLES), .val (.int (0 : Int32)), .unset, .unset] [(.ref b9)])) (fun _ k => XS.goto X12.here hx rfl (pc0 := 64) (pc' := 68) rfl (hb hby at_64) (by decide) (by decide) k) ?_
      refine Go.st (S' := T12.setTop (mkF m 70 #[.val (.int p1), .val (.ref b9), .val (.ref b10), .val (.ref w_NO_VARIABLES), .val (.ref w_NO_VARIABLES), .val (.int (0 : Int32)), .val (.ref b9), .unset] [])) (fun _ k => XS.astore X12.here hx rfl (hb hby at_68) rfl rfl (l' := #[.val (.int p1), .val (.ref b9), .val (.ref b10), .val (.ref w_NO_VARIABLES), .val (.ref w_NO_VARIABLES), .val (.int (0 : Int32)), .val (.ref b9), .unset]) rfl k) ?_
      refine Go.st (S' := T12.setTop (mkF m 72 #[.val (.int p1), .val (.ref b9), .val (.ref b10), .val (.ref w_NO_VARIABLES), .val (.ref w_NO_VARIABLES), .val (.int (0 : Int32)), .val (.ref b9), .unset] [(.ref b9)])) (fun _ k => XS.aload X12.here hx rfl (hb hby at_70) rfl rfl k) ?_
      refine Go.st (S' := T12.setTop (mkF m 74 #[.val (.int p1), .val (.ref b9), .val (.ref b10), .val (.ref w_NO_VARIABLES), .val (.ref w_NO_VARIABLES), .val (.int (0 : Int32)), .val (.ref b9), .unset] [(.int (0 : Int32)), (.ref b9)])) (fun _ k => XS.iload X12.here hx rfl (hb hby at_72) rfl k) ?_
      obtain ⟨_, T17, L17, X17, ⟨rfl, Nq17, eq17⟩, st17⟩ := own_callS X12 hx hZ hown (ww hw 0 rfl) (ww hw 1 rfl) (ww hw 2 rfl) (ww hw 3 rfl) (by decide) eq12 (rmGa l Z a0 hw [] w_NO_VARIABLES hS b9 (0 : Int32) T10.heap O10) 0 (by decide) (by decide) (by decide) (by decide) (g := (mkF m 74 #[.val (.int p1), .val (.ref b9), .val (.ref b10), .val (.ref w_NO_VARIABLES), .val (.ref w_NO_VARIABLES), .val (.int (0 : Int32)), .val (.ref b9), .unset] [(.int (0 : Int32)), (.ref b9)])) rfl (by rw [hml]; rfl) [(.ref b9), (.int (0 : Int32))] [] rfl (lenOf pd_16346 rfl) rfl (by show 2 * 0 + _ ≤ _; exact Nat.le_of_eq rfl) (hb hby at_74)
      have N17 := Fr.app N12 Nq17
      refine Go.st (S' := T17.setTop (mkF m 77 #[.val (.int p1), .val (.ref b9), .val (.ref b10), .val (.ref w_NO_VARIABLES), .val (.ref w_NO_VARIABLES), .val (.int (0 : Int32)), .val (.ref b9), .unset] [(.ref b9)])) st17 ?_
      refine Go.st (S' := T17.setTop (mkF m 79 #[.val (.int p1), .val (.ref b9), .val (.ref b10), .val (.ref w_NO_VARIABLES), .val (.ref w_NO_VARIABLES), .val (.int (0 : Int32)), .val (.ref b9), .val (.ref b9)] [])) (fun _ k => XS.astore X17.here hx rfl (hb hby at_77) rfl rfl (l' := #[.val (.int p1), .val (.ref b9), .val (.ref b10), .val (.ref w_NO_VARIABLES), .val (.ref w_NO_VARIABLES), .val (.int (0 : Int32)), .val (.ref b9), .val (.ref b9)]) rfl k) ?_
      refine Go.st (S' := T17.setTop (mkF m 80 #[.val (.int p1), .val (.ref b9), .val (.ref b10), .val (.ref w_NO_VARIABLES), .val (.ref w_NO_VARIABLES), .val (.int (0 : Int32)), .val (.ref b9), .val (.ref b9)] [(.ref b9)])) (fun _ k => XS.aloadN X17.here hx rfl (hb hby at_79) rfl rfl k) ?_
      refine Go.st (S' := T17.setTop (mkF m 81 #[.val (.int p1), .val (.ref b9), .val (.ref b10), .val (.ref w_NO_VARIABLES), .val (.ref w_NO_VARIABLES), .val (.int (0 : Int32)), .val (.ref b9), .val (.ref b9)] [(.ref b10), (.ref b9)])) (fun _ k => XS.aloadN X17.here hx rfl (hb hby at_80) rfl rfl k) ?_
      refine Go.st (S' := T17.setTop (mkF m 84 #[.val (.int p1), .val (.ref b9), .val (.ref b10), .val (.ref w_NO_VARIABLES), .val (.ref w_NO_VARIABLES), .val (.int (0 : Int32)), .val (.ref b9), .val (.ref b9)] [])) (fun _ k => Jvm.RoadKit.acmp (g := (mkF m 81 #[.val (.int p1), .val (.ref b9), .val (.ref b10), .val (.ref w_NO_VARIABLES), .val (.ref w_NO_VARIABLES), .val (.int (0 : Int32)), .val (.ref b9), .val (.ref b9)] [(.ref b10), (.ref b9)])) X17 hx rfl rfl rfl (pc0 := 81) (pc' := 84) (same := false) rfl (hb hby at_81) rfl (decide_eq_false fun q => ne_b9_b10 (Value.ref.inj q)) (by decide) (by decide) k) ?_
      refine Go.st (S' := T17.setTop (mkF m 85 #[.val (.int p1), .val (.ref b9), .val (.ref b10), .val (.ref w_NO_VARIABLES), .val (.ref w_NO_VARIABLES), .val (.int (0 : Int32)), .val (.ref b9), .val (.ref b9)] [(.ref w_NO_VARIABLES)])) (fun _ k => XS.aloadN X17.here hx rfl (hb hby at_84) rfl rfl k) ?_
      refine Go.st (S' := T17.setTop (mkF m 87 #[.val (.int p1), .val (.ref b9), .val (.ref b10), .val (.ref w_NO_VARIABLES), .val (.ref w_NO_VARIABLES), .val (.int (0 : Int32)), .val (.ref b9), .val (.ref b9)] [(.ref w_NO_VARIABLES), (.ref w_NO_VARIABLES)])) (fun _ k => XS.aload X17.here hx rfl (hb hby at_85) rfl rfl k) ?_
      refine Go.st (S' := T17.setTop (mkF m 90 #[.val (.int p1), .val (.ref b9), .val (.ref b10), .val (.ref w_NO_VARIABLES), .val (.ref w_NO_VARIABLES), .val (.int (0 : Int32)), .val (.ref b9), .val (.ref b9)] [])) (fun _ k => Jvm.RoadKit.acmp (g := (mkF m 87 #[.val (.int p1), .val (.ref b9), .val (.ref b10), .val (.ref w_NO_VARIABLES), .val (.ref w_NO_VARIABLES), .val (.int (0 : Int32)), .val (.ref b9), .val (.ref b9)] [(.ref w_NO_VARIABLES), (.ref w_NO_VARIABLES)])) X17 hx rfl rfl rfl (pc0 := 87) (pc' := 90) (same := true) rfl (hb hby at_87) rfl (decide_eq_true rfl) (by decide) (by decide) k) ?_
      refine Go.st (S' := T17.setTop (mkF m 91 #[.val (.int p1), .val (.ref b9), .val (.ref b10), .val (.ref w_NO_VARIABLES), .val (.ref w_NO_VARIABLES), .val (.int (0 : Int32)), .val (.ref b9), .val (.ref b9)] [(.ref b9)])) (fun _ k => XS.aloadN X17.here hx rfl (hb hby at_90) rfl rfl k) ?_
      refine Go.st (S' := T17.setTop (mkF m 92 #[.val (.int p1), .val (.ref b9), .val (.ref b10), .val (.ref w_NO_VARIABLES), .val (.ref w_NO_VARIABLES), .val (.int (0 : Int32)), .val (.ref b9), .val (.ref b9)] [(.ref w_NO_VARIABLES), (.ref b9)])) (fun _ k => XS.aloadN X17.here hx rfl (hb hby at_91) rfl rfl k) ?_
      refine Go.st (S' := T17.setTop (mkF m 95 #[.val (.int p1), .val (.ref b9), .val (.ref b10), .val (.ref w_NO_VARIABLES), .val (.ref w_NO_VARIABLES), .val (.int (0 : Int32)), .val (.ref b9), .val (.ref b9)] [])) (fun _ k => Jvm.RoadKit.acmp (g := (mkF m 92 #[.val (.int p1), .val (.ref b9), .val (.ref b10), .val (.ref w_NO_VARIABLES), .val (.ref w_NO_VARIABLES), .val (.int (0 : Int32)), .val (.ref b9), .val (.ref b9)] [(.ref w_NO_VARIABLES), (.ref b9)])) X17 hx rfl rfl rfl (pc0 := 92) (pc' := 95) (same := false) rfl (hb hby at_92) rfl (decide_eq_false fun q => (Ne.symm (own_lt_ne' E_NO_VARIABLES.lt (Nat.le_trans O0.1 sb9))) (Value.ref.inj q)) (by decide) (by decide) k) ?_
      refine Go.st (S' := T17.setTop (mkF m 96 #[.val (.int p1), .val (.ref b9), .val (.ref b10), .val (.ref w_NO_VARIABLES), .val (.ref w_NO_VARIABLES), .val (.int (0 : Int32)), .val (.ref b9), .val (.ref b9)] [(.ref b9)])) (fun _ k => XS.aloadN X17.here hx rfl (hb hby at_95) rfl rfl k) ?_
      obtain ⟨_, T18, L18, X18, ⟨rfl, Nq18, eq18⟩, st18⟩ := own_callF X17 hx hZ hown (ww hw 24 rfl) (ww hw 25 rfl) (ww hw 26 rfl) (ww hw 27 rfl) (ww hw 28 rfl) (ww hw 29 rfl) (ww hw 30 rfl) (ww hw 31 rfl) (ww hw 6 rfl) (ww hw 32 rfl) (by decide) eq17 (ex9.keep kp10) (rmE l Z a0 hw [] w_NO_VARIABLES hS b9 T10.heap O10 (fs9.keep kp10 nin0)) 0 (by decide) (by decide) (by decide) (by decide) (g := (mkF m 96 #[.val (.int p1), .val (.ref b9), .val (.ref b10), .val (.ref w_NO_VARIABLES), .val (.ref w_NO_VARIABLES), .val (.int (0 : Int32)), .val (.ref b9), .val (.ref b9)] [(.ref b9)])) rfl (by rw [hml]; rfl) [] [] rfl (lenOf pd_428490 rfl) rfl (by show 2 * 0 + _ ≤ _; exact Nat.le_of_eq rfl) (hb hby at_96)
      have N18 := Fr.app N17 Nq18
      refine Go.st (S' := T18.setTop (mkF m 101 #[.val (.int p1), .val (.ref b9), .val (.ref b10), .val (.ref w_NO_VARIABLES), .val (.ref w_NO_VARIABLES), .val (.int (0 : Int32)), .val (.ref b9), .val (.ref b9)] [(.int (1 : Int32))])) st18 ?_
      refine Go.st (S' := T18.setTop (mkF m 104 #[.val (.int p1), .val (.ref b9), .val (.ref b10), .val (.ref w_NO_VARIABLES), .val (.ref w_NO_VARIABLES), .val (.int (0 : Int32)), .val (.ref b9), .val (.ref b9)] [])) (fun _ k => XS.ifNo X18.here hx rfl (hb hby at_101) rfl ((if0 _ _).trans (feq (by decide)).1) k) ?_
      refine Go.st (S' := T18.setTop (mkF m 105 #[.val (.int p1), .val (.ref b9), .val (.ref b10), .val (.ref w_NO_VARIABLES), .val (.ref w_NO_VARIABLES), .val (.int (0 : Int32)), .val (.ref b9), .val (.ref b9)] [(.ref b10)])) (fun _ k => XS.aloadN X18.here hx rfl (hb hby at_104) rfl rfl k) ?_
      obtain ⟨_, T19, L19, X19, ⟨rfl, Nq19, eq19⟩, st19⟩ := own_callF X18 hx hZ hown (ww hw 24 rfl) (ww hw 25 rfl) (ww hw 26 rfl) (ww hw 27 rfl) (ww hw 28 rfl) (ww hw 29 rfl) (ww hw 30 rfl) (ww hw 31 rfl) (ww hw 6 rfl) (ww hw 32 rfl) (by decide) eq18 ex10 (rmE l Z a0 hw [] w_NO_VARIABLES hS b10 T10.heap O10 fs10) 0 (by decide) (by decide) (by decide) (by decide) (g := (mkF m 105 #[.val (.int p1), .val (.ref b9), .val (.ref b10), .val (.ref w_NO_VARIABLES), .val (.ref w_NO_VARIABLES), .val (.int (0 : Int32)), .val (.ref b9), .val (.ref b9)] [(.ref b10)])) rfl (by rw [hml]; rfl) [] [] rfl (lenOf pd_428490 rfl) rfl (by show 2 * 0 + _ ≤ _; exact Nat.le_of_eq rfl) (hb hby at_105)
      have N19 := Fr.app N18 Nq19
      refine Go.st (S' := T19.setTop (mkF m 110 #[.val (.int p1), .val (.ref b9), .val (.ref b10), .val (.ref w_NO_VARIABLES), .val (.ref w_NO_VARIABLES), .val (.int (0 : Int32)), .val (.ref b9), .val (.ref b9)] [(.int (1 : Int32))])) st19 ?_
      refine Go.st (S' := T19.setTop (mkF m 113 #[.val (.int p1), .val (.ref b9), .val (.ref b10), .val (.ref w_NO_VARIABLES), .val (.ref w_NO_VARIABLES), .val (.int (0 : Int32)), .val (.ref b9), .val (.ref b9)] [])) (fun _ k => XS.ifNo X19.here hx rfl (hb hby at_110) rfl ((if0 _ _).trans (feq (by decide)).1) k) ?_
      refine Go.st (S' := T19.setTop (mkF m 114 #[.val (.int p1), .val (.ref b9), .val (.ref b10), .val (.ref w_NO_VARIABLES), .val (.ref w_NO_VARIABLES), .val (.int (0 : Int32)), .val (.ref b9), .val (.ref b9)] [(.ref w_NO_VARIABLES)])) (fun _ k => XS.aloadN X19.here hx rfl (hb hby at_113) rfl rfl k) ?_
      obtain ⟨_, T20, L20, X20, ⟨rfl, Nq20, eq20⟩, st20⟩ := own_callF X19 hx hZ hown (ww hw 24 rfl) (ww hw 25 rfl) (ww hw 26 rfl) (ww hw 35 rfl) (ww hw 36 rfl) (ww hw 37 rfl) (ww hw 38 rfl) (ww hw 39 rfl) (ww hw 40 rfl) (ww hw 41 rfl) (by decide) eq19 (E_NO_VARIABLES.ext O10) (rmM l Z a0 hw [] w_NO_VARIABLES hS w_NO_VARIABLES T10.heap O10 (F_NO_VARIABLES_size.ext O10)) 0 (by decide) (by decide) (by decide) (by decide) (g := (mkF m 114 #[.val (.int p1), .val (.ref b9), .val (.ref b10), .val (.ref w_NO_VARIABLES), .val (.ref w_NO_VARIABLES), .val (.int (0 : Int32)), .val (.ref b9), .val (.ref b9)] [(.ref w_NO_VARIABLES)])) rfl (by rw [hml]; rfl) [] [] rfl (lenOf pd_428490 rfl) rfl (by show 2 * 0 + _ ≤ _; exact Nat.le_of_eq rfl) (hb hby at_114)
      have N20 := Fr.app N19 Nq20
      refine Go.st (S' := T20.setTop (mkF m 119 #[.val (.int p1), .val (.ref b9), .val (.ref b10), .val (.ref w_NO_VARIABLES), .val (.ref w_NO_VARIABLES), .val (.int (0 : Int32)), .val (.ref b9), .val (.ref b9)] [(.int (1 : Int32))])) st20 ?_
      refine Go.st (S' := T20.setTop (mkF m 122 #[.val (.int p1), .val (.ref b9), .val (.ref b10), .val (.ref w_NO_VARIABLES), .val (.ref w_NO_VARIABLES), .val (.int (0 : Int32)), .val (.ref b9), .val (.ref b9)] [])) (fun _ k => XS.ifNo X20.here hx rfl (hb hby at_119) rfl ((if0 _ _).trans (feq (by decide)).1) k) ?_
      refine Go.st (S' := T20.setTop (mkF m 124 #[.val (.int p1), .val (.ref b9), .val (.ref b10), .val (.ref w_NO_VARIABLES), .val (.ref w_NO_VARIABLES), .val (.int (0 : Int32)), .val (.ref b9), .val (.ref b9)] [(.ref b9)])) (fun _ k => XS.aload X20.here hx rfl (hb hby at_122) rfl rfl k) ?_
      refine Go.st (S' := T20.setTop (mkF m 126 #[.val (.int p1), .val (.ref b9), .val (.ref b10), .val (.ref w_NO_VARIABLES), .val (.ref w_NO_VARIABLES), .val (.int (0 : Int32)), .val (.ref b9), .val (.ref b9)] [(.ref b9), (.ref b9)])) (fun _ k => XS.aload X20.here hx rfl (hb hby at_124) rfl rfl k) ?_
      refine Go.st (S' := T20.setTop (mkF m 129 #[.val (.int p1), .val (.ref b9), .val (.ref b10), .val (.ref w_NO_VARIABLES), .val (.ref w_NO_VARIABLES), .val (.int (0 : Int32)), .val (.ref b9), .val (.ref b9)] [])) (fun _ k => Jvm.RoadKit.acmp (g := (mkF m 126 #[.val (.int p1), .val (.ref b9), .val (.ref b10), .val (.ref w_NO_VARIABLES), .val (.ref w_NO_VARIABLES), .val (.int (0 : Int32)), .val (.ref b9), .val (.ref b9)] [(.ref b9), (.ref b9)])) X20 hx rfl rfl rfl (pc0 := 126) (pc' := 129) (same := true) rfl (hb hby at_126) rfl (decide_eq_true rfl) (by decide) (by decide) k) ?_
      refine Go.st (S' := T20.setTop (mkF m 130 #[.val (.int p1), .val (.ref b9), .val (.ref b10), .val (.ref w_NO_VARIABLES), .val (.ref w_NO_VARIABLES), .val (.int (0 : Int32)), .val (.ref b9), .val (.ref b9)] [(.int (1 : Int32))])) (fun _ k => XS.iconst X20.here hx rfl (hb hby at_129) k) ?_
      refine Go.st (S' := T20.setTop (mkF m 134 #[.val (.int p1), .val (.ref b9), .val (.ref b10), .val (.ref w_NO_VARIABLES), .val (.ref w_NO_VARIABLES), .val (.int (0 : Int32)), .val (.ref b9), .val (.ref b9)] [(.int (1 : Int32))])) (fun _ k => XS.goto X20.here hx rfl (pc0 := 130) (pc' := 134) rfl (hb hby at_130) (by decide) (by decide) k) ?_
      exact own_retN X20 hx hlk hret (by simp) (hb hby at_134) eq20 ⟨rfl, N20⟩ (by decide) (by decide)
  · refine Go.st (S' := T12.setTop (mkF m 50 #[.val (.int p1), .val (.ref b9), .val (.ref b10), .val (.ref w_NO_VARIABLES), .val (.ref w_NO_VARIABLES), .unset, .unset, .unset] [])) (fun _ k => XS.ifNo X12.here hx rfl (hb hby at_47) rfl ((if0 _ _).trans (feq hc47).1) k) ?_
    refine Go.st (S' := T12.setTop (mkF m 51 #[.val (.int p1), .val (.ref b9), .val (.ref b10), .val (.ref w_NO_VARIABLES), .val (.ref w_NO_VARIABLES), .unset, .unset, .unset] [(.int (1 : Int32))])) (fun _ k => XS.iconst X12.here hx rfl (hb hby at_50) k) ?_
    refine Go.st (S' := T12.setTop (mkF m 55 #[.val (.int p1), .val (.ref b9), .val (.ref b10), .val (.ref w_NO_VARIABLES), .val (.ref w_NO_VARIABLES), .unset, .unset, .unset] [(.int (1 : Int32))])) (fun _ k => XS.goto X12.here hx rfl (pc0 := 51) (pc' := 55) rfl (hb hby at_51) (by decide) (by decide) k) ?_
    refine Go.st (S' := T12.setTop (mkF m 57 #[.val (.int p1), .val (.ref b9), .val (.ref b10), .val (.ref w_NO_VARIABLES), .val (.ref w_NO_VARIABLES), .val (.int (1 : Int32)), .unset, .unset] [])) (fun _ k => XS.istore X12.here hx rfl (hb hby at_55) rfl (l' := #[.val (.int p1), .val (.ref b9), .val (.ref b10), .val (.ref w_NO_VARIABLES), .val (.ref w_NO_VARIABLES), .val (.int (1 : Int32)), .unset, .unset]) rfl k) ?_
    refine Go.st (S' := T12.setTop (mkF m 58 #[.val (.int p1), .val (.ref b9), .val (.ref b10), .val (.ref w_NO_VARIABLES), .val (.ref w_NO_VARIABLES), .val (.int (1 : Int32)), .unset, .unset] [(.int p1)])) (fun _ k => XS.iloadN X12.here hx rfl (hb hby at_57) rfl k) ?_
    refine Go.st (S' := T12.setTop (mkF m 59 #[.val (.int p1), .val (.ref b9), .val (.ref b10), .val (.ref w_NO_VARIABLES), .val (.ref w_NO_VARIABLES), .val (.int (1 : Int32)), .unset, .unset] [(.int (2 : Int32)), (.int p1)])) (fun _ k => XS.iconst X12.here hx rfl (hb hby at_58) k) ?_
    refine Go.st (S' := T12.setTop (mkF m 60 #[.val (.int p1), .val (.ref b9), .val (.ref b10), .val (.ref w_NO_VARIABLES), .val (.ref w_NO_VARIABLES), .val (.int (1 : Int32)), .unset, .unset] [(.int (p1 &&& (2 : Int32)))])) (fun _ k => XS.iand X12.here hx rfl (hb hby at_59) rfl k) ?_
    by_cases hc60_1 : (p1 &&& (2 : Int32)) = (0 : Int32)
    · refine Go.st (S' := T12.setTop (mkF m 67 #[.val (.int p1), .val (.ref b9), .val (.ref b10), .val (.ref w_NO_VARIABLES), .val (.ref w_NO_VARIABLES), .val (.int (1 : Int32)), .unset, .unset] [])) (fun _ k => XS.ifYes X12.here hx rfl (pc0 := 60) (pc' := 67) rfl (hb hby at_60) rfl ((if0 _ _).trans (teq hc60_1).1) (by decide) (by decide) k) ?_
      refine Go.st (S' := T12.setTop (mkF m 68 #[.val (.int p1), .val (.ref b9), .val (.ref b10), .val (.ref w_NO_VARIABLES), .val (.ref w_NO_VARIABLES), .val (.int (1 : Int32)), .unset, .unset] [(.ref w_NO_VARIABLES)])) (fun _ k => XS.aloadN X12.here hx rfl (hb hby at_67) rfl rfl k) ?_
      refine Go.st (S' := T12.setTop (mkF m 70 #[.val (.int p1), .val (.ref b9), .val (.ref b10), .val (.ref w_NO_VARIABLES), .val (.ref w_NO_VARIABLES), .val (.int (1 : Int32)), .val (.ref w_NO_VARIABLES), .unset] [])) (fun _ k => XS.astore X12.here hx rfl (hb hby at_68) rfl rfl (l' := #[.val (.int p1), .val (.ref b9), .val (.ref b10), .val (.ref w_NO_VARIABLES), .val (.ref w_NO_VARIABLES), .val (.int (1 : Int32)), .val (.ref w_NO_VARIABLES), .unset]) rfl k) ?_
      refine Go.st (S' := T12.setTop (mkF m 72 #[.val (.int p1), .val (.ref b9), .val (.ref b10), .val (.ref w_NO_VARIABLES), .val (.ref w_NO_VARIABLES), .val (.int (1 : Int32)), .val (.ref w_NO_VARIABLES), .unset] [(.ref w_NO_VARIABLES)])) (fun _ k => XS.aload X12.here hx rfl (hb hby at_70) rfl rfl k) ?_
      refine Go.st (S' := T12.setTop (mkF m 74 #[.val (.int p1), .val (.ref b9), .val (.ref b10), .val (.ref w_NO_VARIABLES), .val (.ref w_NO_VARIABLES), .val (.int (1 : Int32)), .val (.ref w_NO_VARIABLES), .unset] [(.int (1 : Int32)), (.ref w_NO_VARIABLES)])) (fun _ k => XS.iload X12.here hx rfl (hb hby at_72) rfl k) ?_
      obtain ⟨_, T21, L21, X21, ⟨rfl, Nq21, eq21⟩, st21⟩ := own_callS X12 hx hZ hown (ww hw 0 rfl) (ww hw 1 rfl) (ww hw 2 rfl) (ww hw 3 rfl) (by decide) eq12 (rmGa l Z a0 hw [] w_NO_VARIABLES hS w_NO_VARIABLES (1 : Int32) T10.heap O10) 0 (by decide) (by decide) (by decide) (by decide) (g := (mkF m 74 #[.val (.int p1), .val (.ref b9), .val (.ref b10), .val (.ref w_NO_VARIABLES), .val (.ref w_NO_VARIABLES), .val (.int (1 : Int32)), .val (.ref w_NO_VARIABLES), .unset] [(.int (1 : Int32)), (.ref w_NO_VARIABLES)])) rfl (by rw [hml]; rfl) [(.ref w_NO_VARIABLES), (.int (1 : Int32))] [] rfl (lenOf pd_16346 rfl) rfl (by show 2 * 0 + _ ≤ _; exact Nat.le_of_eq rfl) (hb hby at_74)
      have N21 := Fr.app N12 Nq21
      refine Go.st (S' := T21.setTop (mkF m 77 #[.val (.int p1), .val (.ref b9), .val (.ref b10), .val (.ref w_NO_VARIABLES), .val (.ref w_NO_VARIABLES), .val (.int (1 : Int32)), .val (.ref w_NO_VARIABLES), .unset] [(.ref w_NO_VARIABLES)])) st21 ?_
      refine Go.st (S' := T21.setTop (mkF m 79 #[.val (.int p1), .val (.ref b9), .val (.ref b10), .val (.ref w_NO_VARIABLES), .val (.ref w_NO_VARIABLES), .val (.int (1 : Int32)), .val (.ref w_NO_VARIABLES), .val (.ref w_NO_VARIABLES)] [])) (fun _ k => XS.astore X21.here hx rfl (hb hby at_77) rfl rfl (l' := #[.val (.int p1), .val (.ref b9), .val (.ref b10), .val (.ref w_NO_VARIABLES), .val (.ref w_NO_VARIABLES), .val (.int (1 : Int32)), .val (.ref w_NO_VARIABLES), .val (.ref w_NO_VARIABLES)]) rfl k) ?_
      refine Go.st (S' := T21.setTop (mkF m 80 #[.val (.int p1), .val (.ref b9), .val (.ref b10), .val (.ref w_NO_VARIABLES), .val (.ref w_NO_VARIABLES), .val (.int (1 : Int32)), .val (.ref w_NO_VARIABLES), .val (.ref w_NO_VARIABLES)] [(.ref b9)])) (fun _ k => XS.aloadN X21.here hx rfl (hb hby at_79) rfl rfl k) ?_
      refine Go.st (S' := T21.setTop (mkF m 81 #[.val (.int p1), .val (.ref b9), .val (.ref b10), .val (.ref w_NO_VARIABLES), .val (.ref w_NO_VARIABLES), .val (.int (1 : Int32)), .val (.ref w_NO_VARIABLES), .val (.ref w_NO_VARIABLES)] [(.ref b10), (.ref b9)])) (fun _ k => XS.aloadN X21.here hx rfl (hb hby at_80) rfl rfl k) ?_
      refine Go.st (S' := T21.setTop (mkF m 84 #[.val (.int p1), .val (.ref b9), .val (.ref b10), .val (.ref w_NO_VARIABLES), .val (.ref w_NO_VARIABLES), .val (.int (1 : Int32)), .val (.ref w_NO_VARIABLES), .val (.ref w_NO_VARIABLES)] [])) (fun _ k => Jvm.RoadKit.acmp (g := (mkF m 81 #[.val (.int p1), .val (.ref b9), .val (.ref b10), .val (.ref w_NO_VARIABLES), .val (.ref w_NO_VARIABLES), .val (.int (1 : Int32)), .val (.ref w_NO_VARIABLES), .val (.ref w_NO_VARIABLES)] [(.ref b10), (.ref b9)])) X21 hx rfl rfl rfl (pc0 := 81) (pc' := 84) (same := false) rfl (hb hby at_81) rfl (decide_eq_false fun q => ne_b9_b10 (Value.ref.inj q)) (by decide) (by decide) k) ?_
      refine Go.st (S' := T21.setTop (mkF m 85 #[.val (.int p1), .val (.ref b9), .val (.ref b10), .val (.ref w_NO_VARIABLES), .val (.ref w_NO_VARIABLES), .val (.int (1 : Int32)), .val (.ref w_NO_VARIABLES), .val (.ref w_NO_VARIABLES)] [(.ref w_NO_VARIABLES)])) (fun _ k => XS.aloadN X21.here hx rfl (hb hby at_84) rfl rfl k) ?_
      refine Go.st (S' := T21.setTop (mkF m 87 #[.val (.int p1), .val (.ref b9), .val (.ref b10), .val (.ref w_NO_VARIABLES), .val (.ref w_NO_VARIABLES), .val (.int (1 : Int32)), .val (.ref w_NO_VARIABLES), .val (.ref w_NO_VARIABLES)] [(.ref w_NO_VARIABLES), (.ref w_NO_VARIABLES)])) (fun _ k => XS.aload X21.here hx rfl (hb hby at_85) rfl rfl k) ?_
      refine Go.st (S' := T21.setTop (mkF m 90 #[.val (.int p1), .val (.ref b9), .val (.ref b10), .val (.ref w_NO_VARIABLES), .val (.ref w_NO_VARIABLES), .val (.int (1 : Int32)), .val (.ref w_NO_VARIABLES), .val (.ref w_NO_VARIABLES)] [])) (fun _ k => Jvm.RoadKit.acmp (g := (mkF m 87 #[.val (.int p1), .val (.ref b9), .val (.ref b10), .val (.ref w_NO_VARIABLES), .val (.ref w_NO_VARIABLES), .val (.int (1 : Int32)), .val (.ref w_NO_VARIABLES), .val (.ref w_NO_VARIABLES)] [(.ref w_NO_VARIABLES), (.ref w_NO_VARIABLES)])) X21 hx rfl rfl rfl (pc0 := 87) (pc' := 90) (same := true) rfl (hb hby at_87) rfl (decide_eq_true rfl) (by decide) (by decide) k) ?_
      refine Go.st (S' := T21.setTop (mkF m 91 #[.val (.int p1), .val (.ref b9), .val (.ref b10), .val (.ref w_NO_VARIABLES), .val (.ref w_NO_VARIABLES), .val (.int (1 : Int32)), .val (.ref w_NO_VARIABLES), .val (.ref w_NO_VARIABLES)] [(.ref b9)])) (fun _ k => XS.aloadN X21.here hx rfl (hb hby at_90) rfl rfl k) ?_
      refine Go.st (S' := T21.setTop (mkF m 92 #[.val (.int p1), .val (.ref b9), .val (.ref b10), .val (.ref w_NO_VARIABLES), .val (.ref w_NO_VARIABLES), .val (.int (1 : Int32)), .val (.ref w_NO_VARIABLES), .val (.ref w_NO_VARIABLES)] [(.ref w_NO_VARIABLES), (.ref b9)])) (fun _ k => XS.aloadN X21.here hx rfl (hb hby at_91) rfl rfl k) ?_
      refine Go.st (S' := T21.setTop (mkF m 95 #[.val (.int p1), .val (.ref b9), .val (.ref b10), .val (.ref w_NO_VARIABLES), .val (.ref w_NO_VARIABLES), .val (.int (1 : Int32)), .val (.ref w_NO_VARIABLES), .val (.ref w_NO_VARIABLES)] [])) (fun _ k => Jvm.RoadKit.acmp (g := (mkF m 92 #[.val (.int p1), .val (.ref b9), .val (.ref b10), .val (.ref w_NO_VARIABLES), .val (.ref w_NO_VARIABLES), .val (.int (1 : Int32)), .val (.ref w_NO_VARIABLES), .val (.ref w_NO_VARIABLES)] [(.ref w_NO_VARIABLES), (.ref b9)])) X21 hx rfl rfl rfl (pc0 := 92) (pc' := 95) (same := false) rfl (hb hby at_92) rfl (decide_eq_false fun q => (Ne.symm (own_lt_ne' E_NO_VARIABLES.lt (Nat.le_trans O0.1 sb9))) (Value.ref.inj q)) (by decide) (by decide) k) ?_
      refine Go.st (S' := T21.setTop (mkF m 96 #[.val (.int p1), .val (.ref b9), .val (.ref b10), .val (.ref w_NO_VARIABLES), .val (.ref w_NO_VARIABLES), .val (.int (1 : Int32)), .val (.ref w_NO_VARIABLES), .val (.ref w_NO_VARIABLES)] [(.ref b9)])) (fun _ k => XS.aloadN X21.here hx rfl (hb hby at_95) rfl rfl k) ?_
      obtain ⟨_, T22, L22, X22, ⟨rfl, Nq22, eq22⟩, st22⟩ := own_callF X21 hx hZ hown (ww hw 24 rfl) (ww hw 25 rfl) (ww hw 26 rfl) (ww hw 27 rfl) (ww hw 28 rfl) (ww hw 29 rfl) (ww hw 30 rfl) (ww hw 31 rfl) (ww hw 6 rfl) (ww hw 32 rfl) (by decide) eq21 (ex9.keep kp10) (rmE l Z a0 hw [] w_NO_VARIABLES hS b9 T10.heap O10 (fs9.keep kp10 nin0)) 0 (by decide) (by decide) (by decide) (by decide) (g := (mkF m 96 #[.val (.int p1), .val (.ref b9), .val (.ref b10), .val (.ref w_NO_VARIABLES), .val (.ref w_NO_VARIABLES), .val (.int (1 : Int32)), .val (.ref w_NO_VARIABLES), .val (.ref w_NO_VARIABLES)] [(.ref b9)])) rfl (by rw [hml]; rfl) [] [] rfl (lenOf pd_428490 rfl) rfl (by show 2 * 0 + _ ≤ _; exact Nat.le_of_eq rfl) (hb hby at_96)
      have N22 := Fr.app N21 Nq22
      refine Go.st (S' := T22.setTop (mkF m 101 #[.val (.int p1), .val (.ref b9), .val (.ref b10), .val (.ref w_NO_VARIABLES), .val (.ref w_NO_VARIABLES), .val (.int (1 : Int32)), .val (.ref w_NO_VARIABLES), .val (.ref w_NO_VARIABLES)] [(.int (1 : Int32))])) st22 ?_
      refine Go.st (S' := T22.setTop (mkF m 104 #[.val (.int p1), .val (.ref b9), .val (.ref b10), .val (.ref w_NO_VARIABLES), .val (.ref w_NO_VARIABLES), .val (.int (1 : Int32)), .val (.ref w_NO_VARIABLES), .val (.ref w_NO_VARIABLES)] [])) (fun _ k => XS.ifNo X22.here hx rfl (hb hby at_101) rfl ((if0 _ _).trans (feq (by decide)).1) k) ?_
      refine Go.st (S' := T22.setTop (mkF m 105 #[.val (.int p1), .val (.ref b9), .val (.ref b10), .val (.ref w_NO_VARIABLES), .val (.ref w_NO_VARIABLES), .val (.int (1 : Int32)), .val (.ref w_NO_VARIABLES), .val (.ref w_NO_VARIABLES)] [(.ref b10)])) (fun _ k => XS.aloadN X22.here hx rfl (hb hby at_104) rfl rfl k) ?_
      obtain ⟨_, T23, L23, X23, ⟨rfl, Nq23, eq23⟩, st23⟩ := own_callF X22 hx hZ hown (ww hw 24 rfl) (ww hw 25 rfl) (ww hw 26 rfl) (ww hw 27 rfl) (ww hw 28 rfl) (ww hw 29 rfl) (ww hw 30 rfl) (ww hw 31 rfl) (ww hw 6 rfl) (ww hw 32 rfl) (by decide) eq22 ex10 (rmE l Z a0 hw [] w_NO_VARIABLES hS b10 T10.heap O10 fs10) 0 (by decide) (by decide) (by decide) (by decide) (g := (mkF m 105 #[.val (.int p1), .val (.ref b9), .val (.ref b10), .val (.ref w_NO_VARIABLES), .val (.ref w_NO_VARIABLES), .val (.int (1 : Int32)), .val (.ref w_NO_VARIABLES), .val (.ref w_NO_VARIABLES)] [(.ref b10)])) rfl (by rw [hml]; rfl) [] [] rfl (lenOf pd_428490 rfl) rfl (by show 2 * 0 + _ ≤ _; exact Nat.le_of_eq rfl) (hb hby at_105)
      have N23 := Fr.app N22 Nq23
      refine Go.st (S' := T23.setTop (mkF m 110 #[.val (.int p1), .val (.ref b9), .val (.ref b10), .val (.ref w_NO_VARIABLES), .val (.ref w_NO_VARIABLES), .val (.int (1 : Int32)), .val (.ref w_NO_VARIABLES), .val (.ref w_NO_VARIABLES)] [(.int (1 : Int32))])) st23 ?_
      refine Go.st (S' := T23.setTop (mkF m 113 #[.val (.int p1), .val (.ref b9), .val (.ref b10), .val (.ref w_NO_VARIABLES), .val (.ref w_NO_VARIABLES), .val (.int (1 : Int32)), .val (.ref w_NO_VARIABLES), .val (.ref w_NO_VARIABLES)] [])) (fun _ k => XS.ifNo X23.here hx rfl (hb hby at_110) rfl ((if0 _ _).trans (feq (by decide)).1) k) ?_
      refine Go.st (S' := T23.setTop (mkF m 114 #[.val (.int p1), .val (.ref b9), .val (.ref b10), .val (.ref w_NO_VARIABLES), .val (.ref w_NO_VARIABLES), .val (.int (1 : Int32)), .val (.ref w_NO_VARIABLES), .val (.ref w_NO_VARIABLES)] [(.ref w_NO_VARIABLES)])) (fun _ k => XS.aloadN X23.here hx rfl (hb hby at_113) rfl rfl k) ?_
      obtain ⟨_, T24, L24, X24, ⟨rfl, Nq24, eq24⟩, st24⟩ := own_callF X23 hx hZ hown (ww hw 24 rfl) (ww hw 25 rfl) (ww hw 26 rfl) (ww hw 35 rfl) (ww hw 36 rfl) (ww hw 37 rfl) (ww hw 38 rfl) (ww hw 39 rfl) (ww hw 40 rfl) (ww hw 41 rfl) (by decide) eq23 (E_NO_VARIABLES.ext O10) (rmM l Z a0 hw [] w_NO_VARIABLES hS w_NO_VARIABLES T10.heap O10 (F_NO_VARIABLES_size.ext O10)) 0 (by decide) (by decide) (by decide) (by decide) (g := (mkF m 114 #[.val (.int p1), .val (.ref b9), .val (.ref b10), .val (.ref w_NO_VARIABLES), .val (.ref w_NO_VARIABLES), .val (.int (1 : Int32)), .val (.ref w_NO_VARIABLES), .val (.ref w_NO_VARIABLES)] [(.ref w_NO_VARIABLES)])) rfl (by rw [hml]; rfl) [] [] rfl (lenOf pd_428490 rfl) rfl (by show 2 * 0 + _ ≤ _; exact Nat.le_of_eq rfl) (hb hby at_114)
      have N24 := Fr.app N23 Nq24
      refine Go.st (S' := T24.setTop (mkF m 119 #[.val (.int p1), .val (.ref b9), .val (.ref b10), .val (.ref w_NO_VARIABLES), .val (.ref w_NO_VARIABLES), .val (.int (1 : Int32)), .val (.ref w_NO_VARIABLES), .val (.ref w_NO_VARIABLES)] [(.int (1 : Int32))])) st24 ?_
      refine Go.st (S' := T24.setTop (mkF m 122 #[.val (.int p1), .val (.ref b9), .val (.ref b10), .val (.ref w_NO_VARIABLES), .val (.ref w_NO_VARIABLES), .val (.int (1 : Int32)), .val (.ref w_NO_VARIABLES), .val (.ref w_NO_VARIABLES)] [])) (fun _ k => XS.ifNo X24.here hx rfl (hb hby at_119) rfl ((if0 _ _).trans (feq (by decide)).1) k) ?_
      refine Go.st (S' := T24.setTop (mkF m 124 #[.val (.int p1), .val (.ref b9), .val (.ref b10), .val (.ref w_NO_VARIABLES), .val (.ref w_NO_VARIABLES), .val (.int (1 : Int32)), .val (.ref w_NO_VARIABLES), .val (.ref w_NO_VARIABLES)] [(.ref w_NO_VARIABLES)])) (fun _ k => XS.aload X24.here hx rfl (hb hby at_122) rfl rfl k) ?_
      refine Go.st (S' := T24.setTop (mkF m 126 #[.val (.int p1), .val (.ref b9), .val (.ref b10), .val (.ref w_NO_VARIABLES), .val (.ref w_NO_VARIABLES), .val (.int (1 : Int32)), .val (.ref w_NO_VARIABLES), .val (.ref w_NO_VARIABLES)] [(.ref w_NO_VARIABLES), (.ref w_NO_VARIABLES)])) (fun _ k => XS.aload X24.here hx rfl (hb hby at_124) rfl rfl k) ?_
      refine Go.st (S' := T24.setTop (mkF m 129 #[.val (.int p1), .val (.ref b9), .val (.ref b10), .val (.ref w_NO_VARIABLES), .val (.ref w_NO_VARIABLES), .val (.int (1 : Int32)), .val (.ref w_NO_VARIABLES), .val (.ref w_NO_VARIABLES)] [])) (fun _ k => Jvm.RoadKit.acmp (g := (mkF m 126 #[.val (.int p1), .val (.ref b9), .val (.ref b10), .val (.ref w_NO_VARIABLES), .val (.ref w_NO_VARIABLES), .val (.int (1 : Int32)), .val (.ref w_NO_VARIABLES), .val (.ref w_NO_VARIABLES)] [(.ref w_NO_VARIABLES), (.ref w_NO_VARIABLES)])) X24 hx rfl rfl rfl (pc0 := 126) (pc' := 129) (same := true) rfl (hb hby at_126) rfl (decide_eq_true rfl) (by decide) (by decide) k) ?_
      refine Go.st (S' := T24.setTop (mkF m 130 #[.val (.int p1), .val (.ref b9), .val (.ref b10), .val (.ref w_NO_VARIABLES), .val (.ref w_NO_VARIABLES), .val (.int (1 : Int32)), .val (.ref w_NO_VARIABLES), .val (.ref w_NO_VARIABLES)] [(.int (1 : Int32))])) (fun _ k => XS.iconst X24.here hx rfl (hb hby at_129) k) ?_
      refine Go.st (S' := T24.setTop (mkF m 134 #[.val (.int p1), .val (.ref b9), .val (.ref b10), .val (.ref w_NO_VARIABLES), .val (.ref w_NO_VARIABLES), .val (.int (1 : Int32)), .val (.ref w_NO_VARIABLES), .val (.ref w_NO_VARIABLES)] [(.int (1 : Int32))])) (fun _ k => XS.goto X24.here hx rfl (pc0 := 130) (pc' := 134) rfl (hb hby at_130) (by decide) (by decide) k) ?_
      exact own_retN X24 hx hlk hret (by simp) (hb hby at_134) eq24 ⟨rfl, N24⟩ (by decide) (by decide)
    · refine Go.st (S' := T12.setTop (mkF m 63 #[.val (.int p1), .val (.ref b9), .val (.ref b10), .val (.ref w_NO_VARIABLES), .val (.ref w_NO_VARIABLES), .val (.int (1 : Int32)), .unset, .unset] [])) (fun _ k => XS.ifNo X12.here hx rfl (hb hby at_60) rfl ((if0 _ _).trans (feq hc60_1).1) k) ?_
      refine Go.st (S' := T12.setTop (mkF m 64 #[.val (.int p1), .val (.ref b9), .val (.ref b10), .val (.ref w_NO_VARIABLES), .val (.ref w_NO_VARIABLES), .val (.int (1 : Int32)), .unset, .unset] [(.ref b9)])) (fun _ k => XS.aloadN X12.here hx rfl (hb hby at_63) rfl rfl k) ?_
      refine Go.st (S' := T12.setTop (mkF m 68 #[.val (.int p1), .val (.ref b9), .val (.ref b10), .val (.ref w_NO_VARIABLES), .val (.ref w_NO_VARIABLES), .val (.int (1 : Int32)), .unset, .unset] [(.ref b9)])) (fun _ k => XS.goto X12.here hx rfl (pc0 := 64) (pc' := 68) rfl (hb hby at_64) (by decide) (by decide) k) ?_
      refine Go.st (S' := T12.setTop (mkF m 70 #[.val (.int p1), .val (.ref b9), .val (.ref b10), .val (.ref w_NO_VARIABLES), .val (.ref w_NO_VARIABLES), .val (.int (1 : Int32)), .val (.ref b9), .unset] [])) (fun _ k => XS.astore X12.here hx rfl (hb hby at_68) rfl rfl (l' := #[.val (.int p1), .val (.ref b9), .val (.ref b10), .val (.ref w_NO_VARIABLES), .val (.ref w_NO_VARIABLES), .val (.int (1 : Int32)), .val (.ref b9), .unset]) rfl k) ?_
      refine Go.st (S' := T12.setTop (mkF m 72 #[.val (.int p1), .val (.ref b9), .val (.ref b10), .val (.ref w_NO_VARIABLES), .val (.ref w_NO_VARIABLES), .val (.int (1 : Int32)), .val (.ref b9), .unset] [(.ref b9)])) (fun _ k => XS.aload X12.here hx rfl (hb hby at_70) rfl rfl k) ?_
      refine Go.st (S' := T12.setTop (mkF m 74 #[.val (.int p1), .val (.ref b9), .val (.ref b10), .val (.ref w_NO_VARIABLES), .val (.ref w_NO_VARIABLES), .val (.int (1 : Int32)), .val (.ref b9), .unset] [(.int (1 : Int32)), (.ref b9)])) (fun _ k => XS.iload X12.here hx rfl (hb hby at_72) rfl k) ?_
      obtain ⟨_, T25, L25, X25, ⟨rfl, Nq25, eq25⟩, st25⟩ := own_callS X12 hx hZ hown (ww hw 0 rfl) (ww hw 1 rfl) (ww hw 2 rfl) (ww hw 3 rfl) (by decide) eq12 (rmGa l Z a0 hw [] w_NO_VARIABLES hS b9 (1 : Int32) T10.heap O10) 0 (by decide) (by decide) (by decide) (by decide) (g := (mkF m 74 #[.val (.int p1), .val (.ref b9), .val (.ref b10), .val (.ref w_NO_VARIABLES), .val (.ref w_NO_VARIABLES), .val (.int (1 : Int32)), .val (.ref b9), .unset] [(.int (1 : Int32)), (.ref b9)])) rfl (by rw [hml]; rfl) [(.ref b9), (.int (1 : Int32))] [] rfl (lenOf pd_16346 rfl) rfl (by show 2 * 0 + _ ≤ _; exact Nat.le_of_eq rfl) (hb hby at_74)
      have N25 := Fr.app N12 Nq25
      refine Go.st (S' := T25.setTop (mkF m 77 #[.val (.int p1), .val (.ref b9), .val (.ref b10), .val (.ref w_NO_VARIABLES), .val (.ref w_NO_VARIABLES), .val (.int (1 : Int32)), .val (.ref b9), .unset] [(.ref b9)])) st25 ?_
      refine Go.st (S' := T25.setTop (mkF m 79 #[.val (.int p1), .val (.ref b9), .val (.ref b10), .val (.ref w_NO_VARIABLES), .val (.ref w_NO_VARIABLES), .val (.int (1 : Int32)), .val (.ref b9), .val (.ref b9)] [])) (fun _ k => XS.astore X25.here hx rfl (hb hby at_77) rfl rfl (l' := #[.val (.int p1), .val (.ref b9), .val (.ref b10), .val (.ref w_NO_VARIABLES), .val (.ref w_NO_VARIABLES), .val (.int (1 : Int32)), .val (.ref b9), .val (.ref b9)]) rfl k) ?_
      refine Go.st (S' := T25.setTop (mkF m 80 #[.val (.int p1), .val (.ref b9), .val (.ref b10), .val (.ref w_NO_VARIABLES), .val (.ref w_NO_VARIABLES), .val (.int (1 : Int32)), .val (.ref b9), .val (.ref b9)] [(.ref b9)])) (fun _ k => XS.aloadN X25.here hx rfl (hb hby at_79) rfl rfl k) ?_
      refine Go.st (S' := T25.setTop (mkF m 81 #[.val (.int p1), .val (.ref b9), .val (.ref b10), .val (.ref w_NO_VARIABLES), .val (.ref w_NO_VARIABLES), .val (.int (1 : Int32)), .val (.ref b9), .val (.ref b9)] [(.ref b10), (.ref b9)])) (fun _ k => XS.aloadN X25.here hx rfl (hb hby at_80) rfl rfl k) ?_
      refine Go.st (S' := T25.setTop (mkF m 84 #[.val (.int p1), .val (.ref b9), .val (.ref b10), .val (.ref w_NO_VARIABLES), .val (.ref w_NO_VARIABLES), .val (.int (1 : Int32)), .val (.ref b9), .val (.ref b9)] [])) (fun _ k => Jvm.RoadKit.acmp (g := (mkF m 81 #[.val (.int p1), .val (.ref b9), .val (.ref b10), .val (.ref w_NO_VARIABLES), .val (.ref w_NO_VARIABLES), .val (.int (1 : Int32)), .val (.ref b9), .val (.ref b9)] [(.ref b10), (.ref b9)])) X25 hx rfl rfl rfl (pc0 := 81) (pc' := 84) (same := false) rfl (hb hby at_81) rfl (decide_eq_false fun q => ne_b9_b10 (Value.ref.inj q)) (by decide) (by decide) k) ?_
      refine Go.st (S' := T25.setTop (mkF m 85 #[.val (.int p1), .val (.ref b9), .val (.ref b10), .val (.ref w_NO_VARIABLES), .val (.ref w_NO_VARIABLES), .val (.int (1 : Int32)), .val (.ref b9), .val (.ref b9)] [(.ref w_NO_VARIABLES)])) (fun _ k => XS.aloadN X25.here hx rfl (hb hby at_84) rfl rfl k) ?_
      refine Go.st (S' := T25.setTop (mkF m 87 #[.val (.int p1), .val (.ref b9), .val (.ref b10), .val (.ref w_NO_VARIABLES), .val (.ref w_NO_VARIABLES), .val (.int (1 : Int32)), .val (.ref b9), .val (.ref b9)] [(.ref w_NO_VARIABLES), (.ref w_NO_VARIABLES)])) (fun _ k => XS.aload X25.here hx rfl (hb hby at_85) rfl rfl k) ?_
      refine Go.st (S' := T25.setTop (mkF m 90 #[.val (.int p1), .val (.ref b9), .val (.ref b10), .val (.ref w_NO_VARIABLES), .val (.ref w_NO_VARIABLES), .val (.int (1 : Int32)), .val (.ref b9), .val (.ref b9)] [])) (fun _ k => Jvm.RoadKit.acmp (g := (mkF m 87 #[.val (.int p1), .val (.ref b9), .val (.ref b10), .val (.ref w_NO_VARIABLES), .val (.ref w_NO_VARIABLES), .val (.int (1 : Int32)), .val (.ref b9), .val (.ref b9)] [(.ref w_NO_VARIABLES), (.ref w_NO_VARIABLES)])) X25 hx rfl rfl rfl (pc0 := 87) (pc' := 90) (same := true) rfl (hb hby at_87) rfl (decide_eq_true rfl) (by decide) (by decide) k) ?_
      refine Go.st (S' := T25.setTop (mkF m 91 #[.val (.int p1), .val (.ref b9), .val (.ref b10), .val (.ref w_NO_VARIABLES), .val (.ref w_NO_VARIABLES), .val (.int (1 : Int32)), .val (.ref b9), .val (.ref b9)] [(.ref b9)])) (fun _ k => XS.aloadN X25.here hx rfl (hb hby at_90) rfl rfl k) ?_
      refine Go.st (S' := T25.setTop (mkF m 92 #[.val (.int p1), .val (.ref b9), .val (.ref b10), .val (.ref w_NO_VARIABLES), .val (.ref w_NO_VARIABLES), .val (.int (1 : Int32)), .val (.ref b9), .val (.ref b9)] [(.ref w_NO_VARIABLES), (.ref b9)])) (fun _ k => XS.aloadN X25.here hx rfl (hb hby at_91) rfl rfl k) ?_
      refine Go.st (S' := T25.setTop (mkF m 95 #[.val (.int p1), .val (.ref b9), .val (.ref b10), .val (.ref w_NO_VARIABLES), .val (.ref w_NO_VARIABLES), .val (.int (1 : Int32)), .val (.ref b9), .val (.ref b9)] [])) (fun _ k => Jvm.RoadKit.acmp (g := (mkF m 92 #[.val (.int p1), .val (.ref b9), .val (.ref b10), .val (.ref w_NO_VARIABLES), .val (.ref w_NO_VARIABLES), .val (.int (1 : Int32)), .val (.ref b9), .val (.ref b9)] [(.ref w_NO_VARIABLES), (.ref b9)])) X25 hx rfl rfl rfl (pc0 := 92) (pc' := 95) (same := false) rfl (hb hby at_92) rfl (decide_eq_false fun q => (Ne.symm (own_lt_ne' E_NO_VARIABLES.lt (Nat.le_trans O0.1 sb9))) (Value.ref.inj q)) (by decide) (by decide) k) ?_
      refine Go.st (S' := T25.setTop (mkF m 96 #[.val (.int p1), .val (.ref b9), .val (.ref b10), .val (.ref w_NO_VARIABLES), .val (.ref w_NO_VARIABLES), .val (.int (1 : Int32)), .val (.ref b9), .val (.ref b9)] [(.ref b9)])) (fun _ k => XS.aloadN X25.here hx rfl (hb hby at_95) rfl rfl k) ?_
      obtain ⟨_, T26, L26, X26, ⟨rfl, Nq26, eq26⟩, st26⟩ := own_callF X25 hx hZ hown (ww hw 24 rfl) (ww hw 25 rfl) (ww hw 26 rfl) (ww hw 27 rfl) (ww hw 28 rfl) (ww hw 29 rfl) (ww hw 30 rfl) (ww hw 31 rfl) (ww hw 6 rfl) (ww hw 32 rfl) (by decide) eq25 (ex9.keep kp10) (rmE l Z a0 hw [] w_NO_VARIABLES hS b9 T10.heap O10 (fs9.keep kp10 nin0)) 0 (by decide) (by decide) (by decide) (by decide) (g := (mkF m 96 #[.val (.int p1), .val (.ref b9), .val (.ref b10), .val (.ref w_NO_VARIABLES), .val (.ref w_NO_VARIABLES), .val (.int (1 : Int32)), .val (.ref b9), .val (.ref b9)] [(.ref b9)])) rfl (by rw [hml]; rfl) [] [] rfl (lenOf pd_428490 rfl) rfl (by show 2 * 0 + _ ≤ _; exact Nat.le_of_eq rfl) (hb hby at_96)
      have N26 := Fr.app N25 Nq26
      refine Go.st (S' := T26.setTop (mkF m 101 #[.val (.int p1), .val (.ref b9), .val (.ref b10), .val (.ref w_NO_VARIABLES), .val (.ref w_NO_VARIABLES), .val (.int (1 : Int32)), .val (.ref b9), .val (.ref b9)] [(.int (1 : Int32))])) st26 ?_
      refine Go.st (S' := T26.setTop (mkF m 104 #[.val (.int p1), .val (.ref b9), .val (.ref b10), .val (.ref w_NO_VARIABLES), .val (.ref w_NO_VARIABLES), .val (.int (1 : Int32)), .val (.ref b9), .val (.ref b9)] [])) (fun _ k => XS.ifNo X26.here hx rfl (hb hby at_101) rfl ((if0 _ _).trans (feq (by decide)).1) k) ?_
      refine Go.st (S' := T26.setTop (mkF m 105 #[.val (.int p1), .val (.ref b9), .val (.ref b10), .val (.ref w_NO_VARIABLES), .val (.ref w_NO_VARIABLES), .val (.int (1 : Int32)), .val (.ref b9), .val (.ref b9)] [(.ref b10)])) (fun _ k => XS.aloadN X26.here hx rfl (hb hby at_104) rfl rfl k) ?_
      obtain ⟨_, T27, L27, X27, ⟨rfl, Nq27, eq27⟩, st27⟩ := own_callF X26 hx hZ hown (ww hw 24 rfl) (ww hw 25 rfl) (ww hw 26 rfl) (ww hw 27 rfl) (ww hw 28 rfl) (ww hw 29 rfl) (ww hw 30 rfl) (ww hw 31 rfl) (ww hw 6 rfl) (ww hw 32 rfl) (by decide) eq26 ex10 (rmE l Z a0 hw [] w_NO_VARIABLES hS b10 T10.heap O10 fs10) 0 (by decide) (by decide) (by decide) (by decide) (g := (mkF m 105 #[.val (.int p1), .val (.ref b9), .val (.ref b10), .val (.ref w_NO_VARIABLES), .val (.ref w_NO_VARIABLES), .val (.int (1 : Int32)), .val (.ref b9), .val (.ref b9)] [(.ref b10)])) rfl (by rw [hml]; rfl) [] [] rfl (lenOf pd_428490 rfl) rfl (by show 2 * 0 + _ ≤ _; exact Nat.le_of_eq rfl) (hb hby at_105)
      have N27 := Fr.app N26 Nq27
      refine Go.st (S' := T27.setTop (mkF m 110 #[.val (.int p1), .val (.ref b9), .val (.ref b10), .val (.ref w_NO_VARIABLES), .val (.ref w_NO_VARIABLES), .val (.int (1 : Int32)), .val (.ref b9), .val (.ref b9)] [(.int (1 : Int32))])) st27 ?_
      refine Go.st (S' := T27.setTop (mkF m 113 #[.val (.int p1), .val (.ref b9), .val (.ref b10), .val (.ref w_NO_VARIABLES), .val (.ref w_NO_VARIABLES), .val (.int (1 : Int32)), .val (.ref b9), .val (.ref b9)] [])) (fun _ k => XS.ifNo X27.here hx rfl (hb hby at_110) rfl ((if0 _ _).trans (feq (by decide)).1) k) ?_
      refine Go.st (S' := T27.setTop (mkF m 114 #[.val (.int p1), .val (.ref b9), .val (.ref b10), .val (.ref w_NO_VARIABLES), .val (.ref w_NO_VARIABLES), .val (.int (1 : Int32)), .val (.ref b9), .val (.ref b9)] [(.ref w_NO_VARIABLES)])) (fun _ k => XS.aloadN X27.here hx rfl (hb hby at_113) rfl rfl k) ?_
      obtain ⟨_, T28, L28, X28, ⟨rfl, Nq28, eq28⟩, st28⟩ := own_callF X27 hx hZ hown (ww hw 24 rfl) (ww hw 25 rfl) (ww hw 26 rfl) (ww hw 35 rfl) (ww hw 36 rfl) (ww hw 37 rfl) (ww hw 38 rfl) (ww hw 39 rfl) (ww hw 40 rfl) (ww hw 41 rfl) (by decide) eq27 (E_NO_VARIABLES.ext O10) (rmM l Z a0 hw [] w_NO_VARIABLES hS w_NO_VARIABLES T10.heap O10 (F_NO_VARIABLES_size.ext O10)) 0 (by decide) (by decide) (by decide) (by decide) (g := (mkF m 114 #[.val (.int p1), .val (.ref b9), .val (.ref b10), .val (.ref w_NO_VARIABLES), .val (.ref w_NO_VARIABLES), .val (.int (1 : Int32)), .val (.ref b9), .val (.ref b9)] [(.ref w_NO_VARIABLES)])) rfl (by rw [hml]; rfl) [] [] rfl (lenOf pd_428490 rfl) rfl (by show 2 * 0 + _ ≤ _; exact Nat.le_of_eq rfl) (hb hby at_114)
      have N28 := Fr.app N27 Nq28
      refine Go.st (S' := T28.setTop (mkF m 119 #[.val (.int p1), .val (.ref b9), .val (.ref b10), .val (.ref w_NO_VARIABLES), .val (.ref w_NO_VARIABLES), .val (.int (1 : Int32)), .val (.ref b9), .val (.ref b9)] [(.int (1 : Int32))])) st28 ?_
      refine Go.st (S' := T28.setTop (mkF m 122 #[.val (.int p1), .val (.ref b9), .val (.ref b10), .val (.ref w_NO_VARIABLES), .val (.ref w_NO_VARIABLES), .val (.int (1 : Int32)), .val (.ref b9), .val (.ref b9)] [])) (fun _ k => XS.ifNo X28.here hx rfl (hb hby at_119) rfl ((if0 _ _).trans (feq (by decide)).1) k) ?_
      refine Go.st (S' := T28.setTop (mkF m 124 #[.val (.int p1), .val (.ref b9), .val (.ref b10), .val (.ref w_NO_VARIABLES), .val (.ref w_NO_VARIABLES), .val (.int (1 : Int32)), .val (.ref b9), .val (.ref b9)] [(.ref b9)])) (fun _ k => XS.aload X28.here hx rfl (hb hby at_122) rfl rfl k) ?_
      refine Go.st (S' := T28.setTop (mkF m 126 #[.val (.int p1), .val (.ref b9), .val (.ref b10), .val (.ref w_NO_VARIABLES), .val (.ref w_NO_VARIABLES), .val (.int (1 : Int32)), .val (.ref b9), .val (.ref b9)] [(.ref b9), (.ref b9)])) (fun _ k => XS.aload X28.here hx rfl (hb hby at_124) rfl rfl k) ?_
      refine Go.st (S' := T28.setTop (mkF m 129 #[.val (.int p1), .val (.ref b9), .val (.ref b10), .val (.ref w_NO_VARIABLES), .val (.ref w_NO_VARIABLES), .val (.int (1 : Int32)), .val (.ref b9), .val (.ref b9)] [])) (fun _ k => Jvm.RoadKit.acmp (g := (mkF m 126 #[.val (.int p1), .val (.ref b9), .val (.ref b10), .val (.ref w_NO_VARIABLES), .val (.ref w_NO_VARIABLES), .val (.int (1 : Int32)), .val (.ref b9), .val (.ref b9)] [(.ref b9), (.ref b9)])) X28 hx rfl rfl rfl (pc0 := 126) (pc' := 129) (same := true) rfl (hb hby at_126) rfl (decide_eq_true rfl) (by decide) (by decide) k) ?_
      refine Go.st (S' := T28.setTop (mkF m 130 #[.val (.int p1), .val (.ref b9), .val (.ref b10), .val (.ref w_NO_VARIABLES), .val (.ref w_NO_VARIABLES), .val (.int (1 : Int32)), .val (.ref b9), .val (.ref b9)] [(.int (1 : Int32))])) (fun _ k => XS.iconst X28.here hx rfl (hb hby at_129) k) ?_
      refine Go.st (S' := T28.setTop (mkF m 134 #[.val (.int p1), .val (.ref b9), .val (.ref b10), .val (.ref w_NO_VARIABLES), .val (.ref w_NO_VARIABLES), .val (.int (1 : Int32)), .val (.ref b9), .val (.ref b9)] [(.int (1 : Int32))])) (fun _ k => XS.goto X28.here hx rfl (pc0 := 130) (pc' := 134) rfl (hb hby at_130) (by decide) (by decide) k) ?_
      exact own_retN X28 hx hlk hret (by simp) (hb hby at_134) eq28 ⟨rfl, N28⟩ (by decide) (by decide)
set_option maxRecDepth 65536 in
set_option maxHeartbeats 400000000 in
theorem comes_1 {Post : Tables → Env → Array Value → State → Outcome → State → Prop} (hpost : ∀ tb e args s v u, (limb_1_1.after args s (.returned v) u = true ∧ limb_1_2.after args s (.returned v) u = true ∧ True) → FrameEnd s (.returned v) u (Jvm.fieldLocs frame_1_writes args s ++ Jvm.arrayLocs frame_1_arrays args s ++ Jvm.staticLocs frame_1_statics s) 16 128 → Post tb e args s (.returned v) u) :
    ArmFor flags0 classFile x code maxLocals ret World_1 tables_1 room_1 Calls_1 rest_1 Pre_1 Post := by
  intro l hfl _ _ p e ha hc hk s m args below hf hA hF happ hP
  obtain ⟨hcalls, hrest, hpre⟩ := hP
  obtain ⟨-, -, -, hnamed, -, -, -, hat⟩ := (Spec.applies_iff hf).mp happ
  obtain ⟨hg, hn⟩ := and_e (Cond.before_iff.mp (show (Jvm.Cond.and given_1 narrow_1).before args s = true from hpre))
  obtain ⟨hg1, hg2⟩ := and_e hg
  obtain ⟨v0, rfl⟩ : ∃ v0 : Value, args = #[v0] := by
    have hs : args.size = 1 := by simpa [Cond.value, given_1] using hg1
    obtain ⟨L⟩ := args
    match L, hs with
    | [v0], _ => exact ⟨v0, rfl⟩
  have hw := fun d (hd : d ∈ tables_1) => atoms_spec (ws := Jvm.Cond.code x code maxLocals ret :: tables_1) hat d (List.mem_cons_of_mem _ hd)
  have hfit : Fit s := fun {y c} hc i hi => by
    obtain ⟨ha, rfl⟩ := Array.getElem?_eq_some_iff.mp hc
    have q := List.all_eq_true.mp ((Array.all_eq_true_iff_forall_mem.mp hF) _ (Array.getElem_mem ha)) i (List.mem_range.mpr hi)
    simpa [Array.getElem?_eq_getElem hi] using q
  obtain ⟨i0, ei0⟩ := is_v hg2
  obtain rfl : v0 = (.int i0) := Option.some.inj ei0
  obtain ⟨hn1, hn2⟩ := and_e hn
  obtain ⟨w_NO_VARIABLES, ev_NO_VARIABLES⟩ := exa_v hn1
  have S_NO_VARIABLES : Sta s s.heap "com/example/pathwise/pathwise/Expression" "NO_VARIABLES" "Ljava/util/Map;" (.ref w_NO_VARIABLES) := Sta.start ev_NO_VARIABLES (Or.inr ⟨(ww hw 2 rfl), (ww hw 23 rfl)⟩)
  have E_NO_VARIABLES : Exa s s.heap w_NO_VARIABLES "java/util/ImmutableCollections$MapN" := Exa.start ev_NO_VARIABLES hn1
  have F_NO_VARIABLES_size : Fld s s.heap w_NO_VARIABLES "java/util/ImmutableCollections$MapN" "size" "I" (.int (0 : Int32)) := own_fldI ev_NO_VARIABLES hn2
  obtain ⟨n, o, h1, h2, h3, _, L, rfl, ⟨rfl, N⟩, hq⟩ := rm0 l s _ hw tables_1 w_NO_VARIABLES ⟨S_NO_VARIABLES, E_NO_VARIABLES, F_NO_VARIABLES_size⟩ i0 s.heap (own_Ext.refl _)  p e ha hc hk s m _ below hf ((Spec.applies_iff_loose hf).mp happ).1 ⟨rfl, State.Warmed39.refl s, rfl⟩ trivial
  refine ⟨n, _, h1, h2, h3, hpost _ _ _ _ _ _ ⟨Cond.after_iff.mpr rfl, Cond.after_iff.mpr (eq_i res_at (Term.int_eval (1)) rfl), trivial⟩ ⟨hq.1, hq.2.1, (hq.2.2.sift fun y hy => Or.inr (N y hy)).mono (by decide) (by decide)⟩⟩
theorem main_1_1 : Claimed_1_1 := comes_1 fun _ _ _ _ _ _ h hF => ⟨h.1, hF⟩
theorem main_1_2 : Claimed_1_2 := comes_1 fun _ _ _ _ _ _ h hF => ⟨h.2.1, hF⟩
end Jvm.Pilot.@@N@@
namespace Jvm.Pilot.@@N@@
open Jvm Jvm.ClassFile Sem Op Lib Jvm.Free Jvm.Stand Jvm.Pilot.@@N@@.Jvm.D
/-! MADE BY PROGRAM (witnessworld.py) out of the Statement's table words and the real class files: 14 classes; the members and pool entries that the words name. The judged class is class 1, her method 1. -/
namespace start1
open Jvm.ClassFile
def u (s : String) : CpInfo := .utf8 (stringToUtf16 s)
/-- a pool by its gaps: so many unusable entries, then the entry; so many at the end -/
def gap : Nat → List CpInfo → List CpInfo
  | 0, r => r
  | n + 1, r => .unusable :: gap n r
def poolList (es : List (Nat × CpInfo)) (last : Nat) : List CpInfo := es.foldr (fun e r => gap e.1 (e.2 :: r)) (gap last [])
def pool (es : List (Nat × CpInfo)) (last : Nat) : Array CpInfo := ⟨poolList es last⟩
def fileOf (pool : Array CpInfo) (this : Nat) (attrs : Array Attribute := #[]) (ms : Array MethodInfo := #[]) (fl : Nat := 33) (sup : Nat := 0) (ifs : Array Nat := #[]) (fds : Array FieldInfo := #[]) : ClassFile where
  minorVersion := 0
  majorVersion := 65
  constantPool := pool
  accessFlags := fl
  thisClass := this
  superClass := sup
  interfaces := ifs
  fields := fds
  methods := ms
  attributes := attrs
def plain (name : String) (sup : Option ClassId) : Class where
  name := name
  kind := .ordinary
  loader := none
  accessFlags := 33
  super := sup
  interfaces := #[]
  cf := none
  fields := #[]
  methods := #[]
  instanceTypes := #[]
  staticTypes := #[]
  resolved := #[]
  callSites := []
  init := .initialized
  statics := none
  mirror := none

def pool0 : Array CpInfo := pool [(5, u "<init>"), (0, u "()V"), (1, .class_ 10), (1, u "java/lang/Object")] 113

def k0c0 : Code := { maxStack := 0, maxLocals := 1, code := object_method_1_code, exceptionTable := #[], attributes := #[] }
def k0m0 : Method := { name := "<init>", desc := "()V", sig := { parameters := [], returnType := none }, accessFlags := 1, code := some k0c0 }
/-- java/lang/Object -/
def k0 : Class := { plain "java/lang/Object" none with
  accessFlags := 33
  interfaces := #[]
  cf := some (fileOf pool0 8 #[] #[{ accessFlags := 1, nameIndex := 5, descriptorIndex := 6, attributes := #[] }] 33 0 #[] #[])
  fields := #[]
  methods := #[k0m0]
  instanceTypes := #[]
  staticTypes := #[]
  resolved := Array.replicate 124 none
  statics := none }

def pool1 : Array CpInfo := pool [(2, .class_ 4), (1, u "java/lang/Object"), (0, u "<init>"), (0, u "()V"), (0, .methodref 8 9), (0, .class_ 10), (0, .nameAndType 11 12), (0, u "com/example/pathwise/pathwise/Expression"), (0, u "given"), (0, u "(Ljava/util/Map;Z)Ljava/util/Map;"), (0, .interfaceMethodref 14 15), (0, .class_ 16), (0, .nameAndType 17 18), (0, u "java/util/Map"), (0, u "isEmpty"), (0, u "()Z"), (0, .class_ 20), (0, u "com/example/pathwise/pathwise/ExpressionGivenPinLaw"), (2, u "law"), (0, u "(I)Z")] 3

def k1m0 : Method := { name := "<init>", desc := "()V", sig := { parameters := [], returnType := none }, accessFlags := 2, code := none }
def k1c1 : Code := { maxStack := 2, maxLocals := 8, code := code, exceptionTable := #[], attributes := #[] }
def k1m1 : Method := { name := "law", desc := "(I)Z", sig := { parameters := [.int], returnType := some .boolean }, accessFlags := 9, code := some k1c1 }
/-- com/example/pathwise/pathwise/ExpressionGivenPinLaw -/
def k1 : Class := { plain "com/example/pathwise/pathwise/ExpressionGivenPinLaw" (some 0) with
  accessFlags := 49
  interfaces := #[]
  cf := some (fileOf pool1 19 #[] #[{ accessFlags := 2, nameIndex := 5, descriptorIndex := 6, attributes := #[] }, { accessFlags := 9, nameIndex := 23, descriptorIndex := 24, attributes := #[] }] 49 2 #[] #[])
  fields := #[]
  methods := #[k1m0, k1m1]
  instanceTypes := #[]
  staticTypes := #[]
  resolved := Array.replicate 28 none
  statics := none }

def pool2 : Array CpInfo := pool [(2, .class_ 4), (0, .nameAndType 5 6), (0, u "java/lang/Object"), (0, u "<init>"), (0, u "()V"), (1, .class_ 10), (1, u "com/example/pathwise/pathwise/Expression"), (0, u "text"), (0, u "Ljava/lang/String;"), (2, u "configuration"), (0, u "Lcom/example/pathwise/pathwise/Configuration;"), (4, u "tree"), (3, u "Lcom/example/pathwise/pathwise/Node;"), (2, u "depth"), (3, u "I"), (2, u "namesVariables"), (3, u "Z"), (44, u "compiled"), (29, u "given"), (0, u "(Ljava/util/Map;Z)Ljava/util/Map;"), (3, .class_ 120), (0, u "java/util/HashMap"), (0, .methodref 119 3), (0, .fieldref 8 123), (0, .nameAndType 124 125), (0, u "NO_VARIABLES"), (0, u "Ljava/util/Map;"), (2, u "Lcom/example/pathwise/pathwise/Compiled;"), (2, u "runs"), (12, u "COMPILE_AFTER")] 24

def k2c0 : Code := { maxStack := 2, maxLocals := 2, code := prog_37_method_11_code, exceptionTable := #[], attributes := #[] }
def k2m0 : Method := { name := "given", desc := "(Ljava/util/Map;Z)Ljava/util/Map;", sig := { parameters := [(.object "java/util/Map"), .boolean], returnType := some (.object "java/util/Map") }, accessFlags := 8, code := some k2c0 }
/-- com/example/pathwise/pathwise/Expression -/
def k2 : Class := { plain "com/example/pathwise/pathwise/Expression" (some 0) with
  accessFlags := 49
  interfaces := #[]
  cf := some (fileOf pool2 8 #[] #[{ accessFlags := 8, nameIndex := 114, descriptorIndex := 115, attributes := #[] }] 49 2 #[] #[{ accessFlags := 24, nameIndex := 144, descriptorIndex := 32, attributes := #[] }, { accessFlags := 26, nameIndex := 124, descriptorIndex := 125, attributes := #[] }, { accessFlags := 18, nameIndex := 11, descriptorIndex := 12, attributes := #[] }, { accessFlags := 18, nameIndex := 15, descriptorIndex := 16, attributes := #[] }, { accessFlags := 18, nameIndex := 21, descriptorIndex := 25, attributes := #[] }, { accessFlags := 18, nameIndex := 28, descriptorIndex := 32, attributes := #[] }, { accessFlags := 18, nameIndex := 35, descriptorIndex := 39, attributes := #[] }, { accessFlags := 2, nameIndex := 84, descriptorIndex := 128, attributes := #[] }, { accessFlags := 2, nameIndex := 131, descriptorIndex := 32, attributes := #[] }])
  fields := #[{ name := "COMPILE_AFTER", type := .int, accessFlags := 24, slot := 0, constantValue := 0 }, { name := "NO_VARIABLES", type := (.object "java/util/Map"), accessFlags := 26, slot := 1, constantValue := 0 }, { name := "text", type := (.object "java/lang/String"), accessFlags := 18, slot := 0, constantValue := 0 }, { name := "configuration", type := (.object "com/example/pathwise/pathwise/Configuration"), accessFlags := 18, slot := 1, constantValue := 0 }, { name := "tree", type := (.object "com/example/pathwise/pathwise/Node"), accessFlags := 18, slot := 2, constantValue := 0 }, { name := "depth", type := .int, accessFlags := 18, slot := 3, constantValue := 0 }, { name := "namesVariables", type := .boolean, accessFlags := 18, slot := 4, constantValue := 0 }, { name := "compiled", type := (.object "com/example/pathwise/pathwise/Compiled"), accessFlags := 2, slot := 5, constantValue := 0 }, { name := "runs", type := .int, accessFlags := 2, slot := 6, constantValue := 0 }]
  methods := #[k2m0]
  instanceTypes := #[(.object "java/lang/String"), (.object "com/example/pathwise/pathwise/Configuration"), (.object "com/example/pathwise/pathwise/Node"), .int, .boolean, (.object "com/example/pathwise/pathwise/Compiled"), .int]
  staticTypes := #[.int, (.object "java/util/Map")]
  resolved := Array.replicate 169 none
  statics := some 0 }

def pool3 : Array CpInfo := pool [(2, .class_ 4), (1, u "java/util/Map"), (26, u "()Z"), (4, .class_ 37), (0, u "java/util/Map$Entry"), (55, .class_ 94), (0, u "java/lang/Object"), (10, u "isEmpty")] 157

def k3m0 : Method := { name := "isEmpty", desc := "()Z", sig := { parameters := [], returnType := some .boolean }, accessFlags := 1025, code := none }
/-- java/util/Map -/
def k3 : Class := { plain "java/util/Map" (some 0) with
  accessFlags := 1537
  interfaces := #[]
  cf := some (fileOf pool3 2 #[.nestMembers #[36]] #[{ accessFlags := 1025, nameIndex := 105, descriptorIndex := 31, attributes := #[] }] 1537 93 #[] #[])
  fields := #[]
  methods := #[k3m0]
  instanceTypes := #[]
  staticTypes := #[]
  resolved := Array.replicate 263 none
  statics := none }

def pool4 : Array CpInfo := pool [(1, .methodref 2 3), (0, .class_ 4), (0, .nameAndType 5 6), (0, u "java/lang/Object"), (0, u "<init>"), (0, u "()V"), (1, .class_ 10), (1, u "java/util/AbstractMap"), (42, .class_ 54), (0, u "java/util/Map"), (9, u "keySet"), (0, u "Ljava/util/Set;"), (0, .class_ 67), (0, u "java/util/AbstractMap$1"), (5, u "values"), (0, u "Ljava/util/Collection;"), (0, .class_ 76), (0, u "java/util/AbstractMap$2"), (104, .class_ 182), (0, u "java/util/AbstractMap$ViewCollection"), (0, .class_ 184), (0, u "java/util/AbstractMap$SimpleImmutableEntry"), (0, .class_ 186), (0, u "java/util/AbstractMap$SimpleEntry"), (0, .class_ 188), (0, u "java/util/AbstractMap$2$1"), (0, .class_ 190), (0, u "java/util/AbstractMap$1$1")] 5

def k4c0 : Code := { maxStack := 1, maxLocals := 1, code := jdk_71_method_1_code, exceptionTable := #[], attributes := #[] }
def k4m0 : Method := { name := "<init>", desc := "()V", sig := { parameters := [], returnType := none }, accessFlags := 4, code := some k4c0 }
/-- java/util/AbstractMap -/
def k4 : Class := { plain "java/util/AbstractMap" (some 0) with
  accessFlags := 1057
  interfaces := #[3]
  cf := some (fileOf pool4 8 #[.nestMembers #[181, 183, 185, 75, 187, 66, 189]] #[{ accessFlags := 4, nameIndex := 5, descriptorIndex := 6, attributes := #[] }] 1057 2 #[53] #[{ accessFlags := 128, nameIndex := 64, descriptorIndex := 65, attributes := #[] }, { accessFlags := 128, nameIndex := 73, descriptorIndex := 74, attributes := #[] }])
  fields := #[{ name := "keySet", type := (.object "java/util/Set"), accessFlags := 128, slot := 0, constantValue := 0 }, { name := "values", type := (.object "java/util/Collection"), accessFlags := 128, slot := 1, constantValue := 0 }]
  methods := #[k4m0]
  instanceTypes := #[(.object "java/util/Set"), (.object "java/util/Collection")]
  staticTypes := #[]
  resolved := Array.replicate 196 none
  statics := none }

def pool5 : Array CpInfo := pool [(1, .class_ 2), (0, u "java/lang/Cloneable"), (0, .class_ 4), (0, u "java/lang/Object")] 2

/-- java/lang/Cloneable -/
def k5 : Class := { plain "java/lang/Cloneable" (some 0) with
  accessFlags := 1537
  interfaces := #[]
  cf := some (fileOf pool5 1 #[] #[] 1537 3 #[] #[])
  fields := #[]
  methods := #[]
  instanceTypes := #[]
  staticTypes := #[]
  resolved := Array.replicate 7 none
  statics := none }

def pool6 : Array CpInfo := pool [(1, .class_ 2), (0, u "java/io/Serializable"), (0, .class_ 4), (0, u "java/lang/Object")] 2

/-- java/io/Serializable -/
def k6 : Class := { plain "java/io/Serializable" (some 0) with
  accessFlags := 1537
  interfaces := #[]
  cf := some (fileOf pool6 1 #[] #[] 1537 3 #[] #[])
  fields := #[]
  methods := #[]
  instanceTypes := #[]
  staticTypes := #[]
  resolved := Array.replicate 7 none
  statics := none }

def pool7 : Array CpInfo := pool [(40, .class_ 41), (0, u "java/util/HashMap"), (1, .methodref 44 45), (0, .class_ 46), (0, .nameAndType 47 48), (0, u "java/util/AbstractMap"), (0, u "<init>"), (0, u "()V"), (32, .fieldref 40 82), (0, .nameAndType 83 84), (0, u "loadFactor"), (0, u "F"), (5, u "threshold"), (0, u "I"), (0, .float 1061158912), (8, .class_ 103), (1, u "java/util/Map"), (0, u "size"), (2, u "table"), (0, u "[Ljava/util/HashMap$Node;"), (14, u "entrySet"), (12, u "()Z"), (19, .fieldref 40 157), (0, .nameAndType 104 91), (5, .class_ 165), (1, u "java/util/HashMap$Node"), (14, .class_ 181), (0, u "java/util/HashMap$TreeNode"), (22, u "modCount"), (37, u "Ljava/util/Set;"), (0, .class_ 244), (0, u "java/util/HashMap$KeySet"), (18, .class_ 264), (0, u "java/util/HashMap$Values"), (3, .class_ 269), (0, u "java/util/HashMap$EntrySet"), (76, .class_ 348), (1, u "java/util/HashMap$UnsafeHolder"), (43, .class_ 393), (0, u "java/lang/Cloneable"), (0, .class_ 395), (0, u "java/io/Serializable"), (0, u "serialVersionUID"), (0, u "J"), (3, u "DEFAULT_INITIAL_CAPACITY"), (1, u "MAXIMUM_CAPACITY"), (0, u "DEFAULT_LOAD_FACTOR"), (0, u "TREEIFY_THRESHOLD"), (1, u "UNTREEIFY_THRESHOLD"), (1, u "MIN_TREEIFY_CAPACITY"), (52, u "isEmpty"), (133, .class_ 597), (0, u "java/util/HashMap$EntrySpliterator"), (0, .class_ 599), (0, u "java/util/HashMap$ValueSpliterator"), (0, .class_ 601), (0, u "java/util/HashMap$KeySpliterator"), (0, .class_ 603), (0, u "java/util/HashMap$HashMapSpliterator"), (0, .class_ 605), (0, u "java/util/HashMap$EntryIterator"), (0, .class_ 607), (0, u "java/util/HashMap$ValueIterator"), (0, .class_ 609), (0, u "java/util/HashMap$KeyIterator"), (0, .class_ 611), (0, u "java/util/HashMap$HashIterator")] 17

def k7c0 : Code := { maxStack := 2, maxLocals := 1, code := jdk_69_method_7_code, exceptionTable := #[], attributes := #[] }
def k7m0 : Method := { name := "<init>", desc := "()V", sig := { parameters := [], returnType := none }, accessFlags := 1, code := some k7c0 }
def k7c1 : Code := { maxStack := 1, maxLocals := 1, code := jdk_69_method_11_code, exceptionTable := #[], attributes := #[] }
def k7m1 : Method := { name := "isEmpty", desc := "()Z", sig := { parameters := [], returnType := some .boolean }, accessFlags := 1, code := some k7c1 }
/-- java/util/HashMap -/
def k7 : Class := { plain "java/util/HashMap" (some 4) with
  accessFlags := 33
  interfaces := #[3, 5, 6]
  cf := some (fileOf pool7 40 #[.nestMembers #[180, 596, 598, 600, 602, 604, 606, 608, 610, 346, 268, 263, 243, 163]] #[{ accessFlags := 1, nameIndex := 47, descriptorIndex := 48, attributes := #[] }, { accessFlags := 1, nameIndex := 462, descriptorIndex := 136, attributes := #[] }] 33 44 #[101, 392, 394] #[{ accessFlags := 26, nameIndex := 396, descriptorIndex := 397, attributes := #[] }, { accessFlags := 24, nameIndex := 401, descriptorIndex := 91, attributes := #[] }, { accessFlags := 24, nameIndex := 403, descriptorIndex := 91, attributes := #[] }, { accessFlags := 24, nameIndex := 404, descriptorIndex := 84, attributes := #[] }, { accessFlags := 24, nameIndex := 405, descriptorIndex := 91, attributes := #[] }, { accessFlags := 24, nameIndex := 407, descriptorIndex := 91, attributes := #[] }, { accessFlags := 24, nameIndex := 409, descriptorIndex := 91, attributes := #[] }, { accessFlags := 128, nameIndex := 107, descriptorIndex := 108, attributes := #[] }, { accessFlags := 128, nameIndex := 123, descriptorIndex := 242, attributes := #[] }, { accessFlags := 128, nameIndex := 104, descriptorIndex := 91, attributes := #[] }, { accessFlags := 128, nameIndex := 204, descriptorIndex := 91, attributes := #[] }, { accessFlags := 0, nameIndex := 90, descriptorIndex := 91, attributes := #[] }, { accessFlags := 16, nameIndex := 83, descriptorIndex := 84, attributes := #[] }])
  fields := #[{ name := "serialVersionUID", type := .long, accessFlags := 26, slot := 0, constantValue := 0 }, { name := "DEFAULT_INITIAL_CAPACITY", type := .int, accessFlags := 24, slot := 1, constantValue := 0 }, { name := "MAXIMUM_CAPACITY", type := .int, accessFlags := 24, slot := 2, constantValue := 0 }, { name := "DEFAULT_LOAD_FACTOR", type := .float, accessFlags := 24, slot := 3, constantValue := 0 }, { name := "TREEIFY_THRESHOLD", type := .int, accessFlags := 24, slot := 4, constantValue := 0 }, { name := "UNTREEIFY_THRESHOLD", type := .int, accessFlags := 24, slot := 5, constantValue := 0 }, { name := "MIN_TREEIFY_CAPACITY", type := .int, accessFlags := 24, slot := 6, constantValue := 0 }, { name := "table", type := (.array (.object "java/util/HashMap$Node")), accessFlags := 128, slot := 2, constantValue := 0 }, { name := "entrySet", type := (.object "java/util/Set"), accessFlags := 128, slot := 3, constantValue := 0 }, { name := "size", type := .int, accessFlags := 128, slot := 4, constantValue := 0 }, { name := "modCount", type := .int, accessFlags := 128, slot := 5, constantValue := 0 }, { name := "threshold", type := .int, accessFlags := 0, slot := 6, constantValue := 0 }, { name := "loadFactor", type := .float, accessFlags := 16, slot := 7, constantValue := 0 }]
  methods := #[k7m0, k7m1]
  instanceTypes := #[(.object "java/util/Set"), (.object "java/util/Collection"), (.array (.object "java/util/HashMap$Node")), (.object "java/util/Set"), .int, .int, .int, .float]
  staticTypes := #[.long, .int, .int, .float, .int, .int, .int]
  resolved := Array.replicate 629 none
  statics := none }

def pool8 : Array CpInfo := pool [(2, .class_ 4), (1, u "java/util/AbstractMap"), (0, u "<init>"), (0, u "()V"), (1, .class_ 10), (1, u "java/util/ImmutableCollections"), (3, .class_ 16), (1, u "java/util/ImmutableCollections$AbstractImmutableMap"), (2, .class_ 20), (0, u "java/io/Serializable")] 66

def k8m0 : Method := { name := "<init>", desc := "()V", sig := { parameters := [], returnType := none }, accessFlags := 0, code := none }
/-- java/util/ImmutableCollections$AbstractImmutableMap -/
def k8 : Class := { plain "java/util/ImmutableCollections$AbstractImmutableMap" (some 4) with
  accessFlags := 1056
  interfaces := #[6]
  cf := some (fileOf pool8 14 #[.nestHost 8] #[{ accessFlags := 0, nameIndex := 5, descriptorIndex := 6, attributes := #[] }] 1056 2 #[19] #[])
  fields := #[]
  methods := #[k8m0]
  instanceTypes := #[(.object "java/util/Set"), (.object "java/util/Collection")]
  staticTypes := #[]
  resolved := Array.replicate 87 none
  statics := none }

def pool9 : Array CpInfo := pool [(1, .class_ 2), (0, u "java/util/ImmutableCollections"), (1, .class_ 6), (1, u "java/util/ImmutableCollections$AbstractImmutableMap"), (9, .fieldref 17 18), (0, .class_ 19), (0, .nameAndType 20 21), (0, u "java/util/ImmutableCollections$MapN"), (0, u "size"), (0, u "I"), (4, u "table"), (0, u "[Ljava/lang/Object;"), (87, u "isEmpty"), (0, u "()Z")] 32

def k9c0 : Code := { maxStack := 1, maxLocals := 1, code := jdk_2605_method_7_code, exceptionTable := #[], attributes := #[] }
def k9m0 : Method := { name := "isEmpty", desc := "()Z", sig := { parameters := [], returnType := some .boolean }, accessFlags := 1, code := some k9c0 }
/-- java/util/ImmutableCollections$MapN -/
def k9 : Class := { plain "java/util/ImmutableCollections$MapN" (some 8) with
  accessFlags := 48
  interfaces := #[]
  cf := some (fileOf pool9 17 #[.nestHost 1] #[{ accessFlags := 1, nameIndex := 115, descriptorIndex := 116, attributes := #[] }] 48 4 #[] #[{ accessFlags := 16, nameIndex := 26, descriptorIndex := 27, attributes := #[] }, { accessFlags := 16, nameIndex := 20, descriptorIndex := 21, attributes := #[] }])
  fields := #[{ name := "table", type := (.array (.object "java/lang/Object")), accessFlags := 16, slot := 2, constantValue := 0 }, { name := "size", type := .int, accessFlags := 16, slot := 3, constantValue := 0 }]
  methods := #[k9m0]
  instanceTypes := #[(.object "java/util/Set"), (.object "java/util/Collection"), (.array (.object "java/lang/Object")), .int]
  staticTypes := #[]
  resolved := Array.replicate 149 none
  statics := none }

/-- the primitive byte -/
def k10 : Class := { plain "byte" none with kind := .primitive 'B', accessFlags := 0x411 }
/-- [B -/
def k11 : Class := { plain "[B" (some 0) with kind := .array 10 .byte, interfaces := #[5, 6], accessFlags := 1041 }

/-- the primitive int -/
def k12 : Class := { plain "int" none with kind := .primitive 'I', accessFlags := 0x411 }
/-- [I -/
def k13 : Class := { plain "[I" (some 0) with kind := .array 12 .int, interfaces := #[5, 6], accessFlags := 1041 }

def heap : Heap := #[{ cls := 2, slots := #[.int 0, .ref 1], vm := .statics 2 },
  { cls := 9, slots := #[.null, .null, .null, .int (0)], vm := .none }]
def classes : Array Class := #[k0, k1, k2, k3, k4, k5, k6, k7, k8, k9, k10, k11, k12, k13]
def interned : List (Array UInt16 × Addr) := []
def slotsUsed : Nat := 6
def theMethod : MethodId := ⟨1, 1⟩
def args0 : Array Value := #[.int 5]
def aboutOver (below : List Frame) : State where
  vm := { classes := classes, interned := interned.toArray }
  heap := heap
  slotsUsed := slotsUsed
  threads := #[{ frames := .invoking theMethod args0 :: below }]
def below0 : List Frame := [.native { method := ⟨0, 0⟩, args := #[] }]
def about1 : State := aboutOver below0
def p0 : Program := .bare "" "" ""
def e0 : Env := launch0.env 0 0 0
theorem w_frames : about1.frames = Frame.invoking theMethod args0 :: below0 := rfl
set_option maxRecDepth 65536 in
theorem w_args : argsFit about1.vm theMethod args0 = true := by decide +kernel
set_option maxRecDepth 65536 in
theorem w_heap : heapFits about1 = true := by decide +kernel
set_option maxRecDepth 65536 in
theorem w_runnable : about1.curStatus? = some .runnable := by decide +kernel
set_option maxRecDepth 65536 in
theorem w_alone : about1.alone = true := by decide +kernel
set_option maxRecDepth 65536 in
theorem w_named : about1.methodNamed? x = some theMethod := by decide +kernel
set_option maxRecDepth 65536 in
theorem w_hears : about1.hears theMethod below0 = true := by decide +kernel
set_option maxRecDepth 65536 in
theorem w_ripe : about1.ripe theMethod args0 below0 = true := by decide +kernel
theorem w_running : about1.status = .running := rfl
set_option maxRecDepth 65536 in
theorem w_room : about1.hasRoom e0.platform room_1 = true :=
  launch0.hasRoom_least _ room_1 (by decide +kernel) (by decide +kernel) (by decide +kernel) (by decide +kernel) (by decide +kernel) (by decide +kernel)
theorem allAtoms_all (ts : List Jvm.Cond) (a : Array Jvm.Value) (st : Jvm.State) : (allAtoms ts).before a st = ts.all (fun c => c.before a st) := by
  induction ts with
  | nil => rfl
  | cons c t ih =>
    show (Jvm.Cond.and c (allAtoms t)).before a st = _
    rw [Jvm.Cond.before_and, ih, List.all_cons]
def words1 : List Jvm.Cond := Jvm.Cond.code x code maxLocals ret :: tables_1
/-- a 'code' word, met by the world's own term for the bytes: nothing is compared byte by byte -/
theorem code_word {y : MethodName} {bytes : ByteArray} {mx : Nat} {rt : Option FieldType} {a : Array Value} {s : State} {m : MethodId} {meth : Method} {c : Code} (h1 : s.methodNamed? y = some m) (h2 : s.vm.method? m = some meth) (h3 : meth.code = some c) (h4 : c.code = bytes)
    (h5 : (c.maxLocals == mx && c.exceptionTable.isEmpty && decide (c.maxStack ≤ mostOperands) && decide (meth.sig.returnType = rt) && !meth.locks && decide (parseMethodDescriptor y.desc = some meth.sig)) = true) : (Jvm.Cond.code y bytes mx rt).before a s = true := by
  simp only [Bool.and_eq_true, beq_iff_eq, Bool.not_eq_true', decide_eq_true_eq] at h5
  obtain ⟨⟨⟨⟨⟨g1, g2⟩, g3⟩, g4⟩, g5⟩, g6⟩ := h5
  simp [Cond.before, Cond.holds, Cond.value, h1, h2, h3, h4, g1, g2, g3, g4, g5, g6]
def isCode : Jvm.Cond → Bool
  | .code _ _ _ _ => true
  | _ => false
theorem all_split {L : List Jvm.Cond} {P : Jvm.Cond → Bool} (h1 : L.all (fun c => isCode c || P c) = true) (h2 : ∀ c ∈ L.filter isCode, P c = true) : L.all P = true := by
  refine List.all_eq_true.mpr fun c hc => ?_
  have h := List.all_eq_true.mp h1 c hc
  rcases Bool.eq_false_or_eq_true (isCode c) with hi | hi
  · exact h2 c (List.mem_filter.mpr ⟨hc, hi⟩)
  · simpa [hi] using h
set_option maxRecDepth 65536 in
theorem w_c0 : (Jvm.Cond.code x code maxLocals ret).before args0 about1 = true := code_word (m := ⟨1, 1⟩) (meth := k1m1) (c := k1c1) (by decide +kernel) rfl rfl rfl (by decide +kernel)
set_option maxRecDepth 65536 in
theorem w_c1 : (Jvm.Cond.code ({ cls := "com/example/pathwise/pathwise/Expression", name := "given", desc := "(Ljava/util/Map;Z)Ljava/util/Map;" } : Jvm.MethodName) prog_37_method_11_code (2 : Nat) (Option.some (Jvm.ClassFile.FieldType.object "java/util/Map"))).before args0 about1 = true := code_word (m := ⟨2, 0⟩) (meth := k2m0) (c := k2c0) (by decide +kernel) rfl rfl rfl (by decide +kernel)
set_option maxRecDepth 65536 in
theorem w_c2 : (Jvm.Cond.code ({ cls := "java/util/HashMap", name := "<init>", desc := "()V" } : Jvm.MethodName) jdk_69_method_7_code (1 : Nat) (Option.none : Option Jvm.ClassFile.FieldType)).before args0 about1 = true := code_word (m := ⟨7, 0⟩) (meth := k7m0) (c := k7c0) (by decide +kernel) rfl rfl rfl (by decide +kernel)
set_option maxRecDepth 65536 in
theorem w_c3 : (Jvm.Cond.code ({ cls := "java/util/AbstractMap", name := "<init>", desc := "()V" } : Jvm.MethodName) jdk_71_method_1_code (1 : Nat) (Option.none : Option Jvm.ClassFile.FieldType)).before args0 about1 = true := code_word (m := ⟨4, 0⟩) (meth := k4m0) (c := k4c0) (by decide +kernel) rfl rfl rfl (by decide +kernel)
set_option maxRecDepth 65536 in
theorem w_c4 : (Jvm.Cond.code ({ cls := "java/lang/Object", name := "<init>", desc := "()V" } : Jvm.MethodName) object_method_1_code (1 : Nat) (Option.none : Option Jvm.ClassFile.FieldType)).before args0 about1 = true := code_word (m := ⟨0, 0⟩) (meth := k0m0) (c := k0c0) (by decide +kernel) rfl rfl rfl (by decide +kernel)
set_option maxRecDepth 65536 in
theorem w_c5 : (Jvm.Cond.code ({ cls := "java/util/HashMap", name := "isEmpty", desc := "()Z" } : Jvm.MethodName) jdk_69_method_11_code (1 : Nat) (Option.some Jvm.ClassFile.FieldType.boolean)).before args0 about1 = true := code_word (m := ⟨7, 1⟩) (meth := k7m1) (c := k7c1) (by decide +kernel) rfl rfl rfl (by decide +kernel)
set_option maxRecDepth 65536 in
theorem w_c6 : (Jvm.Cond.code ({ cls := "java/util/ImmutableCollections$MapN", name := "isEmpty", desc := "()Z" } : Jvm.MethodName) jdk_2605_method_7_code (1 : Nat) (Option.some Jvm.ClassFile.FieldType.boolean)).before args0 about1 = true := code_word (m := ⟨9, 0⟩) (meth := k9m0) (c := k9c0) (by decide +kernel) rfl rfl rfl (by decide +kernel)
def codes1 : List Jvm.Cond := [Jvm.Cond.code x code maxLocals ret, Jvm.Cond.code ({ cls := "com/example/pathwise/pathwise/Expression", name := "given", desc := "(Ljava/util/Map;Z)Ljava/util/Map;" } : Jvm.MethodName) prog_37_method_11_code (2 : Nat) (Option.some (Jvm.ClassFile.FieldType.object "java/util/Map")), Jvm.Cond.code ({ cls := "java/util/HashMap", name := "<init>", desc := "()V" } : Jvm.MethodName) jdk_69_method_7_code (1 : Nat) (Option.none : Option Jvm.ClassFile.FieldType), Jvm.Cond.code ({ cls := "java/util/AbstractMap", name := "<init>", desc := "()V" } : Jvm.MethodName) jdk_71_method_1_code (1 : Nat) (Option.none : Option Jvm.ClassFile.FieldType), Jvm.Cond.code ({ cls := "java/lang/Object", name := "<init>", desc := "()V" } : Jvm.MethodName) object_method_1_code (1 : Nat) (Option.none : Option Jvm.ClassFile.FieldType), Jvm.Cond.code ({ cls := "java/util/HashMap", name := "isEmpty", desc := "()Z" } : Jvm.MethodName) jdk_69_method_11_code (1 : Nat) (Option.some Jvm.ClassFile.FieldType.boolean), Jvm.Cond.code ({ cls := "java/util/ImmutableCollections$MapN", name := "isEmpty", desc := "()Z" } : Jvm.MethodName) jdk_2605_method_7_code (1 : Nat) (Option.some Jvm.ClassFile.FieldType.boolean)]
set_option maxRecDepth 65536 in
theorem codes_eq : words1.filter isCode = codes1 := rfl
theorem w_codes : ∀ c ∈ words1.filter isCode, c.before args0 about1 = true := by
  rw [codes_eq]
  intro c hc
  simp only [codes1, List.mem_cons, List.not_mem_nil, or_false] at hc
  rcases hc with rfl | rfl | rfl | rfl | rfl | rfl | rfl
  · exact w_c0
  · exact w_c1
  · exact w_c2
  · exact w_c3
  · exact w_c4
  · exact w_c5
  · exact w_c6
set_option maxRecDepth 65536 in
theorem w_t1 : (words1.take 24).all (fun c => isCode c || c.before args0 about1) = true := by decide +kernel
set_option maxRecDepth 65536 in
theorem w_t2 : (words1.drop 24).all (fun c => isCode c || c.before args0 about1) = true := by decide +kernel
theorem w_tables : (allAtoms (Jvm.Cond.code x code maxLocals ret :: tables_1)).before args0 about1 = true := by
  rw [allAtoms_all]
  show words1.all (fun c => c.before args0 about1) = true
  refine all_split ?_ w_codes
  rw [← List.take_append_drop 24 words1, List.all_append, w_t1, w_t2]
  rfl
set_option maxRecDepth 65536 in
theorem w_case : (Jvm.Cond.and given_1 narrow_1).before args0 about1 = true := by decide +kernel
theorem w_applies : (headSpec (Jvm.Cond.code x code maxLocals ret :: tables_1) room_1).applies x e0.platform about1 = true :=
  (Spec.applies_iff w_frames).mpr ⟨w_running, w_runnable, w_alone, w_named, w_hears, w_ripe, w_room, w_tables⟩
theorem atStart : AtStart classFile x code maxLocals ret World_1 tables_1 room_1 Calls_1 rest_1 Pre_1 launch0 p0 e0 about1 theMethod args0 below0 :=
  ⟨lists_1, trivial, launch0.admits_env _ _ _, launch0.least_env, fairChoices_fair.cas, fairChoices_fair.clock, w_frames, w_args, w_heap, w_applies, trivial, trivial, w_case⟩
end start1
theorem witness_1 : WitnessClaimed_1 := ⟨start1.p0, start1.e0, start1.about1, start1.theMethod, start1.args0, start1.below0, start1.atStart⟩
end Jvm.Pilot.@@N@@
