import JvmDerived
import JvmDerived.Pilot.@@N@@Statement
import JvmDerived.Pilot.@@N@@Code
set_option linter.unusedVariables false
set_option linter.unusedSimpArgs false
@@BLOCK:NumsL.lean.txt@@
namespace Jvm.Pilot.@@N@@
open Jvm Jvm.ClassFile Sem Op Lib Jvm.Free Jvm.Stand Jvm.LawKit Jvm.RoadKit Bundle Jvm.Pilot.@@N@@.Jvm.D
section OwnKit
variable {p : Program} {l : Launch} {e : Env} {R : Room} {s : State} {m : MethodId} {args : Array Value} {below : List Frame} {meth : Method} {c : Code} {T : State} {locs : List Loc} {cells slots : Nat} {Z : State} {a0 : Array Value} {h h' : Heap}
/-- from S the run comes to an end of which P holds -/
def Go (p : Program) (e : Env) (below : List Frame) (P : State → Outcome → Prop) (S : State) : Prop :=
  ∃ s₂ o, Steps p.tables e below S s₂ ∧ s₂.status = .running ∧ Ended s₂ below o ∧ P s₂ o
/-- what a contract says of the end -/
def Ret (s : State) (Q : Option Value → Heap → List Loc → Prop) (cs sl : Nat) : State → Outcome → Prop :=
  fun s₂ o => ∃ v L, o = .returned v ∧ Q v s₂.heap L ∧ FrameEnd s o s₂ L cs sl
theorem Go.st {P : State → Outcome → Prop} {S S' : State} (k : ∀ t, Steps p.tables e below S' t → Steps p.tables e below S t) (g : Go p e below P S') : Go p e below P S := by
  obtain ⟨t, o, q, r⟩ := g
  exact ⟨t, o, k t q, r⟩
/-- a contract in this family: entered with these arguments on this heap -/
abbrev Con (l : Launch) (Z : State) (h0 : Heap) (y : MethodName) (bytes : ByteArray) (maxL : Nat) (ret : Option FieldType) (ws : List Jvm.Cond) (rm : Room) (as' : Array Value) (Q : Option Value → Heap → List Loc → Prop) : Prop :=
  MetFree l y (head1 (Jvm.Cond.code y bytes maxL ret :: ws) rm) (fun a U => a = as' ∧ Z.Warmed39 U.vm ∧ U.heap = h0) (fun _ _ _ _ _ => True) (fun _ U o U' => ∃ v L, o = .returned v ∧ Q v U'.heap L ∧ FrameEnd U o U' L rm.cells rm.slots)
theorem own_con {h0 : Heap} {y : MethodName} {bytes : ByteArray} {maxL : Nat} {ret : Option FieldType} {ws : List Jvm.Cond} {rm : Room} {as' : Array Value} {Q : Option Value → Heap → List Loc → Prop} (hpl : plainFor y = true)
    (body : ∀ (p : Program) (e : Env) (s : State) (m : MethodId) (below : List Frame) (meth : Method) (c : Code) (T : State), Stand p l e rm s m as' below meth c T [] 0 0 → p.tables.exec = Jvm.exec → c.code = bytes → c.maxLocals = maxL → s.vm.findClass y.cls = some m.cls → meth.name = y.name → meth.sig.returnType = ret → meth.locks = false → Z.Warmed39 s.vm → T.heap = h0 →
      Go p e below (Ret s Q rm.cells rm.slots) (T.setTop (entryFrame m as' maxL))) : Con l Z h0 y bytes maxL ret ws rm as' Q := by
  refine MetFree.of_bodySF hpl hisR ?_
  intro p e s m args below meth c s₁ Bd hml0 hP hK
  obtain ⟨rfl, hZ, hh⟩ := hP
  exact body p e s m below meth c s₁ (Stand.of_body Bd) Bd.exec Bd.bytes hml0 (findClass_of_methodNamed Bd.named) (name_of_methodNamed Bd.named Bd.method).1 Bd.returns Bd.notSynchronized hZ (by rw [← hh, Bd.state]; rfl)
theorem own_callS (X : Stand p l e R s m args below meth c T locs cells slots) (hx : p.tables.exec = Jvm.exec) (hZ : Z.Warmed39 s.vm)
    {own : String} {index : Nat} {y : MethodName} {bytes : ByteArray} {maxL : Nat} {ret : Option FieldType} {rm : Room} {as' : Array Value} {Q : Option Value → Heap → List Loc → Prop}
    (hown : s.vm.findClass own = some m.cls) (w1 : (Jvm.Cond.methodLink own index y).before a0 Z = true) (w2 : (Jvm.Cond.static y).before a0 Z = true) (w3 : (Jvm.Cond.initialized y.cls).before a0 Z = true) (w4 : (Jvm.Cond.code y bytes maxL ret).before a0 Z = true)
    (hy : y.cls ≠ "java/lang/invoke/MethodHandle" ∧ y.cls ≠ "java/lang/invoke/VarHandle") (eT : T.heap = h) (hM : Con l Z h y bytes maxL ret [] rm as' Q)
    (W : Nat) (hf : rm.frames + 1 ≤ R.frames) (hl : W + (maxL + 11) + rm.locals ≤ R.locals) (hc : cells + rm.cells ≤ R.cells) (hs : slots + rm.slots ≤ R.slots)
    {g : JFrame} (hg : g.method = m) (hsize : g.locals.size = c.maxLocals) (argsL rest : List Value) (has : argsL.toArray = as') (hlen : ∀ sig, parseMethodDescriptor y.desc = some sig → argsL.length = sig.parameters.length) (hstack : g.stack = argsL.reverse ++ rest) (hW : 2 * g.monitorRoom + (rest.map fun v => v.category).sum ≤ W)
    (hd : decode c.code g.pc = .ok (.invokestatic index, 3)) :
    ∃ (v : Option Value) (T' : State) (L : List Loc), Stand p l e R s m args below meth c T' (locs ++ L) (cells + rm.cells) (slots + rm.slots) ∧ Q v T'.heap L ∧ ∀ t, Steps p.tables e below (T'.setTop { g with pc := g.pc + 3, stack := v.toList ++ rest }) t → Steps p.tables e below (T.setTop g) t := by
  obtain ⟨v, _, ⟨T', L', k', n'⟩, -, X', ⟨L, hQ, l1, l2, l3⟩, st⟩ := Jvm.LawKit.callS X hx hown (mvT hZ w1) (mvT hZ w2) (mvT hZ w3) (mvT hZ w4) hy (backOf (W := W) hM hZ w4 w3 hf hl) hg hsize hlen hstack hW hd (fun _ _ => ⟨has, eT, hc, hs⟩)
  dsimp only [Pt.U, Pt.locs, Pt.cells, Pt.slots] at X' l1 l2 l3 st hQ
  subst l1 l2 l3
  exact ⟨v, T', L, X', hQ, st⟩
theorem own_callV (X : Stand p l e R s m args below meth c T locs cells slots) (hx : p.tables.exec = Jvm.exec) (hZ : Z.Warmed39 s.vm)
    {own C : String} {index : Nat} {y z : MethodName} {bytes : ByteArray} {maxL : Nat} {ret : Option FieldType} {rm : Room} {as' : Array Value} {Q : Option Value → Heap → List Loc → Prop} {b : Addr}
    (hown : s.vm.findClass own = some m.cls) (w1 : (Jvm.Cond.methodLink own index y).before a0 Z = true) (w2 : (Jvm.Cond.declares y).before a0 Z = true) (hnf : NotFace s y) (w4 : (Jvm.Cond.selects C y z).before a0 Z = true) (w5 : (Jvm.Cond.instanceMethod z).before a0 Z = true) (w3 : (Jvm.Cond.initialized z.cls).before a0 Z = true) (w6 : (Jvm.Cond.code z bytes maxL ret).before a0 Z = true)
    (hy : y.cls ≠ "java/lang/invoke/MethodHandle" ∧ y.cls ≠ "java/lang/invoke/VarHandle") (eT : T.heap = h) (E : Exa Z h b C) (hM : Con l Z h z bytes maxL ret [] rm as' Q)
    (W : Nat) (hf : rm.frames + 1 ≤ R.frames) (hl : W + (maxL + 11) + rm.locals ≤ R.locals) (hc : cells + rm.cells ≤ R.cells) (hs : slots + rm.slots ≤ R.slots)
    {g : JFrame} (hg : g.method = m) (hsize : g.locals.size = c.maxLocals) (argsL rest : List Value) (has : (.ref b :: argsL).toArray = as') (hlen : ∀ sig, parseMethodDescriptor y.desc = some sig → argsL.length = sig.parameters.length) (hstack : g.stack = argsL.reverse ++ .ref b :: rest) (hW : 2 * g.monitorRoom + (rest.map fun v => v.category).sum ≤ W)
    (hd : decode c.code g.pc = .ok (.invokevirtual index, 3)) :
    ∃ (v : Option Value) (T' : State) (L : List Loc), Stand p l e R s m args below meth c T' (locs ++ L) (cells + rm.cells) (slots + rm.slots) ∧ Q v T'.heap L ∧ ∀ t, Steps p.tables e below (T'.setTop { g with pc := g.pc + 3, stack := v.toList ++ rest }) t → Steps p.tables e below (T.setTop g) t := by
  obtain ⟨cq, kq, qa, qb, qc⟩ := isOf hZ eT E
  obtain ⟨v, _, ⟨T', L', k', n'⟩, -, X', ⟨L, hQ, l1, l2, l3⟩, st⟩ := X.virtualBack hx hown (mvT hZ w1) (mvT hZ w2) hnf (mvT hZ w4) (mvT hZ w5) hy (backOf (W := W) hM hZ w6 w3 hf hl) qa qc hg hsize (Steps.refl _) hlen hstack hW hd (fun _ _ => ⟨has, eT, hc, hs⟩)
  dsimp only [Pt.U, Pt.locs, Pt.cells, Pt.slots] at X' l1 l2 l3 st hQ
  subst l1 l2 l3
  exact ⟨v, T', L, X', hQ, fun t k => st.trans k⟩
theorem own_callI (X : Stand p l e R s m args below meth c T locs cells slots) (hx : p.tables.exec = Jvm.exec) (hZ : Z.Warmed39 s.vm)
    {own : String} {index : Nat} {y : MethodName} {bytes : ByteArray} {maxL : Nat} {rm : Room} {as' : Array Value} {Q : Option Value → Heap → List Loc → Prop} {b : Addr} (hy1 : y.name = "<init>")
    (hown : s.vm.findClass own = some m.cls) (w1 : (Jvm.Cond.methodLink own index y).before a0 Z = true) (w5 : (Jvm.Cond.instanceMethod y).before a0 Z = true) (w3 : (Jvm.Cond.initialized y.cls).before a0 Z = true) (w6 : (Jvm.Cond.code y bytes maxL none).before a0 Z = true)
    (hy : y.cls ≠ "java/lang/invoke/MethodHandle" ∧ y.cls ≠ "java/lang/invoke/VarHandle") (eT : T.heap = h) (hM : Con l Z h y bytes maxL none [] rm as' Q)
    (W : Nat) (hf : rm.frames + 1 ≤ R.frames) (hl : W + (maxL + 11) + rm.locals ≤ R.locals) (hc : cells + rm.cells ≤ R.cells) (hs : slots + rm.slots ≤ R.slots)
    {g : JFrame} (hg : g.method = m) (hsize : g.locals.size = c.maxLocals) (argsL rest : List Value) (has : (.ref b :: argsL).toArray = as') (hlen : ∀ sig, parseMethodDescriptor y.desc = some sig → argsL.length = sig.parameters.length) (hstack : g.stack = argsL.reverse ++ .ref b :: rest) (hW : 2 * g.monitorRoom + (rest.map fun v => v.category).sum ≤ W)
    (hd : decode c.code g.pc = .ok (.invokespecial index, 3)) :
    ∃ (v : Option Value) (T' : State) (L : List Loc), Stand p l e R s m args below meth c T' (locs ++ L) (cells + rm.cells) (slots + rm.slots) ∧ Q v T'.heap L ∧ ∀ t, Steps p.tables e below (T'.setTop { g with pc := g.pc + 3, stack := v.toList ++ rest }) t → Steps p.tables e below (T.setTop g) t := by
  obtain ⟨v, _, ⟨T', L', k', n'⟩, -, X', ⟨L, hQ, l1, l2, l3⟩, st⟩ := X.specialBack hx hy1 hown (mvT hZ w1) (mvT hZ w5) (mvT hZ w6) hy (backOf (W := W) hM hZ w6 w3 hf hl) hg hsize (Steps.refl _) hlen hstack hW hd (fun _ _ => ⟨has, eT, hc, hs⟩)
  dsimp only [Pt.U, Pt.locs, Pt.cells, Pt.slots] at X' l1 l2 l3 st hQ
  subst l1 l2 l3
  exact ⟨v, T', L, X', hQ, fun t k => st.trans k⟩
/-- the end of a walk -/
theorem own_fin (X : Stand p l e R s m args below meth c T locs cells slots) (hlk : meth.locks = false) {v : Option Value} (hv : meth.sig.returnType = none → v = none) {Q : Option Value → Heap → List Loc → Prop} {cs sl : Nat} (eT : T.heap = h) (hQ : Q v h locs) (hc : cells ≤ cs) (hs : slots ≤ sl) {S : State}
    (k : ∀ fs : List Frame, (∀ (f : JFrame) (acts : List Action), f.method = m → f.locked = none → f.entered = [] → (doReturn e (T.setTop f) acts v).1 = T.setFrames fs) → Steps p.tables e below S (T.setFrames fs)) : Go p e below (Ret s Q cs sl) S := by
  obtain ⟨fs, hr, hrun, hended, hW, hsame⟩ := X.leave hv hlk
  refine ⟨_, _, k fs hr, hrun, hended, _, _, rfl, ?_, ⟨_, rfl⟩, hW, hsame.mono hc hs⟩
  have q : (T.setFrames fs).heap = h := eT
  rw [q]; exact hQ
theorem own_retO (X : Stand p l e R s m args below meth c T locs cells slots) (hx : p.tables.exec = Jvm.exec) (hlk : meth.locks = false) {pc : Nat} {Ls : Array Slot} {w : Value} {t : FieldType} {i : Instr} {rest : List Value} (hret : meth.sig.returnType = some t) (hn : narrow t w = w)
    (hi : (i = .ireturn ∧ (t = .int ∨ t = .boolean ∨ t = .byte ∨ t = .char ∨ t = .short) ∧ ∃ z, w = .int z) ∨ (i = .lreturn ∧ t = .long ∧ ∃ z, w = .long z) ∨ (i = .dreturn ∧ t = .double ∧ ∃ z, w = .double z) ∨ (i = .freturn ∧ t = .float ∧ ∃ z, w = .float z) ∨ (i = .areturn ∧ t.isReference = true ∧ w.isRef = true))
    (hd : decode c.code pc = .ok (i, 1)) {Q : Option Value → Heap → List Loc → Prop} {cs sl : Nat} (eT : T.heap = h) (hQ : Q (some w) h locs) (hc : cells ≤ cs) (hs : slots ≤ sl) : Go p e below (Ret s Q cs sl) (T.setTop (mkF m pc Ls (w :: rest))) :=
  own_fin X hlk (fun q => by rw [hret] at q; cases q) eT hQ hc hs fun fs hr => retOut X hx hret hn hi hd hr
theorem own_retI (X : Stand p l e R s m args below meth c T locs cells slots) (hx : p.tables.exec = Jvm.exec) (hlk : meth.locks = false) {pc : Nat} {Ls : Array Slot} {w : Int32} {rest : List Value} (hret : meth.sig.returnType = some .int)
    (hd : decode c.code pc = .ok (.ireturn, 1)) {Q : Option Value → Heap → List Loc → Prop} {cs sl : Nat} (eT : T.heap = h) (hQ : Q (some (.int w)) h locs) (hc : cells ≤ cs) (hs : slots ≤ sl) : Go p e below (Ret s Q cs sl) (T.setTop (mkF m pc Ls (.int w :: rest))) :=
  own_retO X hx hlk hret rfl (Or.inl ⟨rfl, Or.inl rfl, _, rfl⟩) hd eT hQ hc hs
theorem own_retJ (X : Stand p l e R s m args below meth c T locs cells slots) (hx : p.tables.exec = Jvm.exec) (hlk : meth.locks = false) {pc : Nat} {Ls : Array Slot} {w : Int64} {rest : List Value} (hret : meth.sig.returnType = some .long)
    (hd : decode c.code pc = .ok (.lreturn, 1)) {Q : Option Value → Heap → List Loc → Prop} {cs sl : Nat} (eT : T.heap = h) (hQ : Q (some (.long w)) h locs) (hc : cells ≤ cs) (hs : slots ≤ sl) : Go p e below (Ret s Q cs sl) (T.setTop (mkF m pc Ls (.long w :: rest))) :=
  own_retO X hx hlk hret rfl (Or.inr (Or.inl ⟨rfl, rfl, _, rfl⟩)) hd eT hQ hc hs
theorem own_retA (X : Stand p l e R s m args below meth c T locs cells slots) (hx : p.tables.exec = Jvm.exec) (hlk : meth.locks = false) {pc : Nat} {Ls : Array Slot} {w : Value} {t : FieldType} {rest : List Value} (hret : meth.sig.returnType = some t) (hn : narrow t w = w) (ht : t.isReference = true) (hw : w.isRef = true)
    (hd : decode c.code pc = .ok (.areturn, 1)) {Q : Option Value → Heap → List Loc → Prop} {cs sl : Nat} (eT : T.heap = h) (hQ : Q (some w) h locs) (hc : cells ≤ cs) (hs : slots ≤ sl) : Go p e below (Ret s Q cs sl) (T.setTop (mkF m pc Ls (w :: rest))) :=
  own_retO X hx hlk hret hn (Or.inr (Or.inr (Or.inr (Or.inr ⟨rfl, ht, hw⟩)))) hd eT hQ hc hs
theorem own_retN (X : Stand p l e R s m args below meth c T locs cells slots) (hx : p.tables.exec = Jvm.exec) (hlk : meth.locks = false) {pc : Nat} {Ls : Array Slot} {z : Int32} {t : FieldType} {rest : List Value} (hret : meth.sig.returnType = some t) (ht : t = .boolean ∨ t = .byte ∨ t = .char ∨ t = .short)
    (hd : decode c.code pc = .ok (.ireturn, 1)) {Q : Option Value → Heap → List Loc → Prop} {cs sl : Nat} (eT : T.heap = h) (hQ : Q (some (.int (nar t z))) h locs) (hc : cells ≤ cs) (hs : slots ≤ sl) : Go p e below (Ret s Q cs sl) (T.setTop (mkF m pc Ls (.int z :: rest))) :=
  own_fin X hlk (fun q => by rw [hret] at q; cases q) eT hQ hc hs fun fs hr => retN X hx hret ht hd hr
theorem own_retV (X : Stand p l e R s m args below meth c T locs cells slots) (hx : p.tables.exec = Jvm.exec) (hlk : meth.locks = false) {pc : Nat} {Ls : Array Slot} (hret : meth.sig.returnType = none)
    (hd : decode c.code pc = .ok (.return_, 1)) {Q : Option Value → Heap → List Loc → Prop} {cs sl : Nat} (eT : T.heap = h) (hQ : Q none h locs) (hc : cells ≤ cs) (hs : slots ≤ sl) : Go p e below (Ret s Q cs sl) (T.setTop (mkF m pc Ls [])) :=
  own_fin X hlk (fun _ => rfl) eT hQ hc hs fun fs hr => X.returnOut hx hret hd hr
theorem own_Llt {x y : Int64} (h : x < y) : ifCond.holds .lt (lcmpW x y) = true ∧ ifCond.holds .ge (lcmpW x y) = false := by
  have q := (lc_lt x y).mpr h; rw [← lcW] at q; exact ⟨(if0 _ _).trans (tlt q).1, (if0 _ _).trans (tlt q).2.1⟩
theorem own_Lnlt {x y : Int64} (h : ¬ x < y) : ifCond.holds .lt (lcmpW x y) = false ∧ ifCond.holds .ge (lcmpW x y) = true := by
  have q : ¬ lcmpW x y < 0 := fun r => h ((lc_lt x y).mp (by rw [← lcW]; exact r)); exact ⟨(if0 _ _).trans (flt q).1, (if0 _ _).trans (flt q).2.1⟩
theorem own_Lgt {x y : Int64} (h : y < x) : ifCond.holds .gt (lcmpW x y) = true ∧ ifCond.holds .le (lcmpW x y) = false := by
  have q := (lc_gt x y).mpr h; rw [← lcW] at q; exact ⟨(if0 _ _).trans (tlt q).2.2.1, (if0 _ _).trans (tlt q).2.2.2⟩
theorem own_Lngt {x y : Int64} (h : ¬ y < x) : ifCond.holds .gt (lcmpW x y) = false ∧ ifCond.holds .le (lcmpW x y) = true := by
  have q : ¬ 0 < lcmpW x y := fun r => h ((lc_gt x y).mp (by rw [← lcW]; exact r)); exact ⟨(if0 _ _).trans (flt q).2.2.1, (if0 _ _).trans (flt q).2.2.2⟩
theorem own_Leq {x y : Int64} (h : x = y) : ifCond.holds .eq (lcmpW x y) = true ∧ ifCond.holds .ne (lcmpW x y) = false := by
  have q := (lc_eq x y).mpr h; rw [← lcW] at q; exact ⟨(if0 _ _).trans (teq q).1, (if0 _ _).trans (teq q).2⟩
theorem own_Lne {x y : Int64} (h : ¬ x = y) : ifCond.holds .eq (lcmpW x y) = false ∧ ifCond.holds .ne (lcmpW x y) = true := by
  have q : ¬ lcmpW x y = 0 := fun r => h ((lc_eq x y).mp (by rw [← lcW]; exact r)); exact ⟨(if0 _ _).trans (feq q).1, (if0 _ _).trans (feq q).2⟩
theorem own_Ext.refl (h : Heap) : Ext h h := ⟨Nat.le_refl _, fun _ _ q => q⟩
theorem own_Ext.trans {h1 h2 h3 : Heap} (a : Ext h1 h2) (b : Ext h2 h3) : Ext h1 h3 := ⟨Nat.le_trans a.1 b.1, fun x c q => b.2 x c (a.2 x c q)⟩
theorem own_Ext.wr {h0 : Heap} {a : Addr} {sl : Nat} {v : Value} (E : Ext h0 h) (W : Wr h h' a sl v) (q : h0.size ≤ a) : Ext h0 h' := by
  have K : Keep h0 h [] := ⟨E.1, fun x c r _ => E.2 x c r, fun x c r => ⟨c, E.2 x c r, rfl, rfl, rfl⟩⟩
  have K' := K.wr W (Or.inr q)
  exact ⟨K'.1, fun x c r => K'.2.1 x c r (fun z => nomatch z)⟩
theorem own_Ext.keep {h0 : Heap} {ws : List Addr} (E : Ext h0 h) (K : Keep h h' ws) (q : ∀ x ∈ ws, h0.size ≤ x) : Ext h0 h' := by
  refine ⟨Nat.le_trans E.1 K.1, fun x c r => K.2.1 x c (E.2 x c r) fun z => ?_⟩
  have lt : x < h0.size := (Array.getElem?_eq_some_iff.mp r).1
  exact absurd (q x z) (Nat.not_le_of_lt lt)
theorem own_fldI {t : Term} {x : Addr} {C n d : String} {k : Int32} (ev : t.eval args s none [] s = some (.ref x)) (hq : (Jvm.Cond.eq (.field t C n d) (.int k)).value args s none s [] = some true) : Fld s s.heap x C n d (.int k) := by
  obtain ⟨u, v, e1, e2, k1, k2⟩ := cmp_v (Or.inl hq)
  obtain rfl : v = .int k := (Option.some.inj (e2.symm.trans (Term.int_eval k)))
  obtain ⟨z, rfl⟩ := k2
  obtain rfl : z = k := gotT (Jvm.Cond.eq_ints e1 (Term.int_eval k)) hq
  exact Fld.start ((fld_at ev).symm.trans e1)
theorem own_fldJ {t : Term} {x : Addr} {C n d : String} {k : Int64} (ev : t.eval args s none [] s = some (.ref x)) (hq : (Jvm.Cond.eq (.field t C n d) (.long k)).value args s none s [] = some true) : Fld s s.heap x C n d (.long k) := by
  obtain ⟨u, v, e1, e2, k1, k2⟩ := cmp_v (Or.inl hq)
  obtain rfl : v = .long k := (Option.some.inj (e2.symm.trans (long_at k)))
  obtain ⟨z, rfl⟩ := k2
  obtain rfl : z = k := gotT (eq_L e1 (long_at k)) hq
  exact Fld.start ((fld_at ev).symm.trans e1)
theorem own_len0 {t : Term} {x : Addr} {ty : FieldType} {cl : Cell} (ev : t.eval args s none [] s = some (.ref x)) (A : Arr s s.heap x cl ty) (hq : (Jvm.Cond.eq (.length t) (.int 0)).value args s none s [] = some true) : True := trivial
end OwnKit
/-- the sheet's i-th word -/
theorem ww {Z : State} {a0 : Array Value} (hw : ∀ d ∈ tables_1, d.before a0 Z = true) (i : Nat) {d : Jvm.Cond} (h : tables_1[i]? = some d) : d.before a0 Z = true := hw _ (List.mem_of_getElem? h)
theorem own_rem {x : Int32} {n : Int32} (hn : 0 < n.toInt) : 0 ≤ ((x &&& 2147483647) % n).toInt ∧ ((x &&& 2147483647) % n).toInt < n.toInt := by
  have e1 : (x &&& 2147483647).toInt = x.toInt % 2 ^ 31 := Jvm.Kit.i32_mask x 2147483647 (k := 31) (by decide) (by decide)
  have e2 := Jvm.Kit.i32_rem_nonneg (x := (x &&& 2147483647)) (y := n) (by omega)
  rw [e2]
  exact ⟨Int.emod_nonneg _ (by omega), Int.emod_lt_of_pos _ hn⟩
theorem own_i32 {x : Int32} {k : Int} (h : x.toInt = k) : x = Int32.ofInt k := by
  rw [← h, Int32.ofInt_toInt]
theorem own_lremE (x y : Int64) : x - (x / y) * y = x % y := Int64.toInt_inj.mp ((Jvm.Kit.i64_rem x y).trans (Int64.toInt_mod x y).symm)
theorem own_rem6 (x : Int32) : (x &&& 2147483647) % 6 = 0 ∨ (x &&& 2147483647) % 6 = 1 ∨ (x &&& 2147483647) % 6 = 2 ∨ (x &&& 2147483647) % 6 = 3 ∨ (x &&& 2147483647) % 6 = 4 ∨ (x &&& 2147483647) % 6 = 5 := by
  have h := own_rem (x := x) (n := 6) (by decide)
  generalize (x &&& 2147483647) % 6 = k at *
  have e : (6 : Int32).toInt = 6 := by decide
  have q : k.toInt = 0 ∨ k.toInt = 1 ∨ k.toInt = 2 ∨ k.toInt = 3 ∨ k.toInt = 4 ∨ k.toInt = 5 := by omega
  rcases q with q | q | q | q | q | q
  · exact Or.inl (own_i32 q)
  · exact Or.inr (Or.inl (own_i32 q))
  · exact Or.inr (Or.inr (Or.inl (own_i32 q)))
  · exact Or.inr (Or.inr (Or.inr (Or.inl (own_i32 q))))
  · exact Or.inr (Or.inr (Or.inr (Or.inr (Or.inl (own_i32 q)))))
  · exact Or.inr (Or.inr (Or.inr (Or.inr (Or.inr (own_i32 q)))))
/-- what stands at the start: the statics, their classes and fields -/
def SF (Z : State) (w_YEARS : Addr) (w_DAYS : Addr) (w_WEEKS : Addr) (w_MONTHS : Addr) (w_MINUTES : Addr) (w_HOURS : Addr) : Prop := Sta Z Z.heap "com/example/timed_rbac/timedrbac/policy/Calendar" "YEARS" "Lcom/example/timed_rbac/timedrbac/policy/Calendar;" (.ref w_YEARS) ∧ Exa Z Z.heap w_YEARS "com/example/timed_rbac/timedrbac/policy/Calendar" ∧ Fld Z Z.heap w_YEARS "com/example/timed_rbac/timedrbac/policy/Calendar" "minutes" "J" (.long (0 : Int64)) ∧ Sta Z Z.heap "com/example/timed_rbac/timedrbac/policy/Calendar" "DAYS" "Lcom/example/timed_rbac/timedrbac/policy/Calendar;" (.ref w_DAYS) ∧ Exa Z Z.heap w_DAYS "com/example/timed_rbac/timedrbac/policy/Calendar" ∧ Fld Z Z.heap w_DAYS "com/example/timed_rbac/timedrbac/policy/Calendar" "minutes" "J" (.long (1440 : Int64)) ∧ Sta Z Z.heap "com/example/timed_rbac/timedrbac/policy/Calendar" "WEEKS" "Lcom/example/timed_rbac/timedrbac/policy/Calendar;" (.ref w_WEEKS) ∧ Exa Z Z.heap w_WEEKS "com/example/timed_rbac/timedrbac/policy/Calendar" ∧ Fld Z Z.heap w_WEEKS "com/example/timed_rbac/timedrbac/policy/Calendar" "minutes" "J" (.long (10080 : Int64)) ∧ Sta Z Z.heap "com/example/timed_rbac/timedrbac/policy/Calendar" "MONTHS" "Lcom/example/timed_rbac/timedrbac/policy/Calendar;" (.ref w_MONTHS) ∧ Exa Z Z.heap w_MONTHS "com/example/timed_rbac/timedrbac/policy/Calendar" ∧ Fld Z Z.heap w_MONTHS "com/example/timed_rbac/timedrbac/policy/Calendar" "minutes" "J" (.long (0 : Int64)) ∧ Sta Z Z.heap "com/example/timed_rbac/timedrbac/policy/Calendar" "MINUTES" "Lcom/example/timed_rbac/timedrbac/policy/Calendar;" (.ref w_MINUTES) ∧ Exa Z Z.heap w_MINUTES "com/example/timed_rbac/timedrbac/policy/Calendar" ∧ Fld Z Z.heap w_MINUTES "com/example/timed_rbac/timedrbac/policy/Calendar" "minutes" "J" (.long (1 : Int64)) ∧ Sta Z Z.heap "com/example/timed_rbac/timedrbac/policy/Calendar" "HOURS" "Lcom/example/timed_rbac/timedrbac/policy/Calendar;" (.ref w_HOURS) ∧ Exa Z Z.heap w_HOURS "com/example/timed_rbac/timedrbac/policy/Calendar" ∧ Fld Z Z.heap w_HOURS "com/example/timed_rbac/timedrbac/policy/Calendar" "minutes" "J" (.long (60 : Int64))
def fixF (M : Int64) : Int32 := if 0 < M then 1 else 0
def minF (k : Int32) : Int64 := if k = 2 then 10080 else if k = 3 then 1440 else if k = 4 then 60 else 1
theorem d1_0 : decode method_2_code 0 = .ok (.iload_n 0, 1) := by decide +kernel
theorem d1_1 : decode method_2_code 1 = .ok (.ifCond .ne 7, 3) := by decide +kernel
theorem d1_4 : decode method_2_code 4 = .ok (.getstatic 7, 3) := by decide +kernel
theorem d1_7 : decode method_2_code 7 = .ok (.areturn, 1) := by decide +kernel
theorem d1_8 : decode method_2_code 8 = .ok (.iload_n 0, 1) := by decide +kernel
theorem d1_9 : decode method_2_code 9 = .ok (.iconst 1, 1) := by decide +kernel
theorem d1_10 : decode method_2_code 10 = .ok (.if_icmp .ne 7, 3) := by decide +kernel
theorem d1_13 : decode method_2_code 13 = .ok (.getstatic 13, 3) := by decide +kernel
theorem d1_16 : decode method_2_code 16 = .ok (.areturn, 1) := by decide +kernel
theorem d1_17 : decode method_2_code 17 = .ok (.iload_n 0, 1) := by decide +kernel
theorem d1_18 : decode method_2_code 18 = .ok (.iconst 2, 1) := by decide +kernel
theorem d1_19 : decode method_2_code 19 = .ok (.if_icmp .ne 7, 3) := by decide +kernel
theorem d1_22 : decode method_2_code 22 = .ok (.getstatic 16, 3) := by decide +kernel
theorem d1_25 : decode method_2_code 25 = .ok (.areturn, 1) := by decide +kernel
theorem d1_26 : decode method_2_code 26 = .ok (.iload_n 0, 1) := by decide +kernel
theorem d1_27 : decode method_2_code 27 = .ok (.iconst 3, 1) := by decide +kernel
theorem d1_28 : decode method_2_code 28 = .ok (.if_icmp .ne 7, 3) := by decide +kernel
theorem d1_31 : decode method_2_code 31 = .ok (.getstatic 19, 3) := by decide +kernel
theorem d1_34 : decode method_2_code 34 = .ok (.areturn, 1) := by decide +kernel
theorem d1_35 : decode method_2_code 35 = .ok (.iload_n 0, 1) := by decide +kernel
theorem d1_36 : decode method_2_code 36 = .ok (.iconst 4, 1) := by decide +kernel
theorem d1_37 : decode method_2_code 37 = .ok (.if_icmp .ne 7, 3) := by decide +kernel
theorem d1_40 : decode method_2_code 40 = .ok (.getstatic 22, 3) := by decide +kernel
theorem d1_43 : decode method_2_code 43 = .ok (.areturn, 1) := by decide +kernel
theorem d1_44 : decode method_2_code 44 = .ok (.getstatic 25, 3) := by decide +kernel
theorem d1_47 : decode method_2_code 47 = .ok (.areturn, 1) := by decide +kernel
theorem pn_792068 : plainName "com/example/timed_rbac/timedrbac/policy/CalendarHasFixedLengthPinLaw" = true := by first | (simp [plainName, overriddenIn]; done) | decide +kernel
theorem ef_rm1 (m : MethodId) (x0 : Int32) : entryFrame m #[(.int x0)] 1 = mkF m 0 #[.val (.int x0)] [] := by first | (simp [entryFrame, mkF, argsToLocals, Value.category]; done) | rfl
set_option maxRecDepth 65536 in
set_option maxHeartbeats 400000000 in
theorem rm1 (l : Launch) (Z : State) (a0 : Array Value) (hw : ∀ d ∈ tables_1, d.before a0 Z = true) (ws : List Jvm.Cond) (w_YEARS : Addr) (w_DAYS : Addr) (w_WEEKS : Addr) (w_MONTHS : Addr) (w_MINUTES : Addr) (w_HOURS : Addr) (hS : SF Z w_YEARS w_DAYS w_WEEKS w_MONTHS w_MINUTES w_HOURS) (p1 : Int32) (h0 : Heap) (O0 : Ext Z.heap h0)  :
    Con l Z h0 (⟨"com/example/timed_rbac/timedrbac/policy/CalendarHasFixedLengthPinLaw", "pick", "(I)Lcom/example/timed_rbac/timedrbac/policy/Calendar;"⟩ : MethodName) method_2_code 1 (some (.object "com/example/timed_rbac/timedrbac/policy/Calendar")) ws ({ frames := 0, cells := 0, slots := 0, locals := 0 } : Room) #[(.int p1)] (fun v h L => (∃ w, v = some (.ref w) ∧ (p1 = 0 → w = w_YEARS) ∧ (p1 = 1 → w = w_MONTHS) ∧ (p1 = 2 → w = w_WEEKS) ∧ (p1 = 3 → w = w_DAYS) ∧ (p1 = 4 → w = w_HOURS) ∧ (p1 = 5 → w = w_MINUTES)) ∧ Fr Z.heap.size L ∧ h = h0) := by
  obtain ⟨S_YEARS, E_YEARS, F_YEARS_minutes, S_DAYS, E_DAYS, F_DAYS_minutes, S_WEEKS, E_WEEKS, F_WEEKS_minutes, S_MONTHS, E_MONTHS, F_MONTHS_minutes, S_MINUTES, E_MINUTES, F_MINUTES_minutes, S_HOURS, E_HOURS, F_HOURS_minutes⟩ := id hS
  refine own_con (plainFor_of_name pn_792068) ?_
  intro p e s m below meth c T0 X0 hx hby hml hown hnm hret hlk hZ e0
  have hown : s.vm.findClass "com/example/timed_rbac/timedrbac/policy/CalendarHasFixedLengthPinLaw" = some m.cls := hown
  have N0 := Fr.nil Z.heap.size
  refine Go.st (S' := T0.setTop (mkF m 0 #[.val (.int p1)] [])) (fun _ k => castTop (ef_rm1 m p1) k) ?_
  refine Go.st (S' := T0.setTop (mkF m 1 #[.val (.int p1)] [(.int p1)])) (fun _ k => XS.iloadN X0.here hx rfl (hb hby d1_0) rfl k) ?_
  by_cases hc1 : p1 = (0 : Int32)
  · refine Go.st (S' := T0.setTop (mkF m 4 #[.val (.int p1)] [])) (fun _ k => XS.ifNo X0.here hx rfl (hb hby d1_1) rfl ((if0 _ _).trans (teq hc1).2) k) ?_
    obtain ⟨T1, X1, e1, st1⟩ := getS2 X0 hx hZ hown (host := "") (Or.inl (ww hw 5 rfl)) Via.refl e0 (S_YEARS.ext O0) (g := (mkF m 4 #[.val (.int p1)] [])) rfl (hb hby d1_4)
    refine Go.st (S' := T1.setTop (mkF m 7 #[.val (.int p1)] [(.ref w_YEARS)])) st1 ?_
    exact own_retA X1 hx hlk hret rfl rfl rfl (hb hby d1_7) e1 ⟨⟨_, rfl, fun _ => rfl, fun q => absurd (hc1.symm.trans q) (by decide), fun q => absurd (hc1.symm.trans q) (by decide), fun q => absurd (hc1.symm.trans q) (by decide), fun q => absurd (hc1.symm.trans q) (by decide), fun q => absurd (hc1.symm.trans q) (by decide)⟩, N0, rfl⟩ (by decide) (by decide)
  · refine Go.st (S' := T0.setTop (mkF m 8 #[.val (.int p1)] [])) (fun _ k => XS.ifYes X0.here hx rfl (pc0 := 1) (pc' := 8) rfl (hb hby d1_1) rfl ((if0 _ _).trans (feq hc1).2) (by decide) (by decide) k) ?_
    refine Go.st (S' := T0.setTop (mkF m 9 #[.val (.int p1)] [(.int p1)])) (fun _ k => XS.iloadN X0.here hx rfl (hb hby d1_8) rfl k) ?_
    refine Go.st (S' := T0.setTop (mkF m 10 #[.val (.int p1)] [(.int (1 : Int32)), (.int p1)])) (fun _ k => XS.iconst X0.here hx rfl (hb hby d1_9) k) ?_
    by_cases hc10 : p1 = (1 : Int32)
    · refine Go.st (S' := T0.setTop (mkF m 13 #[.val (.int p1)] [])) (fun _ k => XS.icmpNo X0.here hx rfl (hb hby d1_10) rfl (teq hc10).2 k) ?_
      obtain ⟨T2, X2, e2, st2⟩ := getS2 X0 hx hZ hown (host := "") (Or.inl (ww hw 30 rfl)) Via.refl e0 (S_MONTHS.ext O0) (g := (mkF m 13 #[.val (.int p1)] [])) rfl (hb hby d1_13)
      refine Go.st (S' := T2.setTop (mkF m 16 #[.val (.int p1)] [(.ref w_MONTHS)])) st2 ?_
      exact own_retA X2 hx hlk hret rfl rfl rfl (hb hby d1_16) e2 ⟨⟨_, rfl, fun q => absurd (hc10.symm.trans q) (by decide), fun _ => rfl, fun q => absurd (hc10.symm.trans q) (by decide), fun q => absurd (hc10.symm.trans q) (by decide), fun q => absurd (hc10.symm.trans q) (by decide), fun q => absurd (hc10.symm.trans q) (by decide)⟩, N0, rfl⟩ (by decide) (by decide)
    · refine Go.st (S' := T0.setTop (mkF m 17 #[.val (.int p1)] [])) (fun _ k => XS.icmpYes X0.here hx rfl (pc0 := 10) (pc' := 17) rfl (hb hby d1_10) rfl (feq hc10).2 (by decide) (by decide) k) ?_
      refine Go.st (S' := T0.setTop (mkF m 18 #[.val (.int p1)] [(.int p1)])) (fun _ k => XS.iloadN X0.here hx rfl (hb hby d1_17) rfl k) ?_
      refine Go.st (S' := T0.setTop (mkF m 19 #[.val (.int p1)] [(.int (2 : Int32)), (.int p1)])) (fun _ k => XS.iconst X0.here hx rfl (hb hby d1_18) k) ?_
      by_cases hc19 : p1 = (2 : Int32)
      · refine Go.st (S' := T0.setTop (mkF m 22 #[.val (.int p1)] [])) (fun _ k => XS.icmpNo X0.here hx rfl (hb hby d1_19) rfl (teq hc19).2 k) ?_
        obtain ⟨T3, X3, e3, st3⟩ := getS2 X0 hx hZ hown (host := "") (Or.inl (ww hw 27 rfl)) Via.refl e0 (S_WEEKS.ext O0) (g := (mkF m 22 #[.val (.int p1)] [])) rfl (hb hby d1_22)
        refine Go.st (S' := T3.setTop (mkF m 25 #[.val (.int p1)] [(.ref w_WEEKS)])) st3 ?_
        exact own_retA X3 hx hlk hret rfl rfl rfl (hb hby d1_25) e3 ⟨⟨_, rfl, fun q => absurd (hc19.symm.trans q) (by decide), fun q => absurd (hc19.symm.trans q) (by decide), fun _ => rfl, fun q => absurd (hc19.symm.trans q) (by decide), fun q => absurd (hc19.symm.trans q) (by decide), fun q => absurd (hc19.symm.trans q) (by decide)⟩, N0, rfl⟩ (by decide) (by decide)
      · refine Go.st (S' := T0.setTop (mkF m 26 #[.val (.int p1)] [])) (fun _ k => XS.icmpYes X0.here hx rfl (pc0 := 19) (pc' := 26) rfl (hb hby d1_19) rfl (feq hc19).2 (by decide) (by decide) k) ?_
        refine Go.st (S' := T0.setTop (mkF m 27 #[.val (.int p1)] [(.int p1)])) (fun _ k => XS.iloadN X0.here hx rfl (hb hby d1_26) rfl k) ?_
        refine Go.st (S' := T0.setTop (mkF m 28 #[.val (.int p1)] [(.int (3 : Int32)), (.int p1)])) (fun _ k => XS.iconst X0.here hx rfl (hb hby d1_27) k) ?_
        by_cases hc28 : p1 = (3 : Int32)
        · refine Go.st (S' := T0.setTop (mkF m 31 #[.val (.int p1)] [])) (fun _ k => XS.icmpNo X0.here hx rfl (hb hby d1_28) rfl (teq hc28).2 k) ?_
          obtain ⟨T4, X4, e4, st4⟩ := getS2 X0 hx hZ hown (host := "") (Or.inl (ww hw 15 rfl)) Via.refl e0 (S_DAYS.ext O0) (g := (mkF m 31 #[.val (.int p1)] [])) rfl (hb hby d1_31)
          refine Go.st (S' := T4.setTop (mkF m 34 #[.val (.int p1)] [(.ref w_DAYS)])) st4 ?_
          exact own_retA X4 hx hlk hret rfl rfl rfl (hb hby d1_34) e4 ⟨⟨_, rfl, fun q => absurd (hc28.symm.trans q) (by decide), fun q => absurd (hc28.symm.trans q) (by decide), fun q => absurd (hc28.symm.trans q) (by decide), fun _ => rfl, fun q => absurd (hc28.symm.trans q) (by decide), fun q => absurd (hc28.symm.trans q) (by decide)⟩, N0, rfl⟩ (by decide) (by decide)
        · refine Go.st (S' := T0.setTop (mkF m 35 #[.val (.int p1)] [])) (fun _ k => XS.icmpYes X0.here hx rfl (pc0 := 28) (pc' := 35) rfl (hb hby d1_28) rfl (feq hc28).2 (by decide) (by decide) k) ?_
          refine Go.st (S' := T0.setTop (mkF m 36 #[.val (.int p1)] [(.int p1)])) (fun _ k => XS.iloadN X0.here hx rfl (hb hby d1_35) rfl k) ?_
          refine Go.st (S' := T0.setTop (mkF m 37 #[.val (.int p1)] [(.int (4 : Int32)), (.int p1)])) (fun _ k => XS.iconst X0.here hx rfl (hb hby d1_36) k) ?_
          by_cases hc37 : p1 = (4 : Int32)
          · refine Go.st (S' := T0.setTop (mkF m 40 #[.val (.int p1)] [])) (fun _ k => XS.icmpNo X0.here hx rfl (hb hby d1_37) rfl (teq hc37).2 k) ?_
            obtain ⟨T5, X5, e5, st5⟩ := getS2 X0 hx hZ hown (host := "") (Or.inl (ww hw 34 rfl)) Via.refl e0 (S_HOURS.ext O0) (g := (mkF m 40 #[.val (.int p1)] [])) rfl (hb hby d1_40)
            refine Go.st (S' := T5.setTop (mkF m 43 #[.val (.int p1)] [(.ref w_HOURS)])) st5 ?_
            exact own_retA X5 hx hlk hret rfl rfl rfl (hb hby d1_43) e5 ⟨⟨_, rfl, fun q => absurd (hc37.symm.trans q) (by decide), fun q => absurd (hc37.symm.trans q) (by decide), fun q => absurd (hc37.symm.trans q) (by decide), fun q => absurd (hc37.symm.trans q) (by decide), fun _ => rfl, fun q => absurd (hc37.symm.trans q) (by decide)⟩, N0, rfl⟩ (by decide) (by decide)
          · refine Go.st (S' := T0.setTop (mkF m 44 #[.val (.int p1)] [])) (fun _ k => XS.icmpYes X0.here hx rfl (pc0 := 37) (pc' := 44) rfl (hb hby d1_37) rfl (feq hc37).2 (by decide) (by decide) k) ?_
            obtain ⟨T6, X6, e6, st6⟩ := getS2 X0 hx hZ hown (host := "") (Or.inl (ww hw 32 rfl)) Via.refl e0 (S_MINUTES.ext O0) (g := (mkF m 44 #[.val (.int p1)] [])) rfl (hb hby d1_44)
            refine Go.st (S' := T6.setTop (mkF m 47 #[.val (.int p1)] [(.ref w_MINUTES)])) st6 ?_
            exact own_retA X6 hx hlk hret rfl rfl rfl (hb hby d1_47) e6 ⟨⟨_, rfl, fun q => absurd q hc1, fun q => absurd q hc10, fun q => absurd q hc19, fun q => absurd q hc28, fun q => absurd q hc37, fun _ => rfl⟩, N0, rfl⟩ (by decide) (by decide)
theorem d2_0 : decode prog_30_method_5_code 0 = .ok (.aload_n 0, 1) := by decide +kernel
theorem d2_1 : decode prog_30_method_5_code 1 = .ok (.getfield 48, 3) := by decide +kernel
theorem d2_4 : decode prog_30_method_5_code 4 = .ok (.lconst 0, 1) := by decide +kernel
theorem d2_5 : decode prog_30_method_5_code 5 = .ok (.lcmp, 1) := by decide +kernel
theorem d2_6 : decode prog_30_method_5_code 6 = .ok (.ifCond .le 7, 3) := by decide +kernel
theorem d2_9 : decode prog_30_method_5_code 9 = .ok (.iconst 1, 1) := by decide +kernel
theorem d2_10 : decode prog_30_method_5_code 10 = .ok (.goto 4, 3) := by decide +kernel
theorem d2_13 : decode prog_30_method_5_code 13 = .ok (.iconst 0, 1) := by decide +kernel
theorem d2_14 : decode prog_30_method_5_code 14 = .ok (.ireturn, 1) := by decide +kernel
theorem pn_117376 : plainName "com/example/timed_rbac/timedrbac/policy/Calendar" = true := by first | (simp [plainName, overriddenIn]; done) | decide +kernel
theorem ef_rm2 (m : MethodId) (x0 : Addr) : entryFrame m #[(.ref x0)] 1 = mkF m 0 #[.val (.ref x0)] [] := by first | (simp [entryFrame, mkF, argsToLocals, Value.category]; done) | rfl
set_option maxRecDepth 65536 in
set_option maxHeartbeats 400000000 in
theorem rm2 (l : Launch) (Z : State) (a0 : Array Value) (hw : ∀ d ∈ tables_1, d.before a0 Z = true) (ws : List Jvm.Cond) (w_YEARS : Addr) (w_DAYS : Addr) (w_WEEKS : Addr) (w_MONTHS : Addr) (w_MINUTES : Addr) (w_HOURS : Addr) (hS : SF Z w_YEARS w_DAYS w_WEEKS w_MONTHS w_MINUTES w_HOURS) (a1 : Addr) (M : Int64) (r : Int32) (hr : fixF M = r) (h0 : Heap) (O0 : Ext Z.heap h0) (FM : Fld Z h0 a1 "com/example/timed_rbac/timedrbac/policy/Calendar" "minutes" "J" (.long M)) :
    Con l Z h0 (⟨"com/example/timed_rbac/timedrbac/policy/Calendar", "hasFixedLength", "()Z"⟩ : MethodName) prog_30_method_5_code 1 (some .boolean) ws ({ frames := 0, cells := 0, slots := 0, locals := 0 } : Room) #[(.ref a1)] (fun v h L => v = some (.int r) ∧ Fr Z.heap.size L ∧ h = h0) := by
  obtain ⟨S_YEARS, E_YEARS, F_YEARS_minutes, S_DAYS, E_DAYS, F_DAYS_minutes, S_WEEKS, E_WEEKS, F_WEEKS_minutes, S_MONTHS, E_MONTHS, F_MONTHS_minutes, S_MINUTES, E_MINUTES, F_MINUTES_minutes, S_HOURS, E_HOURS, F_HOURS_minutes⟩ := id hS
  refine own_con (plainFor_of_name pn_117376) ?_
  intro p e s m below meth c T0 X0 hx hby hml hown hnm hret hlk hZ e0
  have hown : s.vm.findClass "com/example/timed_rbac/timedrbac/policy/Calendar" = some m.cls := hown
  have N0 := Fr.nil Z.heap.size
  refine Go.st (S' := T0.setTop (mkF m 0 #[.val (.ref a1)] [])) (fun _ k => castTop (ef_rm2 m a1) k) ?_
  refine Go.st (S' := T0.setTop (mkF m 1 #[.val (.ref a1)] [(.ref a1)])) (fun _ k => XS.aloadN X0.here hx rfl (hb hby d2_0) rfl rfl k) ?_
  obtain ⟨T7, X7, e7, st7⟩ := getF X0 hx hZ hown (host := "") (Or.inl (ww hw 13 rfl)) Via.refl e0 FM (g := (mkF m 1 #[.val (.ref a1)] [(.ref a1)])) rfl rfl (hb hby d2_1)
  refine Go.st (S' := T7.setTop (mkF m 4 #[.val (.ref a1)] [(.long M)])) st7 ?_
  refine Go.st (S' := T7.setTop (mkF m 5 #[.val (.ref a1)] [(.long (0 : Int64)), (.long M)])) (fun _ k => XS.lconst X7.here hx rfl (hb hby d2_4) k) ?_
  refine Go.st (S' := T7.setTop (mkF m 6 #[.val (.ref a1)] [(.int (lcmpW M (0 : Int64)))])) (fun _ k => XS.lcmp X7.here hx rfl (hb hby d2_5) rfl k) ?_
  by_cases hc6 : (0 : Int64) < M
  · refine Go.st (S' := T7.setTop (mkF m 9 #[.val (.ref a1)] [])) (fun _ k => XS.ifNo X7.here hx rfl (hb hby d2_6) rfl (own_Lgt hc6).2 k) ?_
    refine Go.st (S' := T7.setTop (mkF m 10 #[.val (.ref a1)] [(.int (1 : Int32))])) (fun _ k => XS.iconst X7.here hx rfl (hb hby d2_9) k) ?_
    refine Go.st (S' := T7.setTop (mkF m 14 #[.val (.ref a1)] [(.int (1 : Int32))])) (fun _ k => XS.goto X7.here hx rfl (pc0 := 10) (pc' := 14) rfl (hb hby d2_10) (by decide) (by decide) k) ?_
    exact own_retN X7 hx hlk hret (by simp) (hb hby d2_14) e7 ⟨by simp [← hr, fixF, hc6, nar], N0, rfl⟩ (by decide) (by decide)
  · refine Go.st (S' := T7.setTop (mkF m 13 #[.val (.ref a1)] [])) (fun _ k => XS.ifYes X7.here hx rfl (pc0 := 6) (pc' := 13) rfl (hb hby d2_6) rfl (own_Lngt hc6).2 (by decide) (by decide) k) ?_
    refine Go.st (S' := T7.setTop (mkF m 14 #[.val (.ref a1)] [(.int (0 : Int32))])) (fun _ k => XS.iconst X7.here hx rfl (hb hby d2_13) k) ?_
    exact own_retN X7 hx hlk hret (by simp) (hb hby d2_14) e7 ⟨by simp [← hr, fixF, hc6, nar], N0, rfl⟩ (by decide) (by decide)
theorem d3_0 : decode prog_30_method_6_code 0 = .ok (.aload_n 0, 1) := by decide +kernel
theorem d3_1 : decode prog_30_method_6_code 1 = .ok (.invokevirtual 79, 3) := by decide +kernel
theorem d3_4 : decode prog_30_method_6_code 4 = .ok (.ifCond .ne 20, 3) := by decide +kernel
theorem d3_24 : decode prog_30_method_6_code 24 = .ok (.aload_n 0, 1) := by decide +kernel
theorem d3_25 : decode prog_30_method_6_code 25 = .ok (.getfield 48, 3) := by decide +kernel
theorem d3_28 : decode prog_30_method_6_code 28 = .ok (.lreturn, 1) := by decide +kernel
theorem pd_428490 : parseMethodDescriptor "()Z" = some ⟨[], some .boolean⟩ := by decide +kernel
theorem ef_rm3 (m : MethodId) (x0 : Addr) : entryFrame m #[(.ref x0)] 1 = mkF m 0 #[.val (.ref x0)] [] := by first | (simp [entryFrame, mkF, argsToLocals, Value.category]; done) | rfl
set_option maxRecDepth 65536 in
set_option maxHeartbeats 400000000 in
theorem rm3 (l : Launch) (Z : State) (a0 : Array Value) (hw : ∀ d ∈ tables_1, d.before a0 Z = true) (ws : List Jvm.Cond) (w_YEARS : Addr) (w_DAYS : Addr) (w_WEEKS : Addr) (w_MONTHS : Addr) (w_MINUTES : Addr) (w_HOURS : Addr) (hS : SF Z w_YEARS w_DAYS w_WEEKS w_MONTHS w_MINUTES w_HOURS) (a1 : Addr) (M : Int64) (hM : 0 < M) (h0 : Heap) (O0 : Ext Z.heap h0) (EA : Exa Z h0 a1 "com/example/timed_rbac/timedrbac/policy/Calendar") (FM : Fld Z h0 a1 "com/example/timed_rbac/timedrbac/policy/Calendar" "minutes" "J" (.long M)) :
    Con l Z h0 (⟨"com/example/timed_rbac/timedrbac/policy/Calendar", "minutes", "()J"⟩ : MethodName) prog_30_method_6_code 1 (some .long) ws ({ frames := 1, cells := 0, slots := 0, locals := 12 } : Room) #[(.ref a1)] (fun v h L => v = some (.long M) ∧ Fr Z.heap.size L ∧ h = h0) := by
  obtain ⟨S_YEARS, E_YEARS, F_YEARS_minutes, S_DAYS, E_DAYS, F_DAYS_minutes, S_WEEKS, E_WEEKS, F_WEEKS_minutes, S_MONTHS, E_MONTHS, F_MONTHS_minutes, S_MINUTES, E_MINUTES, F_MINUTES_minutes, S_HOURS, E_HOURS, F_HOURS_minutes⟩ := id hS
  refine own_con (plainFor_of_name pn_117376) ?_
  intro p e s m below meth c T0 X0 hx hby hml hown hnm hret hlk hZ e0
  have hown : s.vm.findClass "com/example/timed_rbac/timedrbac/policy/Calendar" = some m.cls := hown
  have N0 := Fr.nil Z.heap.size
  refine Go.st (S' := T0.setTop (mkF m 0 #[.val (.ref a1)] [])) (fun _ k => castTop (ef_rm3 m a1) k) ?_
  refine Go.st (S' := T0.setTop (mkF m 1 #[.val (.ref a1)] [(.ref a1)])) (fun _ k => XS.aloadN X0.here hx rfl (hb hby d3_0) rfl rfl k) ?_
  obtain ⟨_, T8, L8, X8, ⟨rfl, Nq8, eq8⟩, st8⟩ := own_callV X0 hx hZ hown (ww hw 22 rfl) (ww hw 9 rfl) (notFace_of_selects (args := #[]) (mvT hZ (ww hw 11 rfl))) (ww hw 11 rfl) (ww hw 10 rfl) (ww hw 6 rfl) (ww hw 12 rfl) (by decide) e0 EA (rm2 l Z a0 hw [] w_YEARS w_DAYS w_WEEKS w_MONTHS w_MINUTES w_HOURS hS a1 M (1 : Int32) (by simp [fixF, hM]) h0 O0 FM) 0 (by decide) (by decide) (by decide) (by decide) (g := (mkF m 1 #[.val (.ref a1)] [(.ref a1)])) rfl (by rw [hml]; rfl) [] [] rfl (lenOf pd_428490 rfl) rfl (by show 2 * 0 + _ ≤ _; exact Nat.le_of_eq rfl) (hb hby d3_1)
  have N8 := Fr.app N0 Nq8
  refine Go.st (S' := T8.setTop (mkF m 4 #[.val (.ref a1)] [(.int (1 : Int32))])) st8 ?_
  refine Go.st (S' := T8.setTop (mkF m 24 #[.val (.ref a1)] [])) (fun _ k => XS.ifYes X8.here hx rfl (pc0 := 4) (pc' := 24) rfl (hb hby d3_4) rfl ((if0 _ _).trans (feq (by decide)).2) (by decide) (by decide) k) ?_
  refine Go.st (S' := T8.setTop (mkF m 25 #[.val (.ref a1)] [(.ref a1)])) (fun _ k => XS.aloadN X8.here hx rfl (hb hby d3_24) rfl rfl k) ?_
  obtain ⟨T9, X9, e9, st9⟩ := getF X8 hx hZ hown (host := "") (Or.inl (ww hw 13 rfl)) Via.refl eq8 FM (g := (mkF m 25 #[.val (.ref a1)] [(.ref a1)])) rfl rfl (hb hby d3_25)
  refine Go.st (S' := T9.setTop (mkF m 28 #[.val (.ref a1)] [(.long M)])) st9 ?_
  exact own_retJ X9 hx hlk hret (hb hby d3_28) e9 ⟨rfl, N8, rfl⟩ (by decide) (by decide)
theorem d4_0 : decode method_3_code 0 = .ok (.iload_n 0, 1) := by decide +kernel
theorem d4_1 : decode method_3_code 1 = .ok (.iconst 2, 1) := by decide +kernel
theorem d4_2 : decode method_3_code 2 = .ok (.if_icmp .ne 7, 3) := by decide +kernel
theorem d4_5 : decode method_3_code 5 = .ok (.ldc2_w 28, 3) := by decide +kernel
theorem d4_8 : decode method_3_code 8 = .ok (.lreturn, 1) := by decide +kernel
theorem d4_9 : decode method_3_code 9 = .ok (.iload_n 0, 1) := by decide +kernel
theorem d4_10 : decode method_3_code 10 = .ok (.iconst 3, 1) := by decide +kernel
theorem d4_11 : decode method_3_code 11 = .ok (.if_icmp .ne 7, 3) := by decide +kernel
theorem d4_14 : decode method_3_code 14 = .ok (.ldc2_w 30, 3) := by decide +kernel
theorem d4_17 : decode method_3_code 17 = .ok (.lreturn, 1) := by decide +kernel
theorem d4_18 : decode method_3_code 18 = .ok (.iload_n 0, 1) := by decide +kernel
theorem d4_19 : decode method_3_code 19 = .ok (.iconst 4, 1) := by decide +kernel
theorem d4_20 : decode method_3_code 20 = .ok (.if_icmp .ne 7, 3) := by decide +kernel
theorem d4_23 : decode method_3_code 23 = .ok (.ldc2_w 32, 3) := by decide +kernel
theorem d4_26 : decode method_3_code 26 = .ok (.lreturn, 1) := by decide +kernel
theorem d4_27 : decode method_3_code 27 = .ok (.lconst 1, 1) := by decide +kernel
theorem d4_28 : decode method_3_code 28 = .ok (.lreturn, 1) := by decide +kernel
theorem ef_rm4 (m : MethodId) (x0 : Int32) : entryFrame m #[(.int x0)] 1 = mkF m 0 #[.val (.int x0)] [] := by first | (simp [entryFrame, mkF, argsToLocals, Value.category]; done) | rfl
set_option maxRecDepth 65536 in
set_option maxHeartbeats 400000000 in
theorem rm4 (l : Launch) (Z : State) (a0 : Array Value) (hw : ∀ d ∈ tables_1, d.before a0 Z = true) (ws : List Jvm.Cond) (w_YEARS : Addr) (w_DAYS : Addr) (w_WEEKS : Addr) (w_MONTHS : Addr) (w_MINUTES : Addr) (w_HOURS : Addr) (hS : SF Z w_YEARS w_DAYS w_WEEKS w_MONTHS w_MINUTES w_HOURS) (p1 : Int32) (r : Int64) (hr : minF p1 = r) (h0 : Heap) (O0 : Ext Z.heap h0)  :
    Con l Z h0 (⟨"com/example/timed_rbac/timedrbac/policy/CalendarHasFixedLengthPinLaw", "expectedMinutes", "(I)J"⟩ : MethodName) method_3_code 1 (some .long) ws ({ frames := 0, cells := 0, slots := 0, locals := 0 } : Room) #[(.int p1)] (fun v h L => v = some (.long r) ∧ Fr Z.heap.size L ∧ h = h0) := by
  obtain ⟨S_YEARS, E_YEARS, F_YEARS_minutes, S_DAYS, E_DAYS, F_DAYS_minutes, S_WEEKS, E_WEEKS, F_WEEKS_minutes, S_MONTHS, E_MONTHS, F_MONTHS_minutes, S_MINUTES, E_MINUTES, F_MINUTES_minutes, S_HOURS, E_HOURS, F_HOURS_minutes⟩ := id hS
  refine own_con (plainFor_of_name pn_792068) ?_
  intro p e s m below meth c T0 X0 hx hby hml hown hnm hret hlk hZ e0
  have hown : s.vm.findClass "com/example/timed_rbac/timedrbac/policy/CalendarHasFixedLengthPinLaw" = some m.cls := hown
  have N0 := Fr.nil Z.heap.size
  refine Go.st (S' := T0.setTop (mkF m 0 #[.val (.int p1)] [])) (fun _ k => castTop (ef_rm4 m p1) k) ?_
  refine Go.st (S' := T0.setTop (mkF m 1 #[.val (.int p1)] [(.int p1)])) (fun _ k => XS.iloadN X0.here hx rfl (hb hby d4_0) rfl k) ?_
  refine Go.st (S' := T0.setTop (mkF m 2 #[.val (.int p1)] [(.int (2 : Int32)), (.int p1)])) (fun _ k => XS.iconst X0.here hx rfl (hb hby d4_1) k) ?_
  by_cases hc2 : p1 = (2 : Int32)
  · refine Go.st (S' := T0.setTop (mkF m 5 #[.val (.int p1)] [])) (fun _ k => XS.icmpNo X0.here hx rfl (hb hby d4_2) rfl (teq hc2).2 k) ?_
    refine Go.st (S' := T0.setTop (mkF m 8 #[.val (.int p1)] [(.long (10080 : Int64))])) (X0.ldc2Long hx hown (mvT hZ (ww hw 29 rfl)) (g := (mkF m 5 #[.val (.int p1)] [])) rfl (hb hby d4_5)) ?_
    exact own_retJ X0 hx hlk hret (hb hby d4_8) e0 ⟨by rw [show r = (10080 : Int64) by rw [← hr]; simp +decide [minF, hc2]], N0, rfl⟩ (by decide) (by decide)
  · refine Go.st (S' := T0.setTop (mkF m 9 #[.val (.int p1)] [])) (fun _ k => XS.icmpYes X0.here hx rfl (pc0 := 2) (pc' := 9) rfl (hb hby d4_2) rfl (feq hc2).2 (by decide) (by decide) k) ?_
    refine Go.st (S' := T0.setTop (mkF m 10 #[.val (.int p1)] [(.int p1)])) (fun _ k => XS.iloadN X0.here hx rfl (hb hby d4_9) rfl k) ?_
    refine Go.st (S' := T0.setTop (mkF m 11 #[.val (.int p1)] [(.int (3 : Int32)), (.int p1)])) (fun _ k => XS.iconst X0.here hx rfl (hb hby d4_10) k) ?_
    by_cases hc11 : p1 = (3 : Int32)
    · refine Go.st (S' := T0.setTop (mkF m 14 #[.val (.int p1)] [])) (fun _ k => XS.icmpNo X0.here hx rfl (hb hby d4_11) rfl (teq hc11).2 k) ?_
      refine Go.st (S' := T0.setTop (mkF m 17 #[.val (.int p1)] [(.long (1440 : Int64))])) (X0.ldc2Long hx hown (mvT hZ (ww hw 26 rfl)) (g := (mkF m 14 #[.val (.int p1)] [])) rfl (hb hby d4_14)) ?_
      exact own_retJ X0 hx hlk hret (hb hby d4_17) e0 ⟨by rw [show r = (1440 : Int64) by rw [← hr]; simp +decide [minF, hc2, hc11]], N0, rfl⟩ (by decide) (by decide)
    · refine Go.st (S' := T0.setTop (mkF m 18 #[.val (.int p1)] [])) (fun _ k => XS.icmpYes X0.here hx rfl (pc0 := 11) (pc' := 18) rfl (hb hby d4_11) rfl (feq hc11).2 (by decide) (by decide) k) ?_
      refine Go.st (S' := T0.setTop (mkF m 19 #[.val (.int p1)] [(.int p1)])) (fun _ k => XS.iloadN X0.here hx rfl (hb hby d4_18) rfl k) ?_
      refine Go.st (S' := T0.setTop (mkF m 20 #[.val (.int p1)] [(.int (4 : Int32)), (.int p1)])) (fun _ k => XS.iconst X0.here hx rfl (hb hby d4_19) k) ?_
      by_cases hc20 : p1 = (4 : Int32)
      · refine Go.st (S' := T0.setTop (mkF m 23 #[.val (.int p1)] [])) (fun _ k => XS.icmpNo X0.here hx rfl (hb hby d4_20) rfl (teq hc20).2 k) ?_
        refine Go.st (S' := T0.setTop (mkF m 26 #[.val (.int p1)] [(.long (60 : Int64))])) (X0.ldc2Long hx hown (mvT hZ (ww hw 36 rfl)) (g := (mkF m 23 #[.val (.int p1)] [])) rfl (hb hby d4_23)) ?_
        exact own_retJ X0 hx hlk hret (hb hby d4_26) e0 ⟨by rw [show r = (60 : Int64) by rw [← hr]; simp +decide [minF, hc2, hc11, hc20]], N0, rfl⟩ (by decide) (by decide)
      · refine Go.st (S' := T0.setTop (mkF m 27 #[.val (.int p1)] [])) (fun _ k => XS.icmpYes X0.here hx rfl (pc0 := 20) (pc' := 27) rfl (hb hby d4_20) rfl (feq hc20).2 (by decide) (by decide) k) ?_
        refine Go.st (S' := T0.setTop (mkF m 28 #[.val (.int p1)] [(.long (1 : Int64))])) (fun _ k => XS.lconst X0.here hx rfl (hb hby d4_27) k) ?_
        exact own_retJ X0 hx hlk hret (hb hby d4_28) e0 ⟨by rw [show r = (1 : Int64) by rw [← hr]; simp +decide [minF, hc2, hc11, hc20]], N0, rfl⟩ (by decide) (by decide)
theorem pd_237865 : parseMethodDescriptor "(I)Lcom/example/timed_rbac/timedrbac/policy/Calendar;" = some ⟨[.int], some (.object "com/example/timed_rbac/timedrbac/policy/Calendar")⟩ := by decide +kernel
theorem pd_428474 : parseMethodDescriptor "()J" = some ⟨[], some .long⟩ := by decide +kernel
theorem pd_674829 : parseMethodDescriptor "(I)J" = some ⟨[.int], some .long⟩ := by decide +kernel
theorem ef_rm0 (m : MethodId) (x0 : Int32) : entryFrame m #[(.int x0)] maxLocals = mkF m 0 #[.val (.int x0), .unset, .unset, .unset, .unset, .unset, .unset] [] := by first | (simp [entryFrame, mkF, argsToLocals, Value.category, maxLocals]; done) | rfl
set_option maxRecDepth 65536 in
set_option maxHeartbeats 400000000 in
theorem rm0 (l : Launch) (Z : State) (a0 : Array Value) (hw : ∀ d ∈ tables_1, d.before a0 Z = true) (ws : List Jvm.Cond) (w_YEARS : Addr) (w_DAYS : Addr) (w_WEEKS : Addr) (w_MONTHS : Addr) (w_MINUTES : Addr) (w_HOURS : Addr) (hS : SF Z w_YEARS w_DAYS w_WEEKS w_MONTHS w_MINUTES w_HOURS) (p1 : Int32) (h0 : Heap) (O0 : Ext Z.heap h0)  :
    Con l Z h0 x code maxLocals ret ws room_1 #[(.int p1)] (fun v h L => v = some (.int 1) ∧ Fr Z.heap.size L) := by
  obtain ⟨S_YEARS, E_YEARS, F_YEARS_minutes, S_DAYS, E_DAYS, F_DAYS_minutes, S_WEEKS, E_WEEKS, F_WEEKS_minutes, S_MONTHS, E_MONTHS, F_MONTHS_minutes, S_MINUTES, E_MINUTES, F_MINUTES_minutes, S_HOURS, E_HOURS, F_HOURS_minutes⟩ := id hS
  refine own_con (plainFor_of_name pn_792068) ?_
  intro p e s m below meth c T0 X0 hx hby hml hown hnm hret hlk hZ e0
  have hown : s.vm.findClass "com/example/timed_rbac/timedrbac/policy/CalendarHasFixedLengthPinLaw" = some m.cls := hown
  have N0 := Fr.nil Z.heap.size
  refine Go.st (S' := T0.setTop (mkF m 0 #[.val (.int p1), .unset, .unset, .unset, .unset, .unset, .unset] [])) (fun _ k => castTop (ef_rm0 m p1) k) ?_
  refine Go.st (S' := T0.setTop (mkF m 1 #[.val (.int p1), .unset, .unset, .unset, .unset, .unset, .unset] [(.int p1)])) (fun _ k => XS.iloadN X0.here hx rfl (hb hby at_0) rfl k) ?_
  refine Go.st (S' := T0.setTop (mkF m 3 #[.val (.int p1), .unset, .unset, .unset, .unset, .unset, .unset] [(.int (2147483647 : Int32)), (.int p1)])) (X0.ldcInt hx hown (mvT hZ (ww hw 0 rfl)) (g := (mkF m 1 #[.val (.int p1), .unset, .unset, .unset, .unset, .unset, .unset] [(.int p1)])) rfl (hb hby at_1)) ?_
  refine Go.st (S' := T0.setTop (mkF m 4 #[.val (.int p1), .unset, .unset, .unset, .unset, .unset, .unset] [(.int (p1 &&& (2147483647 : Int32)))])) (fun _ k => XS.iand X0.here hx rfl (hb hby at_3) rfl k) ?_
  refine Go.st (S' := T0.setTop (mkF m 6 #[.val (.int p1), .unset, .unset, .unset, .unset, .unset, .unset] [(.int (6 : Int32)), (.int (p1 &&& (2147483647 : Int32)))])) (fun _ k => XS.bipush X0.here hx rfl (hb hby at_4) k) ?_
  refine Go.st (S' := T0.setTop (mkF m 7 #[.val (.int p1), .unset, .unset, .unset, .unset, .unset, .unset] [(.int ((p1 &&& (2147483647 : Int32)) % (6 : Int32)))])) (fun _ k => iremM X0 hx rfl (hb hby at_6) rfl (by decide) k) ?_
  rcases own_rem6 p1 with hk | hk | hk | hk | hk | hk
  · refine Go.st (S' := T0.setTop (mkF m 7 #[.val (.int p1), .unset, .unset, .unset, .unset, .unset, .unset] [(.int (0 : Int32))])) (fun _ k => by rw [hk]; exact k) ?_
    refine Go.st (S' := T0.setTop (mkF m 8 #[.val (.int p1), .val (.int (0 : Int32)), .unset, .unset, .unset, .unset, .unset] [])) (fun _ k => XS.istoreN X0.here hx rfl (hb hby at_7) rfl (l' := #[.val (.int p1), .val (.int (0 : Int32)), .unset, .unset, .unset, .unset, .unset]) rfl k) ?_
    refine Go.st (S' := T0.setTop (mkF m 9 #[.val (.int p1), .val (.int (0 : Int32)), .unset, .unset, .unset, .unset, .unset] [(.int (0 : Int32))])) (fun _ k => XS.iloadN X0.here hx rfl (hb hby at_8) rfl k) ?_
    obtain ⟨_, T10, L10, X10, ⟨⟨w10, rfl, m010, m110, m210, m310, m410, m510⟩, Nq10, eq10⟩, st10⟩ := own_callS X0 hx hZ hown (ww hw 1 rfl) (ww hw 2 rfl) (ww hw 3 rfl) (ww hw 4 rfl) (by decide) e0 (rm1 l Z a0 hw [] w_YEARS w_DAYS w_WEEKS w_MONTHS w_MINUTES w_HOURS hS (0 : Int32) h0 O0) 0 (by decide) (by decide) (by decide) (by decide) (g := (mkF m 9 #[.val (.int p1), .val (.int (0 : Int32)), .unset, .unset, .unset, .unset, .unset] [(.int (0 : Int32))])) rfl (by rw [hml]; rfl) [(.int (0 : Int32))] [] rfl (lenOf pd_237865 rfl) rfl (by show 2 * 0 + _ ≤ _; exact Nat.le_of_eq rfl) (hb hby at_9)
    have N10 := Fr.app N0 Nq10
    obtain rfl : w_YEARS = w10 := (m010 rfl).symm
    refine Go.st (S' := T10.setTop (mkF m 12 #[.val (.int p1), .val (.int (0 : Int32)), .unset, .unset, .unset, .unset, .unset] [(.ref w_YEARS)])) st10 ?_
    refine Go.st (S' := T10.setTop (mkF m 13 #[.val (.int p1), .val (.int (0 : Int32)), .val (.ref w_YEARS), .unset, .unset, .unset, .unset] [])) (fun _ k => XS.astoreN X10.here hx rfl (hb hby at_12) rfl rfl (l' := #[.val (.int p1), .val (.int (0 : Int32)), .val (.ref w_YEARS), .unset, .unset, .unset, .unset]) rfl k) ?_
    refine Go.st (S' := T10.setTop (mkF m 14 #[.val (.int p1), .val (.int (0 : Int32)), .val (.ref w_YEARS), .unset, .unset, .unset, .unset] [(.ref w_YEARS)])) (fun _ k => XS.aloadN X10.here hx rfl (hb hby at_13) rfl rfl k) ?_
    obtain ⟨_, T11, L11, X11, ⟨rfl, Nq11, eq11⟩, st11⟩ := own_callV X10 hx hZ hown (ww hw 8 rfl) (ww hw 9 rfl) (notFace_of_selects (args := #[]) (mvT hZ (ww hw 11 rfl))) (ww hw 11 rfl) (ww hw 10 rfl) (ww hw 6 rfl) (ww hw 12 rfl) (by decide) eq10 (E_YEARS.ext O0) (rm2 l Z a0 hw [] w_YEARS w_DAYS w_WEEKS w_MONTHS w_MINUTES w_HOURS hS w_YEARS (0 : Int64) (0 : Int32) (by decide) h0 O0 (F_YEARS_minutes.ext O0)) 0 (by decide) (by decide) (by decide) (by decide) (g := (mkF m 14 #[.val (.int p1), .val (.int (0 : Int32)), .val (.ref w_YEARS), .unset, .unset, .unset, .unset] [(.ref w_YEARS)])) rfl (by rw [hml]; rfl) [] [] rfl (lenOf pd_428490 rfl) rfl (by show 2 * 0 + _ ≤ _; exact Nat.le_of_eq rfl) (hb hby at_14)
    have N11 := Fr.app N10 Nq11
    refine Go.st (S' := T11.setTop (mkF m 17 #[.val (.int p1), .val (.int (0 : Int32)), .val (.ref w_YEARS), .unset, .unset, .unset, .unset] [(.int (0 : Int32))])) st11 ?_
    refine Go.st (S' := T11.setTop (mkF m 18 #[.val (.int p1), .val (.int (0 : Int32)), .val (.ref w_YEARS), .val (.int (0 : Int32)), .unset, .unset, .unset] [])) (fun _ k => XS.istoreN X11.here hx rfl (hb hby at_17) rfl (l' := #[.val (.int p1), .val (.int (0 : Int32)), .val (.ref w_YEARS), .val (.int (0 : Int32)), .unset, .unset, .unset]) rfl k) ?_
    refine Go.st (S' := T11.setTop (mkF m 19 #[.val (.int p1), .val (.int (0 : Int32)), .val (.ref w_YEARS), .val (.int (0 : Int32)), .unset, .unset, .unset] [(.int (0 : Int32))])) (fun _ k => XS.iloadN X11.here hx rfl (hb hby at_18) rfl k) ?_
    refine Go.st (S' := T11.setTop (mkF m 20 #[.val (.int p1), .val (.int (0 : Int32)), .val (.ref w_YEARS), .val (.int (0 : Int32)), .unset, .unset, .unset] [(.int (2 : Int32)), (.int (0 : Int32))])) (fun _ k => XS.iconst X11.here hx rfl (hb hby at_19) k) ?_
    refine Go.st (S' := T11.setTop (mkF m 27 #[.val (.int p1), .val (.int (0 : Int32)), .val (.ref w_YEARS), .val (.int (0 : Int32)), .unset, .unset, .unset] [])) (fun _ k => XS.icmpYes X11.here hx rfl (pc0 := 20) (pc' := 27) rfl (hb hby at_20) rfl (tlt (by decide)).1 (by decide) (by decide) k) ?_
    refine Go.st (S' := T11.setTop (mkF m 28 #[.val (.int p1), .val (.int (0 : Int32)), .val (.ref w_YEARS), .val (.int (0 : Int32)), .unset, .unset, .unset] [(.int (0 : Int32))])) (fun _ k => XS.iconst X11.here hx rfl (hb hby at_27) k) ?_
    refine Go.st (S' := T11.setTop (mkF m 30 #[.val (.int p1), .val (.int (0 : Int32)), .val (.ref w_YEARS), .val (.int (0 : Int32)), .val (.int (0 : Int32)), .unset, .unset] [])) (fun _ k => XS.istore X11.here hx rfl (hb hby at_28) rfl (l' := #[.val (.int p1), .val (.int (0 : Int32)), .val (.ref w_YEARS), .val (.int (0 : Int32)), .val (.int (0 : Int32)), .unset, .unset]) rfl k) ?_
    refine Go.st (S' := T11.setTop (mkF m 31 #[.val (.int p1), .val (.int (0 : Int32)), .val (.ref w_YEARS), .val (.int (0 : Int32)), .val (.int (0 : Int32)), .unset, .unset] [(.int (0 : Int32))])) (fun _ k => XS.iloadN X11.here hx rfl (hb hby at_30) rfl k) ?_
    refine Go.st (S' := T11.setTop (mkF m 33 #[.val (.int p1), .val (.int (0 : Int32)), .val (.ref w_YEARS), .val (.int (0 : Int32)), .val (.int (0 : Int32)), .unset, .unset] [(.int (0 : Int32)), (.int (0 : Int32))])) (fun _ k => XS.iload X11.here hx rfl (hb hby at_31) rfl k) ?_
    refine Go.st (S' := T11.setTop (mkF m 38 #[.val (.int p1), .val (.int (0 : Int32)), .val (.ref w_YEARS), .val (.int (0 : Int32)), .val (.int (0 : Int32)), .unset, .unset] [])) (fun _ k => XS.icmpYes X11.here hx rfl (pc0 := 33) (pc' := 38) rfl (hb hby at_33) rfl (teq (by decide)).1 (by decide) (by decide) k) ?_
    refine Go.st (S' := T11.setTop (mkF m 39 #[.val (.int p1), .val (.int (0 : Int32)), .val (.ref w_YEARS), .val (.int (0 : Int32)), .val (.int (0 : Int32)), .unset, .unset] [(.int (0 : Int32))])) (fun _ k => XS.iloadN X11.here hx rfl (hb hby at_38) rfl k) ?_
    refine Go.st (S' := T11.setTop (mkF m 42 #[.val (.int p1), .val (.int (0 : Int32)), .val (.ref w_YEARS), .val (.int (0 : Int32)), .val (.int (0 : Int32)), .unset, .unset] [])) (fun _ k => XS.ifNo X11.here hx rfl (hb hby at_39) rfl ((if0 _ _).trans (teq (by decide)).2) k) ?_
    refine Go.st (S' := T11.setTop (mkF m 43 #[.val (.int p1), .val (.int (0 : Int32)), .val (.ref w_YEARS), .val (.int (0 : Int32)), .val (.int (0 : Int32)), .unset, .unset] [(.int (1 : Int32))])) (fun _ k => XS.iconst X11.here hx rfl (hb hby at_42) k) ?_
    exact own_retN X11 hx hlk hret (by simp) (hb hby at_43) eq11 ⟨rfl, N11⟩ (by decide) (by decide)
  · refine Go.st (S' := T0.setTop (mkF m 7 #[.val (.int p1), .unset, .unset, .unset, .unset, .unset, .unset] [(.int (1 : Int32))])) (fun _ k => by rw [hk]; exact k) ?_
    refine Go.st (S' := T0.setTop (mkF m 8 #[.val (.int p1), .val (.int (1 : Int32)), .unset, .unset, .unset, .unset, .unset] [])) (fun _ k => XS.istoreN X0.here hx rfl (hb hby at_7) rfl (l' := #[.val (.int p1), .val (.int (1 : Int32)), .unset, .unset, .unset, .unset, .unset]) rfl k) ?_
    refine Go.st (S' := T0.setTop (mkF m 9 #[.val (.int p1), .val (.int (1 : Int32)), .unset, .unset, .unset, .unset, .unset] [(.int (1 : Int32))])) (fun _ k => XS.iloadN X0.here hx rfl (hb hby at_8) rfl k) ?_
    obtain ⟨_, T12, L12, X12, ⟨⟨w12, rfl, m012, m112, m212, m312, m412, m512⟩, Nq12, eq12⟩, st12⟩ := own_callS X0 hx hZ hown (ww hw 1 rfl) (ww hw 2 rfl) (ww hw 3 rfl) (ww hw 4 rfl) (by decide) e0 (rm1 l Z a0 hw [] w_YEARS w_DAYS w_WEEKS w_MONTHS w_MINUTES w_HOURS hS (1 : Int32) h0 O0) 0 (by decide) (by decide) (by decide) (by decide) (g := (mkF m 9 #[.val (.int p1), .val (.int (1 : Int32)), .unset, .unset, .unset, .unset, .unset] [(.int (1 : Int32))])) rfl (by rw [hml]; rfl) [(.int (1 : Int32))] [] rfl (lenOf pd_237865 rfl) rfl (by show 2 * 0 + _ ≤ _; exact Nat.le_of_eq rfl) (hb hby at_9)
    have N12 := Fr.app N0 Nq12
    obtain rfl : w_MONTHS = w12 := (m112 rfl).symm
    refine Go.st (S' := T12.setTop (mkF m 12 #[.val (.int p1), .val (.int (1 : Int32)), .unset, .unset, .unset, .unset, .unset] [(.ref w_MONTHS)])) st12 ?_
    refine Go.st (S' := T12.setTop (mkF m 13 #[.val (.int p1), .val (.int (1 : Int32)), .val (.ref w_MONTHS), .unset, .unset, .unset, .unset] [])) (fun _ k => XS.astoreN X12.here hx rfl (hb hby at_12) rfl rfl (l' := #[.val (.int p1), .val (.int (1 : Int32)), .val (.ref w_MONTHS), .unset, .unset, .unset, .unset]) rfl k) ?_
    refine Go.st (S' := T12.setTop (mkF m 14 #[.val (.int p1), .val (.int (1 : Int32)), .val (.ref w_MONTHS), .unset, .unset, .unset, .unset] [(.ref w_MONTHS)])) (fun _ k => XS.aloadN X12.here hx rfl (hb hby at_13) rfl rfl k) ?_
    obtain ⟨_, T13, L13, X13, ⟨rfl, Nq13, eq13⟩, st13⟩ := own_callV X12 hx hZ hown (ww hw 8 rfl) (ww hw 9 rfl) (notFace_of_selects (args := #[]) (mvT hZ (ww hw 11 rfl))) (ww hw 11 rfl) (ww hw 10 rfl) (ww hw 6 rfl) (ww hw 12 rfl) (by decide) eq12 (E_MONTHS.ext O0) (rm2 l Z a0 hw [] w_YEARS w_DAYS w_WEEKS w_MONTHS w_MINUTES w_HOURS hS w_MONTHS (0 : Int64) (0 : Int32) (by decide) h0 O0 (F_MONTHS_minutes.ext O0)) 0 (by decide) (by decide) (by decide) (by decide) (g := (mkF m 14 #[.val (.int p1), .val (.int (1 : Int32)), .val (.ref w_MONTHS), .unset, .unset, .unset, .unset] [(.ref w_MONTHS)])) rfl (by rw [hml]; rfl) [] [] rfl (lenOf pd_428490 rfl) rfl (by show 2 * 0 + _ ≤ _; exact Nat.le_of_eq rfl) (hb hby at_14)
    have N13 := Fr.app N12 Nq13
    refine Go.st (S' := T13.setTop (mkF m 17 #[.val (.int p1), .val (.int (1 : Int32)), .val (.ref w_MONTHS), .unset, .unset, .unset, .unset] [(.int (0 : Int32))])) st13 ?_
    refine Go.st (S' := T13.setTop (mkF m 18 #[.val (.int p1), .val (.int (1 : Int32)), .val (.ref w_MONTHS), .val (.int (0 : Int32)), .unset, .unset, .unset] [])) (fun _ k => XS.istoreN X13.here hx rfl (hb hby at_17) rfl (l' := #[.val (.int p1), .val (.int (1 : Int32)), .val (.ref w_MONTHS), .val (.int (0 : Int32)), .unset, .unset, .unset]) rfl k) ?_
    refine Go.st (S' := T13.setTop (mkF m 19 #[.val (.int p1), .val (.int (1 : Int32)), .val (.ref w_MONTHS), .val (.int (0 : Int32)), .unset, .unset, .unset] [(.int (1 : Int32))])) (fun _ k => XS.iloadN X13.here hx rfl (hb hby at_18) rfl k) ?_
    refine Go.st (S' := T13.setTop (mkF m 20 #[.val (.int p1), .val (.int (1 : Int32)), .val (.ref w_MONTHS), .val (.int (0 : Int32)), .unset, .unset, .unset] [(.int (2 : Int32)), (.int (1 : Int32))])) (fun _ k => XS.iconst X13.here hx rfl (hb hby at_19) k) ?_
    refine Go.st (S' := T13.setTop (mkF m 27 #[.val (.int p1), .val (.int (1 : Int32)), .val (.ref w_MONTHS), .val (.int (0 : Int32)), .unset, .unset, .unset] [])) (fun _ k => XS.icmpYes X13.here hx rfl (pc0 := 20) (pc' := 27) rfl (hb hby at_20) rfl (tlt (by decide)).1 (by decide) (by decide) k) ?_
    refine Go.st (S' := T13.setTop (mkF m 28 #[.val (.int p1), .val (.int (1 : Int32)), .val (.ref w_MONTHS), .val (.int (0 : Int32)), .unset, .unset, .unset] [(.int (0 : Int32))])) (fun _ k => XS.iconst X13.here hx rfl (hb hby at_27) k) ?_
    refine Go.st (S' := T13.setTop (mkF m 30 #[.val (.int p1), .val (.int (1 : Int32)), .val (.ref w_MONTHS), .val (.int (0 : Int32)), .val (.int (0 : Int32)), .unset, .unset] [])) (fun _ k => XS.istore X13.here hx rfl (hb hby at_28) rfl (l' := #[.val (.int p1), .val (.int (1 : Int32)), .val (.ref w_MONTHS), .val (.int (0 : Int32)), .val (.int (0 : Int32)), .unset, .unset]) rfl k) ?_
    refine Go.st (S' := T13.setTop (mkF m 31 #[.val (.int p1), .val (.int (1 : Int32)), .val (.ref w_MONTHS), .val (.int (0 : Int32)), .val (.int (0 : Int32)), .unset, .unset] [(.int (0 : Int32))])) (fun _ k => XS.iloadN X13.here hx rfl (hb hby at_30) rfl k) ?_
    refine Go.st (S' := T13.setTop (mkF m 33 #[.val (.int p1), .val (.int (1 : Int32)), .val (.ref w_MONTHS), .val (.int (0 : Int32)), .val (.int (0 : Int32)), .unset, .unset] [(.int (0 : Int32)), (.int (0 : Int32))])) (fun _ k => XS.iload X13.here hx rfl (hb hby at_31) rfl k) ?_
    refine Go.st (S' := T13.setTop (mkF m 38 #[.val (.int p1), .val (.int (1 : Int32)), .val (.ref w_MONTHS), .val (.int (0 : Int32)), .val (.int (0 : Int32)), .unset, .unset] [])) (fun _ k => XS.icmpYes X13.here hx rfl (pc0 := 33) (pc' := 38) rfl (hb hby at_33) rfl (teq (by decide)).1 (by decide) (by decide) k) ?_
    refine Go.st (S' := T13.setTop (mkF m 39 #[.val (.int p1), .val (.int (1 : Int32)), .val (.ref w_MONTHS), .val (.int (0 : Int32)), .val (.int (0 : Int32)), .unset, .unset] [(.int (0 : Int32))])) (fun _ k => XS.iloadN X13.here hx rfl (hb hby at_38) rfl k) ?_
    refine Go.st (S' := T13.setTop (mkF m 42 #[.val (.int p1), .val (.int (1 : Int32)), .val (.ref w_MONTHS), .val (.int (0 : Int32)), .val (.int (0 : Int32)), .unset, .unset] [])) (fun _ k => XS.ifNo X13.here hx rfl (hb hby at_39) rfl ((if0 _ _).trans (teq (by decide)).2) k) ?_
    refine Go.st (S' := T13.setTop (mkF m 43 #[.val (.int p1), .val (.int (1 : Int32)), .val (.ref w_MONTHS), .val (.int (0 : Int32)), .val (.int (0 : Int32)), .unset, .unset] [(.int (1 : Int32))])) (fun _ k => XS.iconst X13.here hx rfl (hb hby at_42) k) ?_
    exact own_retN X13 hx hlk hret (by simp) (hb hby at_43) eq13 ⟨rfl, N13⟩ (by decide) (by decide)
  · refine Go.st (S' := T0.setTop (mkF m 7 #[.val (.int p1), .unset, .unset, .unset, .unset, .unset, .unset] [(.int (2 : Int32))])) (fun _ k => by rw [hk]; exact k) ?_
    refine Go.st (S' := T0.setTop (mkF m 8 #[.val (.int p1), .val (.int (2 : Int32)), .unset, .unset, .unset, .unset, .unset] [])) (fun _ k => XS.istoreN X0.here hx rfl (hb hby at_7) rfl (l' := #[.val (.int p1), .val (.int (2 : Int32)), .unset, .unset, .unset, .unset, .unset]) rfl k) ?_
    refine Go.st (S' := T0.setTop (mkF m 9 #[.val (.int p1), .val (.int (2 : Int32)), .unset, .unset, .unset, .unset, .unset] [(.int (2 : Int32))])) (fun _ k => XS.iloadN X0.here hx rfl (hb hby at_8) rfl k) ?_
    obtain ⟨_, T14, L14, X14, ⟨⟨w14, rfl, m014, m114, m214, m314, m414, m514⟩, Nq14, eq14⟩, st14⟩ := own_callS X0 hx hZ hown (ww hw 1 rfl) (ww hw 2 rfl) (ww hw 3 rfl) (ww hw 4 rfl) (by decide) e0 (rm1 l Z a0 hw [] w_YEARS w_DAYS w_WEEKS w_MONTHS w_MINUTES w_HOURS hS (2 : Int32) h0 O0) 0 (by decide) (by decide) (by decide) (by decide) (g := (mkF m 9 #[.val (.int p1), .val (.int (2 : Int32)), .unset, .unset, .unset, .unset, .unset] [(.int (2 : Int32))])) rfl (by rw [hml]; rfl) [(.int (2 : Int32))] [] rfl (lenOf pd_237865 rfl) rfl (by show 2 * 0 + _ ≤ _; exact Nat.le_of_eq rfl) (hb hby at_9)
    have N14 := Fr.app N0 Nq14
    obtain rfl : w_WEEKS = w14 := (m214 rfl).symm
    refine Go.st (S' := T14.setTop (mkF m 12 #[.val (.int p1), .val (.int (2 : Int32)), .unset, .unset, .unset, .unset, .unset] [(.ref w_WEEKS)])) st14 ?_
    refine Go.st (S' := T14.setTop (mkF m 13 #[.val (.int p1), .val (.int (2 : Int32)), .val (.ref w_WEEKS), .unset, .unset, .unset, .unset] [])) (fun _ k => XS.astoreN X14.here hx rfl (hb hby at_12) rfl rfl (l' := #[.val (.int p1), .val (.int (2 : Int32)), .val (.ref w_WEEKS), .unset, .unset, .unset, .unset]) rfl k) ?_
    refine Go.st (S' := T14.setTop (mkF m 14 #[.val (.int p1), .val (.int (2 : Int32)), .val (.ref w_WEEKS), .unset, .unset, .unset, .unset] [(.ref w_WEEKS)])) (fun _ k => XS.aloadN X14.here hx rfl (hb hby at_13) rfl rfl k) ?_
    obtain ⟨_, T15, L15, X15, ⟨rfl, Nq15, eq15⟩, st15⟩ := own_callV X14 hx hZ hown (ww hw 8 rfl) (ww hw 9 rfl) (notFace_of_selects (args := #[]) (mvT hZ (ww hw 11 rfl))) (ww hw 11 rfl) (ww hw 10 rfl) (ww hw 6 rfl) (ww hw 12 rfl) (by decide) eq14 (E_WEEKS.ext O0) (rm2 l Z a0 hw [] w_YEARS w_DAYS w_WEEKS w_MONTHS w_MINUTES w_HOURS hS w_WEEKS (10080 : Int64) (1 : Int32) (by decide) h0 O0 (F_WEEKS_minutes.ext O0)) 0 (by decide) (by decide) (by decide) (by decide) (g := (mkF m 14 #[.val (.int p1), .val (.int (2 : Int32)), .val (.ref w_WEEKS), .unset, .unset, .unset, .unset] [(.ref w_WEEKS)])) rfl (by rw [hml]; rfl) [] [] rfl (lenOf pd_428490 rfl) rfl (by show 2 * 0 + _ ≤ _; exact Nat.le_of_eq rfl) (hb hby at_14)
    have N15 := Fr.app N14 Nq15
    refine Go.st (S' := T15.setTop (mkF m 17 #[.val (.int p1), .val (.int (2 : Int32)), .val (.ref w_WEEKS), .unset, .unset, .unset, .unset] [(.int (1 : Int32))])) st15 ?_
    refine Go.st (S' := T15.setTop (mkF m 18 #[.val (.int p1), .val (.int (2 : Int32)), .val (.ref w_WEEKS), .val (.int (1 : Int32)), .unset, .unset, .unset] [])) (fun _ k => XS.istoreN X15.here hx rfl (hb hby at_17) rfl (l' := #[.val (.int p1), .val (.int (2 : Int32)), .val (.ref w_WEEKS), .val (.int (1 : Int32)), .unset, .unset, .unset]) rfl k) ?_
    refine Go.st (S' := T15.setTop (mkF m 19 #[.val (.int p1), .val (.int (2 : Int32)), .val (.ref w_WEEKS), .val (.int (1 : Int32)), .unset, .unset, .unset] [(.int (2 : Int32))])) (fun _ k => XS.iloadN X15.here hx rfl (hb hby at_18) rfl k) ?_
    refine Go.st (S' := T15.setTop (mkF m 20 #[.val (.int p1), .val (.int (2 : Int32)), .val (.ref w_WEEKS), .val (.int (1 : Int32)), .unset, .unset, .unset] [(.int (2 : Int32)), (.int (2 : Int32))])) (fun _ k => XS.iconst X15.here hx rfl (hb hby at_19) k) ?_
    refine Go.st (S' := T15.setTop (mkF m 23 #[.val (.int p1), .val (.int (2 : Int32)), .val (.ref w_WEEKS), .val (.int (1 : Int32)), .unset, .unset, .unset] [])) (fun _ k => XS.icmpNo X15.here hx rfl (hb hby at_20) rfl (flt (by decide)).1 k) ?_
    refine Go.st (S' := T15.setTop (mkF m 24 #[.val (.int p1), .val (.int (2 : Int32)), .val (.ref w_WEEKS), .val (.int (1 : Int32)), .unset, .unset, .unset] [(.int (1 : Int32))])) (fun _ k => XS.iconst X15.here hx rfl (hb hby at_23) k) ?_
    refine Go.st (S' := T15.setTop (mkF m 28 #[.val (.int p1), .val (.int (2 : Int32)), .val (.ref w_WEEKS), .val (.int (1 : Int32)), .unset, .unset, .unset] [(.int (1 : Int32))])) (fun _ k => XS.goto X15.here hx rfl (pc0 := 24) (pc' := 28) rfl (hb hby at_24) (by decide) (by decide) k) ?_
    refine Go.st (S' := T15.setTop (mkF m 30 #[.val (.int p1), .val (.int (2 : Int32)), .val (.ref w_WEEKS), .val (.int (1 : Int32)), .val (.int (1 : Int32)), .unset, .unset] [])) (fun _ k => XS.istore X15.here hx rfl (hb hby at_28) rfl (l' := #[.val (.int p1), .val (.int (2 : Int32)), .val (.ref w_WEEKS), .val (.int (1 : Int32)), .val (.int (1 : Int32)), .unset, .unset]) rfl k) ?_
    refine Go.st (S' := T15.setTop (mkF m 31 #[.val (.int p1), .val (.int (2 : Int32)), .val (.ref w_WEEKS), .val (.int (1 : Int32)), .val (.int (1 : Int32)), .unset, .unset] [(.int (1 : Int32))])) (fun _ k => XS.iloadN X15.here hx rfl (hb hby at_30) rfl k) ?_
    refine Go.st (S' := T15.setTop (mkF m 33 #[.val (.int p1), .val (.int (2 : Int32)), .val (.ref w_WEEKS), .val (.int (1 : Int32)), .val (.int (1 : Int32)), .unset, .unset] [(.int (1 : Int32)), (.int (1 : Int32))])) (fun _ k => XS.iload X15.here hx rfl (hb hby at_31) rfl k) ?_
    refine Go.st (S' := T15.setTop (mkF m 38 #[.val (.int p1), .val (.int (2 : Int32)), .val (.ref w_WEEKS), .val (.int (1 : Int32)), .val (.int (1 : Int32)), .unset, .unset] [])) (fun _ k => XS.icmpYes X15.here hx rfl (pc0 := 33) (pc' := 38) rfl (hb hby at_33) rfl (teq (by decide)).1 (by decide) (by decide) k) ?_
    refine Go.st (S' := T15.setTop (mkF m 39 #[.val (.int p1), .val (.int (2 : Int32)), .val (.ref w_WEEKS), .val (.int (1 : Int32)), .val (.int (1 : Int32)), .unset, .unset] [(.int (1 : Int32))])) (fun _ k => XS.iloadN X15.here hx rfl (hb hby at_38) rfl k) ?_
    refine Go.st (S' := T15.setTop (mkF m 44 #[.val (.int p1), .val (.int (2 : Int32)), .val (.ref w_WEEKS), .val (.int (1 : Int32)), .val (.int (1 : Int32)), .unset, .unset] [])) (fun _ k => XS.ifYes X15.here hx rfl (pc0 := 39) (pc' := 44) rfl (hb hby at_39) rfl ((if0 _ _).trans (feq (by decide)).2) (by decide) (by decide) k) ?_
    refine Go.st (S' := T15.setTop (mkF m 45 #[.val (.int p1), .val (.int (2 : Int32)), .val (.ref w_WEEKS), .val (.int (1 : Int32)), .val (.int (1 : Int32)), .unset, .unset] [(.ref w_WEEKS)])) (fun _ k => XS.aloadN X15.here hx rfl (hb hby at_44) rfl rfl k) ?_
    obtain ⟨_, T16, L16, X16, ⟨rfl, Nq16, eq16⟩, st16⟩ := own_callV X15 hx hZ hown (ww hw 17 rfl) (ww hw 18 rfl) (notFace_of_selects (args := #[]) (mvT hZ (ww hw 20 rfl))) (ww hw 20 rfl) (ww hw 19 rfl) (ww hw 6 rfl) (ww hw 21 rfl) (by decide) eq15 (E_WEEKS.ext O0) (rm3 l Z a0 hw [] w_YEARS w_DAYS w_WEEKS w_MONTHS w_MINUTES w_HOURS hS w_WEEKS (10080 : Int64) (by decide) h0 O0 (E_WEEKS.ext O0) (F_WEEKS_minutes.ext O0)) 0 (by decide) (by decide) (by decide) (by decide) (g := (mkF m 45 #[.val (.int p1), .val (.int (2 : Int32)), .val (.ref w_WEEKS), .val (.int (1 : Int32)), .val (.int (1 : Int32)), .unset, .unset] [(.ref w_WEEKS)])) rfl (by rw [hml]; rfl) [] [] rfl (lenOf pd_428474 rfl) rfl (by show 2 * 0 + _ ≤ _; exact Nat.le_of_eq rfl) (hb hby at_45)
    have N16 := Fr.app N15 Nq16
    refine Go.st (S' := T16.setTop (mkF m 48 #[.val (.int p1), .val (.int (2 : Int32)), .val (.ref w_WEEKS), .val (.int (1 : Int32)), .val (.int (1 : Int32)), .unset, .unset] [(.long (10080 : Int64))])) st16 ?_
    refine Go.st (S' := T16.setTop (mkF m 50 #[.val (.int p1), .val (.int (2 : Int32)), .val (.ref w_WEEKS), .val (.int (1 : Int32)), .val (.int (1 : Int32)), .val (.long (10080 : Int64)), .second] [])) (fun _ k => XS.lstore X16.here hx rfl (hb hby at_48) rfl (l' := #[.val (.int p1), .val (.int (2 : Int32)), .val (.ref w_WEEKS), .val (.int (1 : Int32)), .val (.int (1 : Int32)), .val (.long (10080 : Int64)), .second]) rfl k) ?_
    refine Go.st (S' := T16.setTop (mkF m 52 #[.val (.int p1), .val (.int (2 : Int32)), .val (.ref w_WEEKS), .val (.int (1 : Int32)), .val (.int (1 : Int32)), .val (.long (10080 : Int64)), .second] [(.long (10080 : Int64))])) (fun _ k => XS.lload X16.here hx rfl (hb hby at_50) rfl k) ?_
    refine Go.st (S' := T16.setTop (mkF m 53 #[.val (.int p1), .val (.int (2 : Int32)), .val (.ref w_WEEKS), .val (.int (1 : Int32)), .val (.int (1 : Int32)), .val (.long (10080 : Int64)), .second] [(.int (2 : Int32)), (.long (10080 : Int64))])) (fun _ k => XS.iloadN X16.here hx rfl (hb hby at_52) rfl k) ?_
    obtain ⟨_, T17, L17, X17, ⟨rfl, Nq17, eq17⟩, st17⟩ := own_callS X16 hx hZ hown (ww hw 23 rfl) (ww hw 24 rfl) (ww hw 3 rfl) (ww hw 25 rfl) (by decide) eq16 (rm4 l Z a0 hw [] w_YEARS w_DAYS w_WEEKS w_MONTHS w_MINUTES w_HOURS hS (2 : Int32) (10080 : Int64) (by decide) h0 O0) 2 (by decide) (by decide) (by decide) (by decide) (g := (mkF m 53 #[.val (.int p1), .val (.int (2 : Int32)), .val (.ref w_WEEKS), .val (.int (1 : Int32)), .val (.int (1 : Int32)), .val (.long (10080 : Int64)), .second] [(.int (2 : Int32)), (.long (10080 : Int64))])) rfl (by rw [hml]; rfl) [(.int (2 : Int32))] [(.long (10080 : Int64))] rfl (lenOf pd_674829 rfl) rfl (by show 2 * 0 + _ ≤ _; exact Nat.le_of_eq rfl) (hb hby at_53)
    have N17 := Fr.app N16 Nq17
    refine Go.st (S' := T17.setTop (mkF m 56 #[.val (.int p1), .val (.int (2 : Int32)), .val (.ref w_WEEKS), .val (.int (1 : Int32)), .val (.int (1 : Int32)), .val (.long (10080 : Int64)), .second] [(.long (10080 : Int64)), (.long (10080 : Int64))])) st17 ?_
    refine Go.st (S' := T17.setTop (mkF m 57 #[.val (.int p1), .val (.int (2 : Int32)), .val (.ref w_WEEKS), .val (.int (1 : Int32)), .val (.int (1 : Int32)), .val (.long (10080 : Int64)), .second] [(.int (lcmpW (10080 : Int64) (10080 : Int64)))])) (fun _ k => XS.lcmp X17.here hx rfl (hb hby at_56) rfl k) ?_
    refine Go.st (S' := T17.setTop (mkF m 60 #[.val (.int p1), .val (.int (2 : Int32)), .val (.ref w_WEEKS), .val (.int (1 : Int32)), .val (.int (1 : Int32)), .val (.long (10080 : Int64)), .second] [])) (fun _ k => XS.ifNo X17.here hx rfl (hb hby at_57) rfl (own_Leq (by decide)).2 k) ?_
    refine Go.st (S' := T17.setTop (mkF m 61 #[.val (.int p1), .val (.int (2 : Int32)), .val (.ref w_WEEKS), .val (.int (1 : Int32)), .val (.int (1 : Int32)), .val (.long (10080 : Int64)), .second] [(.int (1 : Int32))])) (fun _ k => XS.iconst X17.here hx rfl (hb hby at_60) k) ?_
    refine Go.st (S' := T17.setTop (mkF m 65 #[.val (.int p1), .val (.int (2 : Int32)), .val (.ref w_WEEKS), .val (.int (1 : Int32)), .val (.int (1 : Int32)), .val (.long (10080 : Int64)), .second] [(.int (1 : Int32))])) (fun _ k => XS.goto X17.here hx rfl (pc0 := 61) (pc' := 65) rfl (hb hby at_61) (by decide) (by decide) k) ?_
    exact own_retN X17 hx hlk hret (by simp) (hb hby at_65) eq17 ⟨rfl, N17⟩ (by decide) (by decide)
  · refine Go.st (S' := T0.setTop (mkF m 7 #[.val (.int p1), .unset, .unset, .unset, .unset, .unset, .unset] [(.int (3 : Int32))])) (fun _ k => by rw [hk]; exact k) ?_
    refine Go.st (S' := T0.setTop (mkF m 8 #[.val (.int p1), .val (.int (3 : Int32)), .unset, .unset, .unset, .unset, .unset] [])) (fun _ k => XS.istoreN X0.here hx rfl (hb hby at_7) rfl (l' := #[.val (.int p1), .val (.int (3 : Int32)), .unset, .unset, .unset, .unset, .unset]) rfl k) ?_
    refine Go.st (S' := T0.setTop (mkF m 9 #[.val (.int p1), .val (.int (3 : Int32)), .unset, .unset, .unset, .unset, .unset] [(.int (3 : Int32))])) (fun _ k => XS.iloadN X0.here hx rfl (hb hby at_8) rfl k) ?_
    obtain ⟨_, T18, L18, X18, ⟨⟨w18, rfl, m018, m118, m218, m318, m418, m518⟩, Nq18, eq18⟩, st18⟩ := own_callS X0 hx hZ hown (ww hw 1 rfl) (ww hw 2 rfl) (ww hw 3 rfl) (ww hw 4 rfl) (by decide) e0 (rm1 l Z a0 hw [] w_YEARS w_DAYS w_WEEKS w_MONTHS w_MINUTES w_HOURS hS (3 : Int32) h0 O0) 0 (by decide) (by decide) (by decide) (by decide) (g := (mkF m 9 #[.val (.int p1), .val (.int (3 : Int32)), .unset, .unset, .unset, .unset, .unset] [(.int (3 : Int32))])) rfl (by rw [hml]; rfl) [(.int (3 : Int32))] [] rfl (lenOf pd_237865 rfl) rfl (by show 2 * 0 + _ ≤ _; exact Nat.le_of_eq rfl) (hb hby at_9)
    have N18 := Fr.app N0 Nq18
    obtain rfl : w_DAYS = w18 := (m318 rfl).symm
    refine Go.st (S' := T18.setTop (mkF m 12 #[.val (.int p1), .val (.int (3 : Int32)), .unset, .unset, .unset, .unset, .unset] [(.ref w_DAYS)])) st18 ?_
    refine Go.st (S' := T18.setTop (mkF m 13 #[.val (.int p1), .val (.int (3 : Int32)), .val (.ref w_DAYS), .unset, .unset, .unset, .unset] [])) (fun _ k => XS.astoreN X18.here hx rfl (hb hby at_12) rfl rfl (l' := #[.val (.int p1), .val (.int (3 : Int32)), .val (.ref w_DAYS), .unset, .unset, .unset, .unset]) rfl k) ?_
    refine Go.st (S' := T18.setTop (mkF m 14 #[.val (.int p1), .val (.int (3 : Int32)), .val (.ref w_DAYS), .unset, .unset, .unset, .unset] [(.ref w_DAYS)])) (fun _ k => XS.aloadN X18.here hx rfl (hb hby at_13) rfl rfl k) ?_
    obtain ⟨_, T19, L19, X19, ⟨rfl, Nq19, eq19⟩, st19⟩ := own_callV X18 hx hZ hown (ww hw 8 rfl) (ww hw 9 rfl) (notFace_of_selects (args := #[]) (mvT hZ (ww hw 11 rfl))) (ww hw 11 rfl) (ww hw 10 rfl) (ww hw 6 rfl) (ww hw 12 rfl) (by decide) eq18 (E_DAYS.ext O0) (rm2 l Z a0 hw [] w_YEARS w_DAYS w_WEEKS w_MONTHS w_MINUTES w_HOURS hS w_DAYS (1440 : Int64) (1 : Int32) (by decide) h0 O0 (F_DAYS_minutes.ext O0)) 0 (by decide) (by decide) (by decide) (by decide) (g := (mkF m 14 #[.val (.int p1), .val (.int (3 : Int32)), .val (.ref w_DAYS), .unset, .unset, .unset, .unset] [(.ref w_DAYS)])) rfl (by rw [hml]; rfl) [] [] rfl (lenOf pd_428490 rfl) rfl (by show 2 * 0 + _ ≤ _; exact Nat.le_of_eq rfl) (hb hby at_14)
    have N19 := Fr.app N18 Nq19
    refine Go.st (S' := T19.setTop (mkF m 17 #[.val (.int p1), .val (.int (3 : Int32)), .val (.ref w_DAYS), .unset, .unset, .unset, .unset] [(.int (1 : Int32))])) st19 ?_
    refine Go.st (S' := T19.setTop (mkF m 18 #[.val (.int p1), .val (.int (3 : Int32)), .val (.ref w_DAYS), .val (.int (1 : Int32)), .unset, .unset, .unset] [])) (fun _ k => XS.istoreN X19.here hx rfl (hb hby at_17) rfl (l' := #[.val (.int p1), .val (.int (3 : Int32)), .val (.ref w_DAYS), .val (.int (1 : Int32)), .unset, .unset, .unset]) rfl k) ?_
    refine Go.st (S' := T19.setTop (mkF m 19 #[.val (.int p1), .val (.int (3 : Int32)), .val (.ref w_DAYS), .val (.int (1 : Int32)), .unset, .unset, .unset] [(.int (3 : Int32))])) (fun _ k => XS.iloadN X19.here hx rfl (hb hby at_18) rfl k) ?_
    refine Go.st (S' := T19.setTop (mkF m 20 #[.val (.int p1), .val (.int (3 : Int32)), .val (.ref w_DAYS), .val (.int (1 : Int32)), .unset, .unset, .unset] [(.int (2 : Int32)), (.int (3 : Int32))])) (fun _ k => XS.iconst X19.here hx rfl (hb hby at_19) k) ?_
    refine Go.st (S' := T19.setTop (mkF m 23 #[.val (.int p1), .val (.int (3 : Int32)), .val (.ref w_DAYS), .val (.int (1 : Int32)), .unset, .unset, .unset] [])) (fun _ k => XS.icmpNo X19.here hx rfl (hb hby at_20) rfl (flt (by decide)).1 k) ?_
    refine Go.st (S' := T19.setTop (mkF m 24 #[.val (.int p1), .val (.int (3 : Int32)), .val (.ref w_DAYS), .val (.int (1 : Int32)), .unset, .unset, .unset] [(.int (1 : Int32))])) (fun _ k => XS.iconst X19.here hx rfl (hb hby at_23) k) ?_
    refine Go.st (S' := T19.setTop (mkF m 28 #[.val (.int p1), .val (.int (3 : Int32)), .val (.ref w_DAYS), .val (.int (1 : Int32)), .unset, .unset, .unset] [(.int (1 : Int32))])) (fun _ k => XS.goto X19.here hx rfl (pc0 := 24) (pc' := 28) rfl (hb hby at_24) (by decide) (by decide) k) ?_
    refine Go.st (S' := T19.setTop (mkF m 30 #[.val (.int p1), .val (.int (3 : Int32)), .val (.ref w_DAYS), .val (.int (1 : Int32)), .val (.int (1 : Int32)), .unset, .unset] [])) (fun _ k => XS.istore X19.here hx rfl (hb hby at_28) rfl (l' := #[.val (.int p1), .val (.int (3 : Int32)), .val (.ref w_DAYS), .val (.int (1 : Int32)), .val (.int (1 : Int32)), .unset, .unset]) rfl k) ?_
    refine Go.st (S' := T19.setTop (mkF m 31 #[.val (.int p1), .val (.int (3 : Int32)), .val (.ref w_DAYS), .val (.int (1 : Int32)), .val (.int (1 : Int32)), .unset, .unset] [(.int (1 : Int32))])) (fun _ k => XS.iloadN X19.here hx rfl (hb hby at_30) rfl k) ?_
    refine Go.st (S' := T19.setTop (mkF m 33 #[.val (.int p1), .val (.int (3 : Int32)), .val (.ref w_DAYS), .val (.int (1 : Int32)), .val (.int (1 : Int32)), .unset, .unset] [(.int (1 : Int32)), (.int (1 : Int32))])) (fun _ k => XS.iload X19.here hx rfl (hb hby at_31) rfl k) ?_
    refine Go.st (S' := T19.setTop (mkF m 38 #[.val (.int p1), .val (.int (3 : Int32)), .val (.ref w_DAYS), .val (.int (1 : Int32)), .val (.int (1 : Int32)), .unset, .unset] [])) (fun _ k => XS.icmpYes X19.here hx rfl (pc0 := 33) (pc' := 38) rfl (hb hby at_33) rfl (teq (by decide)).1 (by decide) (by decide) k) ?_
    refine Go.st (S' := T19.setTop (mkF m 39 #[.val (.int p1), .val (.int (3 : Int32)), .val (.ref w_DAYS), .val (.int (1 : Int32)), .val (.int (1 : Int32)), .unset, .unset] [(.int (1 : Int32))])) (fun _ k => XS.iloadN X19.here hx rfl (hb hby at_38) rfl k) ?_
    refine Go.st (S' := T19.setTop (mkF m 44 #[.val (.int p1), .val (.int (3 : Int32)), .val (.ref w_DAYS), .val (.int (1 : Int32)), .val (.int (1 : Int32)), .unset, .unset] [])) (fun _ k => XS.ifYes X19.here hx rfl (pc0 := 39) (pc' := 44) rfl (hb hby at_39) rfl ((if0 _ _).trans (feq (by decide)).2) (by decide) (by decide) k) ?_
    refine Go.st (S' := T19.setTop (mkF m 45 #[.val (.int p1), .val (.int (3 : Int32)), .val (.ref w_DAYS), .val (.int (1 : Int32)), .val (.int (1 : Int32)), .unset, .unset] [(.ref w_DAYS)])) (fun _ k => XS.aloadN X19.here hx rfl (hb hby at_44) rfl rfl k) ?_
    obtain ⟨_, T20, L20, X20, ⟨rfl, Nq20, eq20⟩, st20⟩ := own_callV X19 hx hZ hown (ww hw 17 rfl) (ww hw 18 rfl) (notFace_of_selects (args := #[]) (mvT hZ (ww hw 20 rfl))) (ww hw 20 rfl) (ww hw 19 rfl) (ww hw 6 rfl) (ww hw 21 rfl) (by decide) eq19 (E_DAYS.ext O0) (rm3 l Z a0 hw [] w_YEARS w_DAYS w_WEEKS w_MONTHS w_MINUTES w_HOURS hS w_DAYS (1440 : Int64) (by decide) h0 O0 (E_DAYS.ext O0) (F_DAYS_minutes.ext O0)) 0 (by decide) (by decide) (by decide) (by decide) (g := (mkF m 45 #[.val (.int p1), .val (.int (3 : Int32)), .val (.ref w_DAYS), .val (.int (1 : Int32)), .val (.int (1 : Int32)), .unset, .unset] [(.ref w_DAYS)])) rfl (by rw [hml]; rfl) [] [] rfl (lenOf pd_428474 rfl) rfl (by show 2 * 0 + _ ≤ _; exact Nat.le_of_eq rfl) (hb hby at_45)
    have N20 := Fr.app N19 Nq20
    refine Go.st (S' := T20.setTop (mkF m 48 #[.val (.int p1), .val (.int (3 : Int32)), .val (.ref w_DAYS), .val (.int (1 : Int32)), .val (.int (1 : Int32)), .unset, .unset] [(.long (1440 : Int64))])) st20 ?_
    refine Go.st (S' := T20.setTop (mkF m 50 #[.val (.int p1), .val (.int (3 : Int32)), .val (.ref w_DAYS), .val (.int (1 : Int32)), .val (.int (1 : Int32)), .val (.long (1440 : Int64)), .second] [])) (fun _ k => XS.lstore X20.here hx rfl (hb hby at_48) rfl (l' := #[.val (.int p1), .val (.int (3 : Int32)), .val (.ref w_DAYS), .val (.int (1 : Int32)), .val (.int (1 : Int32)), .val (.long (1440 : Int64)), .second]) rfl k) ?_
    refine Go.st (S' := T20.setTop (mkF m 52 #[.val (.int p1), .val (.int (3 : Int32)), .val (.ref w_DAYS), .val (.int (1 : Int32)), .val (.int (1 : Int32)), .val (.long (1440 : Int64)), .second] [(.long (1440 : Int64))])) (fun _ k => XS.lload X20.here hx rfl (hb hby at_50) rfl k) ?_
    refine Go.st (S' := T20.setTop (mkF m 53 #[.val (.int p1), .val (.int (3 : Int32)), .val (.ref w_DAYS), .val (.int (1 : Int32)), .val (.int (1 : Int32)), .val (.long (1440 : Int64)), .second] [(.int (3 : Int32)), (.long (1440 : Int64))])) (fun _ k => XS.iloadN X20.here hx rfl (hb hby at_52) rfl k) ?_
    obtain ⟨_, T21, L21, X21, ⟨rfl, Nq21, eq21⟩, st21⟩ := own_callS X20 hx hZ hown (ww hw 23 rfl) (ww hw 24 rfl) (ww hw 3 rfl) (ww hw 25 rfl) (by decide) eq20 (rm4 l Z a0 hw [] w_YEARS w_DAYS w_WEEKS w_MONTHS w_MINUTES w_HOURS hS (3 : Int32) (1440 : Int64) (by decide) h0 O0) 2 (by decide) (by decide) (by decide) (by decide) (g := (mkF m 53 #[.val (.int p1), .val (.int (3 : Int32)), .val (.ref w_DAYS), .val (.int (1 : Int32)), .val (.int (1 : Int32)), .val (.long (1440 : Int64)), .second] [(.int (3 : Int32)), (.long (1440 : Int64))])) rfl (by rw [hml]; rfl) [(.int (3 : Int32))] [(.long (1440 : Int64))] rfl (lenOf pd_674829 rfl) rfl (by show 2 * 0 + _ ≤ _; exact Nat.le_of_eq rfl) (hb hby at_53)
    have N21 := Fr.app N20 Nq21
    refine Go.st (S' := T21.setTop (mkF m 56 #[.val (.int p1), .val (.int (3 : Int32)), .val (.ref w_DAYS), .val (.int (1 : Int32)), .val (.int (1 : Int32)), .val (.long (1440 : Int64)), .second] [(.long (1440 : Int64)), (.long (1440 : Int64))])) st21 ?_
    refine Go.st (S' := T21.setTop (mkF m 57 #[.val (.int p1), .val (.int (3 : Int32)), .val (.ref w_DAYS), .val (.int (1 : Int32)), .val (.int (1 : Int32)), .val (.long (1440 : Int64)), .second] [(.int (lcmpW (1440 : Int64) (1440 : Int64)))])) (fun _ k => XS.lcmp X21.here hx rfl (hb hby at_56) rfl k) ?_
    refine Go.st (S' := T21.setTop (mkF m 60 #[.val (.int p1), .val (.int (3 : Int32)), .val (.ref w_DAYS), .val (.int (1 : Int32)), .val (.int (1 : Int32)), .val (.long (1440 : Int64)), .second] [])) (fun _ k => XS.ifNo X21.here hx rfl (hb hby at_57) rfl (own_Leq (by decide)).2 k) ?_
    refine Go.st (S' := T21.setTop (mkF m 61 #[.val (.int p1), .val (.int (3 : Int32)), .val (.ref w_DAYS), .val (.int (1 : Int32)), .val (.int (1 : Int32)), .val (.long (1440 : Int64)), .second] [(.int (1 : Int32))])) (fun _ k => XS.iconst X21.here hx rfl (hb hby at_60) k) ?_
    refine Go.st (S' := T21.setTop (mkF m 65 #[.val (.int p1), .val (.int (3 : Int32)), .val (.ref w_DAYS), .val (.int (1 : Int32)), .val (.int (1 : Int32)), .val (.long (1440 : Int64)), .second] [(.int (1 : Int32))])) (fun _ k => XS.goto X21.here hx rfl (pc0 := 61) (pc' := 65) rfl (hb hby at_61) (by decide) (by decide) k) ?_
    exact own_retN X21 hx hlk hret (by simp) (hb hby at_65) eq21 ⟨rfl, N21⟩ (by decide) (by decide)
  · refine Go.st (S' := T0.setTop (mkF m 7 #[.val (.int p1), .unset, .unset, .unset, .unset, .unset, .unset] [(.int (4 : Int32))])) (fun _ k => by rw [hk]; exact k) ?_
    refine Go.st (S' := T0.setTop (mkF m 8 #[.val (.int p1), .val (.int (4 : Int32)), .unset, .unset, .unset, .unset, .unset] [])) (fun _ k => XS.istoreN X0.here hx rfl (hb hby at_7) rfl (l' := #[.val (.int p1), .val (.int (4 : Int32)), .unset, .unset, .unset, .unset, .unset]) rfl k) ?_
    refine Go.st (S' := T0.setTop (mkF m 9 #[.val (.int p1), .val (.int (4 : Int32)), .unset, .unset, .unset, .unset, .unset] [(.int (4 : Int32))])) (fun _ k => XS.iloadN X0.here hx rfl (hb hby at_8) rfl k) ?_
    obtain ⟨_, T22, L22, X22, ⟨⟨w22, rfl, m022, m122, m222, m322, m422, m522⟩, Nq22, eq22⟩, st22⟩ := own_callS X0 hx hZ hown (ww hw 1 rfl) (ww hw 2 rfl) (ww hw 3 rfl) (ww hw 4 rfl) (by decide) e0 (rm1 l Z a0 hw [] w_YEARS w_DAYS w_WEEKS w_MONTHS w_MINUTES w_HOURS hS (4 : Int32) h0 O0) 0 (by decide) (by decide) (by decide) (by decide) (g := (mkF m 9 #[.val (.int p1), .val (.int (4 : Int32)), .unset, .unset, .unset, .unset, .unset] [(.int (4 : Int32))])) rfl (by rw [hml]; rfl) [(.int (4 : Int32))] [] rfl (lenOf pd_237865 rfl) rfl (by show 2 * 0 + _ ≤ _; exact Nat.le_of_eq rfl) (hb hby at_9)
    have N22 := Fr.app N0 Nq22
    obtain rfl : w_HOURS = w22 := (m422 rfl).symm
    refine Go.st (S' := T22.setTop (mkF m 12 #[.val (.int p1), .val (.int (4 : Int32)), .unset, .unset, .unset, .unset, .unset] [(.ref w_HOURS)])) st22 ?_
    refine Go.st (S' := T22.setTop (mkF m 13 #[.val (.int p1), .val (.int (4 : Int32)), .val (.ref w_HOURS), .unset, .unset, .unset, .unset] [])) (fun _ k => XS.astoreN X22.here hx rfl (hb hby at_12) rfl rfl (l' := #[.val (.int p1), .val (.int (4 : Int32)), .val (.ref w_HOURS), .unset, .unset, .unset, .unset]) rfl k) ?_
    refine Go.st (S' := T22.setTop (mkF m 14 #[.val (.int p1), .val (.int (4 : Int32)), .val (.ref w_HOURS), .unset, .unset, .unset, .unset] [(.ref w_HOURS)])) (fun _ k => XS.aloadN X22.here hx rfl (hb hby at_13) rfl rfl k) ?_
    obtain ⟨_, T23, L23, X23, ⟨rfl, Nq23, eq23⟩, st23⟩ := own_callV X22 hx hZ hown (ww hw 8 rfl) (ww hw 9 rfl) (notFace_of_selects (args := #[]) (mvT hZ (ww hw 11 rfl))) (ww hw 11 rfl) (ww hw 10 rfl) (ww hw 6 rfl) (ww hw 12 rfl) (by decide) eq22 (E_HOURS.ext O0) (rm2 l Z a0 hw [] w_YEARS w_DAYS w_WEEKS w_MONTHS w_MINUTES w_HOURS hS w_HOURS (60 : Int64) (1 : Int32) (by decide) h0 O0 (F_HOURS_minutes.ext O0)) 0 (by decide) (by decide) (by decide) (by decide) (g := (mkF m 14 #[.val (.int p1), .val (.int (4 : Int32)), .val (.ref w_HOURS), .unset, .unset, .unset, .unset] [(.ref w_HOURS)])) rfl (by rw [hml]; rfl) [] [] rfl (lenOf pd_428490 rfl) rfl (by show 2 * 0 + _ ≤ _; exact Nat.le_of_eq rfl) (hb hby at_14)
    have N23 := Fr.app N22 Nq23
    refine Go.st (S' := T23.setTop (mkF m 17 #[.val (.int p1), .val (.int (4 : Int32)), .val (.ref w_HOURS), .unset, .unset, .unset, .unset] [(.int (1 : Int32))])) st23 ?_
    refine Go.st (S' := T23.setTop (mkF m 18 #[.val (.int p1), .val (.int (4 : Int32)), .val (.ref w_HOURS), .val (.int (1 : Int32)), .unset, .unset, .unset] [])) (fun _ k => XS.istoreN X23.here hx rfl (hb hby at_17) rfl (l' := #[.val (.int p1), .val (.int (4 : Int32)), .val (.ref w_HOURS), .val (.int (1 : Int32)), .unset, .unset, .unset]) rfl k) ?_
    refine Go.st (S' := T23.setTop (mkF m 19 #[.val (.int p1), .val (.int (4 : Int32)), .val (.ref w_HOURS), .val (.int (1 : Int32)), .unset, .unset, .unset] [(.int (4 : Int32))])) (fun _ k => XS.iloadN X23.here hx rfl (hb hby at_18) rfl k) ?_
    refine Go.st (S' := T23.setTop (mkF m 20 #[.val (.int p1), .val (.int (4 : Int32)), .val (.ref w_HOURS), .val (.int (1 : Int32)), .unset, .unset, .unset] [(.int (2 : Int32)), (.int (4 : Int32))])) (fun _ k => XS.iconst X23.here hx rfl (hb hby at_19) k) ?_
    refine Go.st (S' := T23.setTop (mkF m 23 #[.val (.int p1), .val (.int (4 : Int32)), .val (.ref w_HOURS), .val (.int (1 : Int32)), .unset, .unset, .unset] [])) (fun _ k => XS.icmpNo X23.here hx rfl (hb hby at_20) rfl (flt (by decide)).1 k) ?_
    refine Go.st (S' := T23.setTop (mkF m 24 #[.val (.int p1), .val (.int (4 : Int32)), .val (.ref w_HOURS), .val (.int (1 : Int32)), .unset, .unset, .unset] [(.int (1 : Int32))])) (fun _ k => XS.iconst X23.here hx rfl (hb hby at_23) k) ?_
    refine Go.st (S' := T23.setTop (mkF m 28 #[.val (.int p1), .val (.int (4 : Int32)), .val (.ref w_HOURS), .val (.int (1 : Int32)), .unset, .unset, .unset] [(.int (1 : Int32))])) (fun _ k => XS.goto X23.here hx rfl (pc0 := 24) (pc' := 28) rfl (hb hby at_24) (by decide) (by decide) k) ?_
    refine Go.st (S' := T23.setTop (mkF m 30 #[.val (.int p1), .val (.int (4 : Int32)), .val (.ref w_HOURS), .val (.int (1 : Int32)), .val (.int (1 : Int32)), .unset, .unset] [])) (fun _ k => XS.istore X23.here hx rfl (hb hby at_28) rfl (l' := #[.val (.int p1), .val (.int (4 : Int32)), .val (.ref w_HOURS), .val (.int (1 : Int32)), .val (.int (1 : Int32)), .unset, .unset]) rfl k) ?_
    refine Go.st (S' := T23.setTop (mkF m 31 #[.val (.int p1), .val (.int (4 : Int32)), .val (.ref w_HOURS), .val (.int (1 : Int32)), .val (.int (1 : Int32)), .unset, .unset] [(.int (1 : Int32))])) (fun _ k => XS.iloadN X23.here hx rfl (hb hby at_30) rfl k) ?_
    refine Go.st (S' := T23.setTop (mkF m 33 #[.val (.int p1), .val (.int (4 : Int32)), .val (.ref w_HOURS), .val (.int (1 : Int32)), .val (.int (1 : Int32)), .unset, .unset] [(.int (1 : Int32)), (.int (1 : Int32))])) (fun _ k => XS.iload X23.here hx rfl (hb hby at_31) rfl k) ?_
    refine Go.st (S' := T23.setTop (mkF m 38 #[.val (.int p1), .val (.int (4 : Int32)), .val (.ref w_HOURS), .val (.int (1 : Int32)), .val (.int (1 : Int32)), .unset, .unset] [])) (fun _ k => XS.icmpYes X23.here hx rfl (pc0 := 33) (pc' := 38) rfl (hb hby at_33) rfl (teq (by decide)).1 (by decide) (by decide) k) ?_
    refine Go.st (S' := T23.setTop (mkF m 39 #[.val (.int p1), .val (.int (4 : Int32)), .val (.ref w_HOURS), .val (.int (1 : Int32)), .val (.int (1 : Int32)), .unset, .unset] [(.int (1 : Int32))])) (fun _ k => XS.iloadN X23.here hx rfl (hb hby at_38) rfl k) ?_
    refine Go.st (S' := T23.setTop (mkF m 44 #[.val (.int p1), .val (.int (4 : Int32)), .val (.ref w_HOURS), .val (.int (1 : Int32)), .val (.int (1 : Int32)), .unset, .unset] [])) (fun _ k => XS.ifYes X23.here hx rfl (pc0 := 39) (pc' := 44) rfl (hb hby at_39) rfl ((if0 _ _).trans (feq (by decide)).2) (by decide) (by decide) k) ?_
    refine Go.st (S' := T23.setTop (mkF m 45 #[.val (.int p1), .val (.int (4 : Int32)), .val (.ref w_HOURS), .val (.int (1 : Int32)), .val (.int (1 : Int32)), .unset, .unset] [(.ref w_HOURS)])) (fun _ k => XS.aloadN X23.here hx rfl (hb hby at_44) rfl rfl k) ?_
    obtain ⟨_, T24, L24, X24, ⟨rfl, Nq24, eq24⟩, st24⟩ := own_callV X23 hx hZ hown (ww hw 17 rfl) (ww hw 18 rfl) (notFace_of_selects (args := #[]) (mvT hZ (ww hw 20 rfl))) (ww hw 20 rfl) (ww hw 19 rfl) (ww hw 6 rfl) (ww hw 21 rfl) (by decide) eq23 (E_HOURS.ext O0) (rm3 l Z a0 hw [] w_YEARS w_DAYS w_WEEKS w_MONTHS w_MINUTES w_HOURS hS w_HOURS (60 : Int64) (by decide) h0 O0 (E_HOURS.ext O0) (F_HOURS_minutes.ext O0)) 0 (by decide) (by decide) (by decide) (by decide) (g := (mkF m 45 #[.val (.int p1), .val (.int (4 : Int32)), .val (.ref w_HOURS), .val (.int (1 : Int32)), .val (.int (1 : Int32)), .unset, .unset] [(.ref w_HOURS)])) rfl (by rw [hml]; rfl) [] [] rfl (lenOf pd_428474 rfl) rfl (by show 2 * 0 + _ ≤ _; exact Nat.le_of_eq rfl) (hb hby at_45)
    have N24 := Fr.app N23 Nq24
    refine Go.st (S' := T24.setTop (mkF m 48 #[.val (.int p1), .val (.int (4 : Int32)), .val (.ref w_HOURS), .val (.int (1 : Int32)), .val (.int (1 : Int32)), .unset, .unset] [(.long (60 : Int64))])) st24 ?_
    refine Go.st (S' := T24.setTop (mkF m 50 #[.val (.int p1), .val (.int (4 : Int32)), .val (.ref w_HOURS), .val (.int (1 : Int32)), .val (.int (1 : Int32)), .val (.long (60 : Int64)), .second] [])) (fun _ k => XS.lstore X24.here hx rfl (hb hby at_48) rfl (l' := #[.val (.int p1), .val (.int (4 : Int32)), .val (.ref w_HOURS), .val (.int (1 : Int32)), .val (.int (1 : Int32)), .val (.long (60 : Int64)), .second]) rfl k) ?_
    refine Go.st (S' := T24.setTop (mkF m 52 #[.val (.int p1), .val (.int (4 : Int32)), .val (.ref w_HOURS), .val (.int (1 : Int32)), .val (.int (1 : Int32)), .val (.long (60 : Int64)), .second] [(.long (60 : Int64))])) (fun _ k => XS.lload X24.here hx rfl (hb hby at_50) rfl k) ?_
    refine Go.st (S' := T24.setTop (mkF m 53 #[.val (.int p1), .val (.int (4 : Int32)), .val (.ref w_HOURS), .val (.int (1 : Int32)), .val (.int (1 : Int32)), .val (.long (60 : Int64)), .second] [(.int (4 : Int32)), (.long (60 : Int64))])) (fun _ k => XS.iloadN X24.here hx rfl (hb hby at_52) rfl k) ?_
    obtain ⟨_, T25, L25, X25, ⟨rfl, Nq25, eq25⟩, st25⟩ := own_callS X24 hx hZ hown (ww hw 23 rfl) (ww hw 24 rfl) (ww hw 3 rfl) (ww hw 25 rfl) (by decide) eq24 (rm4 l Z a0 hw [] w_YEARS w_DAYS w_WEEKS w_MONTHS w_MINUTES w_HOURS hS (4 : Int32) (60 : Int64) (by decide) h0 O0) 2 (by decide) (by decide) (by decide) (by decide) (g := (mkF m 53 #[.val (.int p1), .val (.int (4 : Int32)), .val (.ref w_HOURS), .val (.int (1 : Int32)), .val (.int (1 : Int32)), .val (.long (60 : Int64)), .second] [(.int (4 : Int32)), (.long (60 : Int64))])) rfl (by rw [hml]; rfl) [(.int (4 : Int32))] [(.long (60 : Int64))] rfl (lenOf pd_674829 rfl) rfl (by show 2 * 0 + _ ≤ _; exact Nat.le_of_eq rfl) (hb hby at_53)
    have N25 := Fr.app N24 Nq25
    refine Go.st (S' := T25.setTop (mkF m 56 #[.val (.int p1), .val (.int (4 : Int32)), .val (.ref w_HOURS), .val (.int (1 : Int32)), .val (.int (1 : Int32)), .val (.long (60 : Int64)), .second] [(.long (60 : Int64)), (.long (60 : Int64))])) st25 ?_
    refine Go.st (S' := T25.setTop (mkF m 57 #[.val (.int p1), .val (.int (4 : Int32)), .val (.ref w_HOURS), .val (.int (1 : Int32)), .val (.int (1 : Int32)), .val (.long (60 : Int64)), .second] [(.int (lcmpW (60 : Int64) (60 : Int64)))])) (fun _ k => XS.lcmp X25.here hx rfl (hb hby at_56) rfl k) ?_
    refine Go.st (S' := T25.setTop (mkF m 60 #[.val (.int p1), .val (.int (4 : Int32)), .val (.ref w_HOURS), .val (.int (1 : Int32)), .val (.int (1 : Int32)), .val (.long (60 : Int64)), .second] [])) (fun _ k => XS.ifNo X25.here hx rfl (hb hby at_57) rfl (own_Leq (by decide)).2 k) ?_
    refine Go.st (S' := T25.setTop (mkF m 61 #[.val (.int p1), .val (.int (4 : Int32)), .val (.ref w_HOURS), .val (.int (1 : Int32)), .val (.int (1 : Int32)), .val (.long (60 : Int64)), .second] [(.int (1 : Int32))])) (fun _ k => XS.iconst X25.here hx rfl (hb hby at_60) k) ?_
    refine Go.st (S' := T25.setTop (mkF m 65 #[.val (.int p1), .val (.int (4 : Int32)), .val (.ref w_HOURS), .val (.int (1 : Int32)), .val (.int (1 : Int32)), .val (.long (60 : Int64)), .second] [(.int (1 : Int32))])) (fun _ k => XS.goto X25.here hx rfl (pc0 := 61) (pc' := 65) rfl (hb hby at_61) (by decide) (by decide) k) ?_
    exact own_retN X25 hx hlk hret (by simp) (hb hby at_65) eq25 ⟨rfl, N25⟩ (by decide) (by decide)
  · refine Go.st (S' := T0.setTop (mkF m 7 #[.val (.int p1), .unset, .unset, .unset, .unset, .unset, .unset] [(.int (5 : Int32))])) (fun _ k => by rw [hk]; exact k) ?_
    refine Go.st (S' := T0.setTop (mkF m 8 #[.val (.int p1), .val (.int (5 : Int32)), .unset, .unset, .unset, .unset, .unset] [])) (fun _ k => XS.istoreN X0.here hx rfl (hb hby at_7) rfl (l' := #[.val (.int p1), .val (.int (5 : Int32)), .unset, .unset, .unset, .unset, .unset]) rfl k) ?_
    refine Go.st (S' := T0.setTop (mkF m 9 #[.val (.int p1), .val (.int (5 : Int32)), .unset, .unset, .unset, .unset, .unset] [(.int (5 : Int32))])) (fun _ k => XS.iloadN X0.here hx rfl (hb hby at_8) rfl k) ?_
    obtain ⟨_, T26, L26, X26, ⟨⟨w26, rfl, m026, m126, m226, m326, m426, m526⟩, Nq26, eq26⟩, st26⟩ := own_callS X0 hx hZ hown (ww hw 1 rfl) (ww hw 2 rfl) (ww hw 3 rfl) (ww hw 4 rfl) (by decide) e0 (rm1 l Z a0 hw [] w_YEARS w_DAYS w_WEEKS w_MONTHS w_MINUTES w_HOURS hS (5 : Int32) h0 O0) 0 (by decide) (by decide) (by decide) (by decide) (g := (mkF m 9 #[.val (.int p1), .val (.int (5 : Int32)), .unset, .unset, .unset, .unset, .unset] [(.int (5 : Int32))])) rfl (by rw [hml]; rfl) [(.int (5 : Int32))] [] rfl (lenOf pd_237865 rfl) rfl (by show 2 * 0 + _ ≤ _; exact Nat.le_of_eq rfl) (hb hby at_9)
    have N26 := Fr.app N0 Nq26
    obtain rfl : w_MINUTES = w26 := (m526 rfl).symm
    refine Go.st (S' := T26.setTop (mkF m 12 #[.val (.int p1), .val (.int (5 : Int32)), .unset, .unset, .unset, .unset, .unset] [(.ref w_MINUTES)])) st26 ?_
    refine Go.st (S' := T26.setTop (mkF m 13 #[.val (.int p1), .val (.int (5 : Int32)), .val (.ref w_MINUTES), .unset, .unset, .unset, .unset] [])) (fun _ k => XS.astoreN X26.here hx rfl (hb hby at_12) rfl rfl (l' := #[.val (.int p1), .val (.int (5 : Int32)), .val (.ref w_MINUTES), .unset, .unset, .unset, .unset]) rfl k) ?_
    refine Go.st (S' := T26.setTop (mkF m 14 #[.val (.int p1), .val (.int (5 : Int32)), .val (.ref w_MINUTES), .unset, .unset, .unset, .unset] [(.ref w_MINUTES)])) (fun _ k => XS.aloadN X26.here hx rfl (hb hby at_13) rfl rfl k) ?_
    obtain ⟨_, T27, L27, X27, ⟨rfl, Nq27, eq27⟩, st27⟩ := own_callV X26 hx hZ hown (ww hw 8 rfl) (ww hw 9 rfl) (notFace_of_selects (args := #[]) (mvT hZ (ww hw 11 rfl))) (ww hw 11 rfl) (ww hw 10 rfl) (ww hw 6 rfl) (ww hw 12 rfl) (by decide) eq26 (E_MINUTES.ext O0) (rm2 l Z a0 hw [] w_YEARS w_DAYS w_WEEKS w_MONTHS w_MINUTES w_HOURS hS w_MINUTES (1 : Int64) (1 : Int32) (by decide) h0 O0 (F_MINUTES_minutes.ext O0)) 0 (by decide) (by decide) (by decide) (by decide) (g := (mkF m 14 #[.val (.int p1), .val (.int (5 : Int32)), .val (.ref w_MINUTES), .unset, .unset, .unset, .unset] [(.ref w_MINUTES)])) rfl (by rw [hml]; rfl) [] [] rfl (lenOf pd_428490 rfl) rfl (by show 2 * 0 + _ ≤ _; exact Nat.le_of_eq rfl) (hb hby at_14)
    have N27 := Fr.app N26 Nq27
    refine Go.st (S' := T27.setTop (mkF m 17 #[.val (.int p1), .val (.int (5 : Int32)), .val (.ref w_MINUTES), .unset, .unset, .unset, .unset] [(.int (1 : Int32))])) st27 ?_
    refine Go.st (S' := T27.setTop (mkF m 18 #[.val (.int p1), .val (.int (5 : Int32)), .val (.ref w_MINUTES), .val (.int (1 : Int32)), .unset, .unset, .unset] [])) (fun _ k => XS.istoreN X27.here hx rfl (hb hby at_17) rfl (l' := #[.val (.int p1), .val (.int (5 : Int32)), .val (.ref w_MINUTES), .val (.int (1 : Int32)), .unset, .unset, .unset]) rfl k) ?_
    refine Go.st (S' := T27.setTop (mkF m 19 #[.val (.int p1), .val (.int (5 : Int32)), .val (.ref w_MINUTES), .val (.int (1 : Int32)), .unset, .unset, .unset] [(.int (5 : Int32))])) (fun _ k => XS.iloadN X27.here hx rfl (hb hby at_18) rfl k) ?_
    refine Go.st (S' := T27.setTop (mkF m 20 #[.val (.int p1), .val (.int (5 : Int32)), .val (.ref w_MINUTES), .val (.int (1 : Int32)), .unset, .unset, .unset] [(.int (2 : Int32)), (.int (5 : Int32))])) (fun _ k => XS.iconst X27.here hx rfl (hb hby at_19) k) ?_
    refine Go.st (S' := T27.setTop (mkF m 23 #[.val (.int p1), .val (.int (5 : Int32)), .val (.ref w_MINUTES), .val (.int (1 : Int32)), .unset, .unset, .unset] [])) (fun _ k => XS.icmpNo X27.here hx rfl (hb hby at_20) rfl (flt (by decide)).1 k) ?_
    refine Go.st (S' := T27.setTop (mkF m 24 #[.val (.int p1), .val (.int (5 : Int32)), .val (.ref w_MINUTES), .val (.int (1 : Int32)), .unset, .unset, .unset] [(.int (1 : Int32))])) (fun _ k => XS.iconst X27.here hx rfl (hb hby at_23) k) ?_
    refine Go.st (S' := T27.setTop (mkF m 28 #[.val (.int p1), .val (.int (5 : Int32)), .val (.ref w_MINUTES), .val (.int (1 : Int32)), .unset, .unset, .unset] [(.int (1 : Int32))])) (fun _ k => XS.goto X27.here hx rfl (pc0 := 24) (pc' := 28) rfl (hb hby at_24) (by decide) (by decide) k) ?_
    refine Go.st (S' := T27.setTop (mkF m 30 #[.val (.int p1), .val (.int (5 : Int32)), .val (.ref w_MINUTES), .val (.int (1 : Int32)), .val (.int (1 : Int32)), .unset, .unset] [])) (fun _ k => XS.istore X27.here hx rfl (hb hby at_28) rfl (l' := #[.val (.int p1), .val (.int (5 : Int32)), .val (.ref w_MINUTES), .val (.int (1 : Int32)), .val (.int (1 : Int32)), .unset, .unset]) rfl k) ?_
    refine Go.st (S' := T27.setTop (mkF m 31 #[.val (.int p1), .val (.int (5 : Int32)), .val (.ref w_MINUTES), .val (.int (1 : Int32)), .val (.int (1 : Int32)), .unset, .unset] [(.int (1 : Int32))])) (fun _ k => XS.iloadN X27.here hx rfl (hb hby at_30) rfl k) ?_
    refine Go.st (S' := T27.setTop (mkF m 33 #[.val (.int p1), .val (.int (5 : Int32)), .val (.ref w_MINUTES), .val (.int (1 : Int32)), .val (.int (1 : Int32)), .unset, .unset] [(.int (1 : Int32)), (.int (1 : Int32))])) (fun _ k => XS.iload X27.here hx rfl (hb hby at_31) rfl k) ?_
    refine Go.st (S' := T27.setTop (mkF m 38 #[.val (.int p1), .val (.int (5 : Int32)), .val (.ref w_MINUTES), .val (.int (1 : Int32)), .val (.int (1 : Int32)), .unset, .unset] [])) (fun _ k => XS.icmpYes X27.here hx rfl (pc0 := 33) (pc' := 38) rfl (hb hby at_33) rfl (teq (by decide)).1 (by decide) (by decide) k) ?_
    refine Go.st (S' := T27.setTop (mkF m 39 #[.val (.int p1), .val (.int (5 : Int32)), .val (.ref w_MINUTES), .val (.int (1 : Int32)), .val (.int (1 : Int32)), .unset, .unset] [(.int (1 : Int32))])) (fun _ k => XS.iloadN X27.here hx rfl (hb hby at_38) rfl k) ?_
    refine Go.st (S' := T27.setTop (mkF m 44 #[.val (.int p1), .val (.int (5 : Int32)), .val (.ref w_MINUTES), .val (.int (1 : Int32)), .val (.int (1 : Int32)), .unset, .unset] [])) (fun _ k => XS.ifYes X27.here hx rfl (pc0 := 39) (pc' := 44) rfl (hb hby at_39) rfl ((if0 _ _).trans (feq (by decide)).2) (by decide) (by decide) k) ?_
    refine Go.st (S' := T27.setTop (mkF m 45 #[.val (.int p1), .val (.int (5 : Int32)), .val (.ref w_MINUTES), .val (.int (1 : Int32)), .val (.int (1 : Int32)), .unset, .unset] [(.ref w_MINUTES)])) (fun _ k => XS.aloadN X27.here hx rfl (hb hby at_44) rfl rfl k) ?_
    obtain ⟨_, T28, L28, X28, ⟨rfl, Nq28, eq28⟩, st28⟩ := own_callV X27 hx hZ hown (ww hw 17 rfl) (ww hw 18 rfl) (notFace_of_selects (args := #[]) (mvT hZ (ww hw 20 rfl))) (ww hw 20 rfl) (ww hw 19 rfl) (ww hw 6 rfl) (ww hw 21 rfl) (by decide) eq27 (E_MINUTES.ext O0) (rm3 l Z a0 hw [] w_YEARS w_DAYS w_WEEKS w_MONTHS w_MINUTES w_HOURS hS w_MINUTES (1 : Int64) (by decide) h0 O0 (E_MINUTES.ext O0) (F_MINUTES_minutes.ext O0)) 0 (by decide) (by decide) (by decide) (by decide) (g := (mkF m 45 #[.val (.int p1), .val (.int (5 : Int32)), .val (.ref w_MINUTES), .val (.int (1 : Int32)), .val (.int (1 : Int32)), .unset, .unset] [(.ref w_MINUTES)])) rfl (by rw [hml]; rfl) [] [] rfl (lenOf pd_428474 rfl) rfl (by show 2 * 0 + _ ≤ _; exact Nat.le_of_eq rfl) (hb hby at_45)
    have N28 := Fr.app N27 Nq28
    refine Go.st (S' := T28.setTop (mkF m 48 #[.val (.int p1), .val (.int (5 : Int32)), .val (.ref w_MINUTES), .val (.int (1 : Int32)), .val (.int (1 : Int32)), .unset, .unset] [(.long (1 : Int64))])) st28 ?_
    refine Go.st (S' := T28.setTop (mkF m 50 #[.val (.int p1), .val (.int (5 : Int32)), .val (.ref w_MINUTES), .val (.int (1 : Int32)), .val (.int (1 : Int32)), .val (.long (1 : Int64)), .second] [])) (fun _ k => XS.lstore X28.here hx rfl (hb hby at_48) rfl (l' := #[.val (.int p1), .val (.int (5 : Int32)), .val (.ref w_MINUTES), .val (.int (1 : Int32)), .val (.int (1 : Int32)), .val (.long (1 : Int64)), .second]) rfl k) ?_
    refine Go.st (S' := T28.setTop (mkF m 52 #[.val (.int p1), .val (.int (5 : Int32)), .val (.ref w_MINUTES), .val (.int (1 : Int32)), .val (.int (1 : Int32)), .val (.long (1 : Int64)), .second] [(.long (1 : Int64))])) (fun _ k => XS.lload X28.here hx rfl (hb hby at_50) rfl k) ?_
    refine Go.st (S' := T28.setTop (mkF m 53 #[.val (.int p1), .val (.int (5 : Int32)), .val (.ref w_MINUTES), .val (.int (1 : Int32)), .val (.int (1 : Int32)), .val (.long (1 : Int64)), .second] [(.int (5 : Int32)), (.long (1 : Int64))])) (fun _ k => XS.iloadN X28.here hx rfl (hb hby at_52) rfl k) ?_
    obtain ⟨_, T29, L29, X29, ⟨rfl, Nq29, eq29⟩, st29⟩ := own_callS X28 hx hZ hown (ww hw 23 rfl) (ww hw 24 rfl) (ww hw 3 rfl) (ww hw 25 rfl) (by decide) eq28 (rm4 l Z a0 hw [] w_YEARS w_DAYS w_WEEKS w_MONTHS w_MINUTES w_HOURS hS (5 : Int32) (1 : Int64) (by decide) h0 O0) 2 (by decide) (by decide) (by decide) (by decide) (g := (mkF m 53 #[.val (.int p1), .val (.int (5 : Int32)), .val (.ref w_MINUTES), .val (.int (1 : Int32)), .val (.int (1 : Int32)), .val (.long (1 : Int64)), .second] [(.int (5 : Int32)), (.long (1 : Int64))])) rfl (by rw [hml]; rfl) [(.int (5 : Int32))] [(.long (1 : Int64))] rfl (lenOf pd_674829 rfl) rfl (by show 2 * 0 + _ ≤ _; exact Nat.le_of_eq rfl) (hb hby at_53)
    have N29 := Fr.app N28 Nq29
    refine Go.st (S' := T29.setTop (mkF m 56 #[.val (.int p1), .val (.int (5 : Int32)), .val (.ref w_MINUTES), .val (.int (1 : Int32)), .val (.int (1 : Int32)), .val (.long (1 : Int64)), .second] [(.long (1 : Int64)), (.long (1 : Int64))])) st29 ?_
    refine Go.st (S' := T29.setTop (mkF m 57 #[.val (.int p1), .val (.int (5 : Int32)), .val (.ref w_MINUTES), .val (.int (1 : Int32)), .val (.int (1 : Int32)), .val (.long (1 : Int64)), .second] [(.int (lcmpW (1 : Int64) (1 : Int64)))])) (fun _ k => XS.lcmp X29.here hx rfl (hb hby at_56) rfl k) ?_
    refine Go.st (S' := T29.setTop (mkF m 60 #[.val (.int p1), .val (.int (5 : Int32)), .val (.ref w_MINUTES), .val (.int (1 : Int32)), .val (.int (1 : Int32)), .val (.long (1 : Int64)), .second] [])) (fun _ k => XS.ifNo X29.here hx rfl (hb hby at_57) rfl (own_Leq (by decide)).2 k) ?_
    refine Go.st (S' := T29.setTop (mkF m 61 #[.val (.int p1), .val (.int (5 : Int32)), .val (.ref w_MINUTES), .val (.int (1 : Int32)), .val (.int (1 : Int32)), .val (.long (1 : Int64)), .second] [(.int (1 : Int32))])) (fun _ k => XS.iconst X29.here hx rfl (hb hby at_60) k) ?_
    refine Go.st (S' := T29.setTop (mkF m 65 #[.val (.int p1), .val (.int (5 : Int32)), .val (.ref w_MINUTES), .val (.int (1 : Int32)), .val (.int (1 : Int32)), .val (.long (1 : Int64)), .second] [(.int (1 : Int32))])) (fun _ k => XS.goto X29.here hx rfl (pc0 := 61) (pc' := 65) rfl (hb hby at_61) (by decide) (by decide) k) ?_
    exact own_retN X29 hx hlk hret (by simp) (hb hby at_65) eq29 ⟨rfl, N29⟩ (by decide) (by decide)
set_option maxRecDepth 65536 in
set_option maxHeartbeats 400000000 in
theorem comes_1 {Post : Tables → Env → Array Value → State → Outcome → State → Prop} (hpost : ∀ tb e args s v u, (limb_1_1.after args s (.returned v) u = true ∧ limb_1_2.after args s (.returned v) u = true ∧ True) → FrameEnd s (.returned v) u (Jvm.fieldLocs frame_1_writes args s ++ Jvm.arrayLocs frame_1_arrays args s ++ Jvm.staticLocs frame_1_statics s) 0 0 → Post tb e args s (.returned v) u) :
    ArmFor flags0 classFile x code maxLocals ret World_1 tables_1 room_1 Calls_1 rest_1 Pre_1 Post := by
  intro l hfl _ _ p e ha hc hk s m args below hf hA hF happ hP
  obtain ⟨hcalls, hrest, hpre⟩ := hP
  obtain ⟨-, -, -, hnamed, -, -, -, hat⟩ := (Spec.applies_iff hf).mp happ
  obtain ⟨hg, hn⟩ := and_e (Cond.before_iff.mp (show (Jvm.Cond.and given_1 narrow_1).before args s = true from hpre))
  obtain ⟨hg1, hg2⟩ := and_e hg
  obtain ⟨v0, rfl⟩ : ∃ v0 : Value, args = #[v0] := by
    have hs : args.size = 1 := by simpa [Cond.value, given_1] using hg1
    obtain ⟨L⟩ := args
    match L, hs with
    | [v0], _ => exact ⟨v0, rfl⟩
  have hw := fun d (hd : d ∈ tables_1) => atoms_spec (ws := Jvm.Cond.code x code maxLocals ret :: tables_1) hat d (List.mem_cons_of_mem _ hd)
  have hfit : Fit s := fun {y c} hc i hi => by
    obtain ⟨ha, rfl⟩ := Array.getElem?_eq_some_iff.mp hc
    have q := List.all_eq_true.mp ((Array.all_eq_true_iff_forall_mem.mp hF) _ (Array.getElem_mem ha)) i (List.mem_range.mpr hi)
    simpa [Array.getElem?_eq_getElem hi] using q
  obtain ⟨i0, ei0⟩ := is_v hg2
  obtain rfl : v0 = (.int i0) := Option.some.inj ei0
  obtain ⟨hn1, hn2⟩ := and_e hn
  obtain ⟨hn3, hn4⟩ := and_e hn2
  obtain ⟨hn5, hn6⟩ := and_e hn4
  obtain ⟨hn7, hn8⟩ := and_e hn6
  obtain ⟨hn9, hn10⟩ := and_e hn8
  obtain ⟨hn11, hn12⟩ := and_e hn10
  obtain ⟨hn13, hn14⟩ := and_e hn12
  obtain ⟨hn15, hn16⟩ := and_e hn14
  obtain ⟨hn17, hn18⟩ := and_e hn16
  obtain ⟨hn19, hn20⟩ := and_e hn18
  obtain ⟨hn21, hn22⟩ := and_e hn20
  obtain ⟨w_YEARS, ev_YEARS⟩ := exa_v hn1
  have S_YEARS : Sta s s.heap "com/example/timed_rbac/timedrbac/policy/Calendar" "YEARS" "Lcom/example/timed_rbac/timedrbac/policy/Calendar;" (.ref w_YEARS) := Sta.start ev_YEARS (Or.inr ⟨(ww hw 6 rfl), (ww hw 7 rfl)⟩)
  have E_YEARS : Exa s s.heap w_YEARS "com/example/timed_rbac/timedrbac/policy/Calendar" := Exa.start ev_YEARS hn1
  have F_YEARS_minutes : Fld s s.heap w_YEARS "com/example/timed_rbac/timedrbac/policy/Calendar" "minutes" "J" (.long (0 : Int64)) := own_fldJ ev_YEARS hn3
  obtain ⟨w_DAYS, ev_DAYS⟩ := exa_v hn5
  have S_DAYS : Sta s s.heap "com/example/timed_rbac/timedrbac/policy/Calendar" "DAYS" "Lcom/example/timed_rbac/timedrbac/policy/Calendar;" (.ref w_DAYS) := Sta.start ev_DAYS (Or.inr ⟨(ww hw 6 rfl), (ww hw 16 rfl)⟩)
  have E_DAYS : Exa s s.heap w_DAYS "com/example/timed_rbac/timedrbac/policy/Calendar" := Exa.start ev_DAYS hn5
  have F_DAYS_minutes : Fld s s.heap w_DAYS "com/example/timed_rbac/timedrbac/policy/Calendar" "minutes" "J" (.long (1440 : Int64)) := own_fldJ ev_DAYS hn7
  obtain ⟨w_WEEKS, ev_WEEKS⟩ := exa_v hn9
  have S_WEEKS : Sta s s.heap "com/example/timed_rbac/timedrbac/policy/Calendar" "WEEKS" "Lcom/example/timed_rbac/timedrbac/policy/Calendar;" (.ref w_WEEKS) := Sta.start ev_WEEKS (Or.inr ⟨(ww hw 6 rfl), (ww hw 28 rfl)⟩)
  have E_WEEKS : Exa s s.heap w_WEEKS "com/example/timed_rbac/timedrbac/policy/Calendar" := Exa.start ev_WEEKS hn9
  have F_WEEKS_minutes : Fld s s.heap w_WEEKS "com/example/timed_rbac/timedrbac/policy/Calendar" "minutes" "J" (.long (10080 : Int64)) := own_fldJ ev_WEEKS hn11
  obtain ⟨w_MONTHS, ev_MONTHS⟩ := exa_v hn13
  have S_MONTHS : Sta s s.heap "com/example/timed_rbac/timedrbac/policy/Calendar" "MONTHS" "Lcom/example/timed_rbac/timedrbac/policy/Calendar;" (.ref w_MONTHS) := Sta.start ev_MONTHS (Or.inr ⟨(ww hw 6 rfl), (ww hw 31 rfl)⟩)
  have E_MONTHS : Exa s s.heap w_MONTHS "com/example/timed_rbac/timedrbac/policy/Calendar" := Exa.start ev_MONTHS hn13
  have F_MONTHS_minutes : Fld s s.heap w_MONTHS "com/example/timed_rbac/timedrbac/policy/Calendar" "minutes" "J" (.long (0 : Int64)) := own_fldJ ev_MONTHS hn15
  obtain ⟨w_MINUTES, ev_MINUTES⟩ := exa_v hn17
  have S_MINUTES : Sta s s.heap "com/example/timed_rbac/timedrbac/policy/Calendar" "MINUTES" "Lcom/example/timed_rbac/timedrbac/policy/Calendar;" (.ref w_MINUTES) := Sta.start ev_MINUTES (Or.inr ⟨(ww hw 6 rfl), (ww hw 33 rfl)⟩)
  have E_MINUTES : Exa s s.heap w_MINUTES "com/example/timed_rbac/timedrbac/policy/Calendar" := Exa.start ev_MINUTES hn17
  have F_MINUTES_minutes : Fld s s.heap w_MINUTES "com/example/timed_rbac/timedrbac/policy/Calendar" "minutes" "J" (.long (1 : Int64)) := own_fldJ ev_MINUTES hn19
  obtain ⟨w_HOURS, ev_HOURS⟩ := exa_v hn21
  have S_HOURS : Sta s s.heap "com/example/timed_rbac/timedrbac/policy/Calendar" "HOURS" "Lcom/example/timed_rbac/timedrbac/policy/Calendar;" (.ref w_HOURS) := Sta.start ev_HOURS (Or.inr ⟨(ww hw 6 rfl), (ww hw 35 rfl)⟩)
  have E_HOURS : Exa s s.heap w_HOURS "com/example/timed_rbac/timedrbac/policy/Calendar" := Exa.start ev_HOURS hn21
  have F_HOURS_minutes : Fld s s.heap w_HOURS "com/example/timed_rbac/timedrbac/policy/Calendar" "minutes" "J" (.long (60 : Int64)) := own_fldJ ev_HOURS hn22
  obtain ⟨n, o, h1, h2, h3, _, L, rfl, ⟨rfl, N⟩, hq⟩ := rm0 l s _ hw tables_1 w_YEARS w_DAYS w_WEEKS w_MONTHS w_MINUTES w_HOURS ⟨S_YEARS, E_YEARS, F_YEARS_minutes, S_DAYS, E_DAYS, F_DAYS_minutes, S_WEEKS, E_WEEKS, F_WEEKS_minutes, S_MONTHS, E_MONTHS, F_MONTHS_minutes, S_MINUTES, E_MINUTES, F_MINUTES_minutes, S_HOURS, E_HOURS, F_HOURS_minutes⟩ i0 s.heap (own_Ext.refl _)  p e ha hc hk s m _ below hf ((Spec.applies_iff_loose hf).mp happ).1 ⟨rfl, State.Warmed39.refl s, rfl⟩ trivial
  refine ⟨n, _, h1, h2, h3, hpost _ _ _ _ _ _ ⟨Cond.after_iff.mpr rfl, Cond.after_iff.mpr (eq_i res_at (Term.int_eval (1)) rfl), trivial⟩ ⟨hq.1, hq.2.1, (hq.2.2.sift fun y hy => Or.inr (N y hy)).mono (by decide) (by decide)⟩⟩
theorem main_1_1 : Claimed_1_1 := comes_1 fun _ _ _ _ _ _ h hF => ⟨h.1, hF⟩
theorem main_1_2 : Claimed_1_2 := comes_1 fun _ _ _ _ _ _ h hF => ⟨h.2.1, hF⟩
end Jvm.Pilot.@@N@@
namespace Jvm.Pilot.@@N@@
open Jvm Jvm.ClassFile Sem Op Lib Jvm.Free Jvm.Stand Jvm.Pilot.@@N@@.Jvm.D
/-! MADE BY PROGRAM (witnessworld.py) out of the Statement's table words and the real class files: 12 classes; the members and pool entries that the words name. The judged class is class 1, her method 3. -/
namespace start1
open Jvm.ClassFile
def u (s : String) : CpInfo := .utf8 (stringToUtf16 s)
/-- a pool by its gaps: so many unusable entries, then the entry; so many at the end -/
def gap : Nat → List CpInfo → List CpInfo
  | 0, r => r
  | n + 1, r => .unusable :: gap n r
def poolList (es : List (Nat × CpInfo)) (last : Nat) : List CpInfo := es.foldr (fun e r => gap e.1 (e.2 :: r)) (gap last [])
def pool (es : List (Nat × CpInfo)) (last : Nat) : Array CpInfo := ⟨poolList es last⟩
def fileOf (pool : Array CpInfo) (this : Nat) (attrs : Array Attribute := #[]) (ms : Array MethodInfo := #[]) (fl : Nat := 33) (sup : Nat := 0) (ifs : Array Nat := #[]) (fds : Array FieldInfo := #[]) : ClassFile where
  minorVersion := 0
  majorVersion := 65
  constantPool := pool
  accessFlags := fl
  thisClass := this
  superClass := sup
  interfaces := ifs
  fields := fds
  methods := ms
  attributes := attrs
def plain (name : String) (sup : Option ClassId) : Class where
  name := name
  kind := .ordinary
  loader := none
  accessFlags := 33
  super := sup
  interfaces := #[]
  cf := none
  fields := #[]
  methods := #[]
  instanceTypes := #[]
  staticTypes := #[]
  resolved := #[]
  callSites := []
  init := .initialized
  statics := none
  mirror := none

def pool0 : Array CpInfo := pool [(5, u "<init>"), (0, u "()V"), (1, .class_ 10), (1, u "java/lang/Object")] 113

def k0m0 : Method := { name := "<init>", desc := "()V", sig := { parameters := [], returnType := none }, accessFlags := 1, code := none }
/-- java/lang/Object -/
def k0 : Class := { plain "java/lang/Object" none with
  accessFlags := 33
  interfaces := #[]
  cf := some (fileOf pool0 8 #[] #[{ accessFlags := 1, nameIndex := 5, descriptorIndex := 6, attributes := #[] }] 33 0 #[] #[])
  fields := #[]
  methods := #[k0m0]
  instanceTypes := #[]
  staticTypes := #[]
  resolved := Array.replicate 124 none
  statics := none }

def pool1 : Array CpInfo := pool [(2, .class_ 4), (1, u "java/lang/Object"), (0, u "<init>"), (0, u "()V"), (0, .fieldref 8 9), (0, .class_ 10), (0, .nameAndType 11 12), (0, u "com/example/timed_rbac/timedrbac/policy/Calendar"), (0, u "YEARS"), (0, u "Lcom/example/timed_rbac/timedrbac/policy/Calendar;"), (0, .fieldref 8 14), (0, .nameAndType 15 12), (0, u "MONTHS"), (0, .fieldref 8 17), (0, .nameAndType 18 12), (0, u "WEEKS"), (0, .fieldref 8 20), (0, .nameAndType 21 12), (0, u "DAYS"), (0, .fieldref 8 23), (0, .nameAndType 24 12), (0, u "HOURS"), (0, .fieldref 8 26), (0, .nameAndType 27 12), (0, u "MINUTES"), (0, .long 10080), (1, .long 1440), (1, .long 60), (1, .integer 2147483647), (0, .methodref 36 37), (0, .class_ 38), (0, .nameAndType 39 40), (0, u "com/example/timed_rbac/timedrbac/policy/CalendarHasFixedLengthPinLaw"), (0, u "pick"), (0, u "(I)Lcom/example/timed_rbac/timedrbac/policy/Calendar;"), (0, .methodref 8 42), (0, .nameAndType 43 44), (0, u "hasFixedLength"), (0, u "()Z"), (0, .methodref 8 46), (0, .nameAndType 47 48), (0, u "minutes"), (0, u "()J"), (0, .methodref 36 50), (0, .nameAndType 51 52), (0, u "expectedMinutes"), (0, u "(I)J"), (3, u "law"), (0, u "(I)Z")] 2

def k1m0 : Method := { name := "<init>", desc := "()V", sig := { parameters := [], returnType := none }, accessFlags := 1, code := none }
def k1c1 : Code := { maxStack := 2, maxLocals := 1, code := method_2_code, exceptionTable := #[], attributes := #[] }
def k1m1 : Method := { name := "pick", desc := "(I)Lcom/example/timed_rbac/timedrbac/policy/Calendar;", sig := { parameters := [.int], returnType := some (.object "com/example/timed_rbac/timedrbac/policy/Calendar") }, accessFlags := 10, code := some k1c1 }
def k1c2 : Code := { maxStack := 2, maxLocals := 1, code := method_3_code, exceptionTable := #[], attributes := #[] }
def k1m2 : Method := { name := "expectedMinutes", desc := "(I)J", sig := { parameters := [.int], returnType := some .long }, accessFlags := 10, code := some k1c2 }
def k1c3 : Code := { maxStack := 4, maxLocals := 7, code := code, exceptionTable := #[], attributes := #[] }
def k1m3 : Method := { name := "law", desc := "(I)Z", sig := { parameters := [.int], returnType := some .boolean }, accessFlags := 9, code := some k1c3 }
/-- com/example/timed_rbac/timedrbac/policy/CalendarHasFixedLengthPinLaw -/
def k1 : Class := { plain "com/example/timed_rbac/timedrbac/policy/CalendarHasFixedLengthPinLaw" (some 0) with
  accessFlags := 49
  interfaces := #[]
  cf := some (fileOf pool1 36 #[] #[{ accessFlags := 1, nameIndex := 5, descriptorIndex := 6, attributes := #[] }, { accessFlags := 10, nameIndex := 39, descriptorIndex := 40, attributes := #[] }, { accessFlags := 10, nameIndex := 51, descriptorIndex := 52, attributes := #[] }, { accessFlags := 9, nameIndex := 56, descriptorIndex := 57, attributes := #[] }] 49 2 #[] #[])
  fields := #[]
  methods := #[k1m0, k1m1, k1m2, k1m3]
  instanceTypes := #[]
  staticTypes := #[]
  resolved := Array.replicate 60 none
  statics := none }

def pool2 : Array CpInfo := pool [(1, .class_ 2), (0, u "java/lang/constant/Constable"), (0, .class_ 4), (0, u "java/lang/Object")] 6

/-- java/lang/constant/Constable -/
def k2 : Class := { plain "java/lang/constant/Constable" (some 0) with
  accessFlags := 1537
  interfaces := #[]
  cf := some (fileOf pool2 1 #[] #[] 1537 3 #[] #[])
  fields := #[]
  methods := #[]
  instanceTypes := #[]
  staticTypes := #[]
  resolved := Array.replicate 11 none
  statics := none }

def pool3 : Array CpInfo := pool [(1, .class_ 2), (0, u "java/lang/Comparable"), (0, .class_ 4), (0, u "java/lang/Object")] 7

/-- java/lang/Comparable -/
def k3 : Class := { plain "java/lang/Comparable" (some 0) with
  accessFlags := 1537
  interfaces := #[]
  cf := some (fileOf pool3 1 #[] #[] 1537 3 #[] #[])
  fields := #[]
  methods := #[]
  instanceTypes := #[]
  staticTypes := #[]
  resolved := Array.replicate 12 none
  statics := none }

def pool4 : Array CpInfo := pool [(1, .class_ 2), (0, u "java/io/Serializable"), (0, .class_ 4), (0, u "java/lang/Object")] 2

/-- java/io/Serializable -/
def k4 : Class := { plain "java/io/Serializable" (some 0) with
  accessFlags := 1537
  interfaces := #[]
  cf := some (fileOf pool4 1 #[] #[] 1537 3 #[] #[])
  fields := #[]
  methods := #[]
  instanceTypes := #[]
  staticTypes := #[]
  resolved := Array.replicate 7 none
  statics := none }

def pool5 : Array CpInfo := pool [(2, .class_ 4), (1, u "java/lang/Enum"), (0, u "name"), (0, u "Ljava/lang/String;"), (2, u "ordinal"), (0, u "I"), (1, .class_ 14), (1, u "java/lang/Object"), (4, u "hash"), (86, .class_ 108), (1, u "java/lang/Enum$EnumDesc"), (2, .class_ 112), (0, u "java/lang/constant/Constable"), (0, .class_ 114), (0, u "java/lang/Comparable"), (0, .class_ 116), (0, u "java/io/Serializable")] 87

/-- java/lang/Enum -/
def k5 : Class := { plain "java/lang/Enum" (some 0) with
  accessFlags := 1057
  interfaces := #[2, 3, 4]
  cf := some (fileOf pool5 2 #[.nestMembers #[106]] #[] 1057 12 #[111, 113, 115] #[{ accessFlags := 18, nameIndex := 5, descriptorIndex := 6, attributes := #[] }, { accessFlags := 18, nameIndex := 9, descriptorIndex := 10, attributes := #[] }, { accessFlags := 2, nameIndex := 19, descriptorIndex := 10, attributes := #[] }])
  fields := #[{ name := "name", type := (.object "java/lang/String"), accessFlags := 18, slot := 0, constantValue := 0 }, { name := "ordinal", type := .int, accessFlags := 18, slot := 1, constantValue := 0 }, { name := "hash", type := .int, accessFlags := 2, slot := 2, constantValue := 0 }]
  methods := #[]
  instanceTypes := #[(.object "java/lang/String"), .int, .int]
  staticTypes := #[]
  resolved := Array.replicate 204 none
  statics := none }

def pool6 : Array CpInfo := pool [(1, .class_ 2), (0, u "com/example/timed_rbac/timedrbac/policy/Calendar"), (2, u "YEARS"), (0, u "Lcom/example/timed_rbac/timedrbac/policy/Calendar;"), (2, u "MONTHS"), (2, u "WEEKS"), (2, u "DAYS"), (2, u "HOURS"), (2, u "MINUTES"), (2, u "$VALUES"), (0, u "[Lcom/example/timed_rbac/timedrbac/policy/Calendar;"), (6, .class_ 34), (1, u "java/lang/Enum"), (8, u "written"), (0, u "Ljava/lang/String;"), (2, u "unit"), (0, .fieldref 1 49), (0, .nameAndType 50 51), (0, u "minutes"), (0, u "J"), (2, u "origin"), (2, u "mostUnitsIn"), (0, u "[I"), (20, .methodref 1 80), (0, .nameAndType 81 82), (0, u "hasFixedLength"), (0, u "()Z"), (83, u "()J")] 29

def k6c0 : Code := { maxStack := 4, maxLocals := 1, code := prog_30_method_5_code, exceptionTable := #[], attributes := #[] }
def k6m0 : Method := { name := "hasFixedLength", desc := "()Z", sig := { parameters := [], returnType := some .boolean }, accessFlags := 1, code := some k6c0 }
def k6c1 : Code := { maxStack := 3, maxLocals := 1, code := prog_30_method_6_code, exceptionTable := #[], attributes := #[] }
def k6m1 : Method := { name := "minutes", desc := "()J", sig := { parameters := [], returnType := some .long }, accessFlags := 1, code := some k6c1 }
/-- com/example/timed_rbac/timedrbac/policy/Calendar -/
def k6 : Class := { plain "com/example/timed_rbac/timedrbac/policy/Calendar" (some 5) with
  accessFlags := 16433
  interfaces := #[]
  cf := some (fileOf pool6 1 #[] #[{ accessFlags := 1, nameIndex := 81, descriptorIndex := 82, attributes := #[] }, { accessFlags := 1, nameIndex := 50, descriptorIndex := 166, attributes := #[] }] 16433 32 #[] #[{ accessFlags := 16409, nameIndex := 5, descriptorIndex := 6, attributes := #[] }, { accessFlags := 16409, nameIndex := 9, descriptorIndex := 6, attributes := #[] }, { accessFlags := 16409, nameIndex := 12, descriptorIndex := 6, attributes := #[] }, { accessFlags := 16409, nameIndex := 15, descriptorIndex := 6, attributes := #[] }, { accessFlags := 16409, nameIndex := 18, descriptorIndex := 6, attributes := #[] }, { accessFlags := 16409, nameIndex := 21, descriptorIndex := 6, attributes := #[] }, { accessFlags := 18, nameIndex := 43, descriptorIndex := 44, attributes := #[] }, { accessFlags := 18, nameIndex := 47, descriptorIndex := 44, attributes := #[] }, { accessFlags := 18, nameIndex := 50, descriptorIndex := 51, attributes := #[] }, { accessFlags := 18, nameIndex := 54, descriptorIndex := 51, attributes := #[] }, { accessFlags := 18, nameIndex := 57, descriptorIndex := 58, attributes := #[] }, { accessFlags := 4122, nameIndex := 24, descriptorIndex := 25, attributes := #[] }])
  fields := #[{ name := "YEARS", type := (.object "com/example/timed_rbac/timedrbac/policy/Calendar"), accessFlags := 16409, slot := 0, constantValue := 0 }, { name := "MONTHS", type := (.object "com/example/timed_rbac/timedrbac/policy/Calendar"), accessFlags := 16409, slot := 1, constantValue := 0 }, { name := "WEEKS", type := (.object "com/example/timed_rbac/timedrbac/policy/Calendar"), accessFlags := 16409, slot := 2, constantValue := 0 }, { name := "DAYS", type := (.object "com/example/timed_rbac/timedrbac/policy/Calendar"), accessFlags := 16409, slot := 3, constantValue := 0 }, { name := "HOURS", type := (.object "com/example/timed_rbac/timedrbac/policy/Calendar"), accessFlags := 16409, slot := 4, constantValue := 0 }, { name := "MINUTES", type := (.object "com/example/timed_rbac/timedrbac/policy/Calendar"), accessFlags := 16409, slot := 5, constantValue := 0 }, { name := "written", type := (.object "java/lang/String"), accessFlags := 18, slot := 3, constantValue := 0 }, { name := "unit", type := (.object "java/lang/String"), accessFlags := 18, slot := 4, constantValue := 0 }, { name := "minutes", type := .long, accessFlags := 18, slot := 5, constantValue := 0 }, { name := "origin", type := .long, accessFlags := 18, slot := 6, constantValue := 0 }, { name := "mostUnitsIn", type := (.array .int), accessFlags := 18, slot := 7, constantValue := 0 }, { name := "$VALUES", type := (.array (.object "com/example/timed_rbac/timedrbac/policy/Calendar")), accessFlags := 4122, slot := 6, constantValue := 0 }]
  methods := #[k6m0, k6m1]
  instanceTypes := #[(.object "java/lang/String"), .int, .int, (.object "java/lang/String"), (.object "java/lang/String"), .long, .long, (.array .int)]
  staticTypes := #[(.object "com/example/timed_rbac/timedrbac/policy/Calendar"), (.object "com/example/timed_rbac/timedrbac/policy/Calendar"), (.object "com/example/timed_rbac/timedrbac/policy/Calendar"), (.object "com/example/timed_rbac/timedrbac/policy/Calendar"), (.object "com/example/timed_rbac/timedrbac/policy/Calendar"), (.object "com/example/timed_rbac/timedrbac/policy/Calendar"), (.array (.object "com/example/timed_rbac/timedrbac/policy/Calendar"))]
  resolved := Array.replicate 196 none
  statics := some 0 }

def pool7 : Array CpInfo := pool [(1, u "java/lang/Cloneable"), (0, .class_ 1), (0, u "java/lang/Object"), (0, .class_ 3)] 3

/-- java/lang/Cloneable -/
def k7 : Class := { plain "java/lang/Cloneable" (some 0) with
  accessFlags := 1537
  interfaces := #[]
  cf := some (fileOf pool7 2 #[] #[] 1537 4 #[] #[])
  fields := #[]
  methods := #[]
  instanceTypes := #[]
  staticTypes := #[]
  resolved := Array.replicate 8 none
  statics := none }

/-- the primitive byte -/
def k8 : Class := { plain "byte" none with kind := .primitive 'B', accessFlags := 0x411 }
/-- [B -/
def k9 : Class := { plain "[B" (some 0) with kind := .array 8 .byte, interfaces := #[7, 4], accessFlags := 1041 }

/-- the primitive int -/
def k10 : Class := { plain "int" none with kind := .primitive 'I', accessFlags := 0x411 }
/-- [I -/
def k11 : Class := { plain "[I" (some 0) with kind := .array 10 .int, interfaces := #[7, 4], accessFlags := 1041 }

def heap : Heap := #[{ cls := 6, slots := #[.ref 1, .ref 4, .ref 3, .ref 2, .ref 6, .ref 5, .null], vm := .statics 6 },
  { cls := 6, slots := #[.null, .int 0, .int 0, .null, .null, .long (0), .long 0, .null], vm := .none },
  { cls := 6, slots := #[.null, .int 0, .int 0, .null, .null, .long (1440), .long 0, .null], vm := .none },
  { cls := 6, slots := #[.null, .int 0, .int 0, .null, .null, .long (10080), .long 0, .null], vm := .none },
  { cls := 6, slots := #[.null, .int 0, .int 0, .null, .null, .long (0), .long 0, .null], vm := .none },
  { cls := 6, slots := #[.null, .int 0, .int 0, .null, .null, .long (1), .long 0, .null], vm := .none },
  { cls := 6, slots := #[.null, .int 0, .int 0, .null, .null, .long (60), .long 0, .null], vm := .none }]
def classes : Array Class := #[k0, k1, k2, k3, k4, k5, k6, k7, k8, k9, k10, k11]
def interned : List (Array UInt16 × Addr) := []
def slotsUsed : Nat := 55
def theMethod : MethodId := ⟨1, 3⟩
def args0 : Array Value := #[.int 5]
def aboutOver (below : List Frame) : State where
  vm := { classes := classes, interned := interned.toArray }
  heap := heap
  slotsUsed := slotsUsed
  threads := #[{ frames := .invoking theMethod args0 :: below }]
def below0 : List Frame := [.native { method := ⟨0, 0⟩, args := #[] }]
def about1 : State := aboutOver below0
def p0 : Program := .bare "" "" ""
def e0 : Env := launch0.env 0 0 0
theorem w_frames : about1.frames = Frame.invoking theMethod args0 :: below0 := rfl
set_option maxRecDepth 65536 in
theorem w_args : argsFit about1.vm theMethod args0 = true := by decide +kernel
set_option maxRecDepth 65536 in
theorem w_heap : heapFits about1 = true := by decide +kernel
set_option maxRecDepth 65536 in
theorem w_runnable : about1.curStatus? = some .runnable := by decide +kernel
set_option maxRecDepth 65536 in
theorem w_alone : about1.alone = true := by decide +kernel
set_option maxRecDepth 65536 in
theorem w_named : about1.methodNamed? x = some theMethod := by decide +kernel
set_option maxRecDepth 65536 in
theorem w_hears : about1.hears theMethod below0 = true := by decide +kernel
set_option maxRecDepth 65536 in
theorem w_ripe : about1.ripe theMethod args0 below0 = true := by decide +kernel
theorem w_running : about1.status = .running := rfl
set_option maxRecDepth 65536 in
theorem w_room : about1.hasRoom e0.platform room_1 = true :=
  launch0.hasRoom_least _ room_1 (by decide +kernel) (by decide +kernel) (by decide +kernel) (by decide +kernel) (by decide +kernel) (by decide +kernel)
theorem allAtoms_all (ts : List Jvm.Cond) (a : Array Jvm.Value) (st : Jvm.State) : (allAtoms ts).before a st = ts.all (fun c => c.before a st) := by
  induction ts with
  | nil => rfl
  | cons c t ih =>
    show (Jvm.Cond.and c (allAtoms t)).before a st = _
    rw [Jvm.Cond.before_and, ih, List.all_cons]
def words1 : List Jvm.Cond := Jvm.Cond.code x code maxLocals ret :: tables_1
/-- a 'code' word, met by the world's own term for the bytes: nothing is compared byte by byte -/
theorem code_word {y : MethodName} {bytes : ByteArray} {mx : Nat} {rt : Option FieldType} {a : Array Value} {s : State} {m : MethodId} {meth : Method} {c : Code} (h1 : s.methodNamed? y = some m) (h2 : s.vm.method? m = some meth) (h3 : meth.code = some c) (h4 : c.code = bytes)
    (h5 : (c.maxLocals == mx && c.exceptionTable.isEmpty && decide (c.maxStack ≤ mostOperands) && decide (meth.sig.returnType = rt) && !meth.locks && decide (parseMethodDescriptor y.desc = some meth.sig)) = true) : (Jvm.Cond.code y bytes mx rt).before a s = true := by
  simp only [Bool.and_eq_true, beq_iff_eq, Bool.not_eq_true', decide_eq_true_eq] at h5
  obtain ⟨⟨⟨⟨⟨g1, g2⟩, g3⟩, g4⟩, g5⟩, g6⟩ := h5
  simp [Cond.before, Cond.holds, Cond.value, h1, h2, h3, h4, g1, g2, g3, g4, g5, g6]
def isCode : Jvm.Cond → Bool
  | .code _ _ _ _ => true
  | _ => false
theorem all_split {L : List Jvm.Cond} {P : Jvm.Cond → Bool} (h1 : L.all (fun c => isCode c || P c) = true) (h2 : ∀ c ∈ L.filter isCode, P c = true) : L.all P = true := by
  refine List.all_eq_true.mpr fun c hc => ?_
  have h := List.all_eq_true.mp h1 c hc
  rcases Bool.eq_false_or_eq_true (isCode c) with hi | hi
  · exact h2 c (List.mem_filter.mpr ⟨hc, hi⟩)
  · simpa [hi] using h
set_option maxRecDepth 65536 in
theorem w_c0 : (Jvm.Cond.code x code maxLocals ret).before args0 about1 = true := code_word (m := ⟨1, 3⟩) (meth := k1m3) (c := k1c3) (by decide +kernel) rfl rfl rfl (by decide +kernel)
set_option maxRecDepth 65536 in
theorem w_c1 : (Jvm.Cond.code ({ cls := "com/example/timed_rbac/timedrbac/policy/CalendarHasFixedLengthPinLaw", name := "pick", desc := "(I)Lcom/example/timed_rbac/timedrbac/policy/Calendar;" } : Jvm.MethodName) method_2_code (1 : Nat) (Option.some (Jvm.ClassFile.FieldType.object "com/example/timed_rbac/timedrbac/policy/Calendar"))).before args0 about1 = true := code_word (m := ⟨1, 1⟩) (meth := k1m1) (c := k1c1) (by decide +kernel) rfl rfl rfl (by decide +kernel)
set_option maxRecDepth 65536 in
theorem w_c2 : (Jvm.Cond.code ({ cls := "com/example/timed_rbac/timedrbac/policy/Calendar", name := "hasFixedLength", desc := "()Z" } : Jvm.MethodName) prog_30_method_5_code (1 : Nat) (Option.some Jvm.ClassFile.FieldType.boolean)).before args0 about1 = true := code_word (m := ⟨6, 0⟩) (meth := k6m0) (c := k6c0) (by decide +kernel) rfl rfl rfl (by decide +kernel)
set_option maxRecDepth 65536 in
theorem w_c3 : (Jvm.Cond.code ({ cls := "com/example/timed_rbac/timedrbac/policy/Calendar", name := "minutes", desc := "()J" } : Jvm.MethodName) prog_30_method_6_code (1 : Nat) (Option.some Jvm.ClassFile.FieldType.long)).before args0 about1 = true := code_word (m := ⟨6, 1⟩) (meth := k6m1) (c := k6c1) (by decide +kernel) rfl rfl rfl (by decide +kernel)
set_option maxRecDepth 65536 in
theorem w_c4 : (Jvm.Cond.code ({ cls := "com/example/timed_rbac/timedrbac/policy/CalendarHasFixedLengthPinLaw", name := "expectedMinutes", desc := "(I)J" } : Jvm.MethodName) method_3_code (1 : Nat) (Option.some Jvm.ClassFile.FieldType.long)).before args0 about1 = true := code_word (m := ⟨1, 2⟩) (meth := k1m2) (c := k1c2) (by decide +kernel) rfl rfl rfl (by decide +kernel)
def codes1 : List Jvm.Cond := [Jvm.Cond.code x code maxLocals ret, Jvm.Cond.code ({ cls := "com/example/timed_rbac/timedrbac/policy/CalendarHasFixedLengthPinLaw", name := "pick", desc := "(I)Lcom/example/timed_rbac/timedrbac/policy/Calendar;" } : Jvm.MethodName) method_2_code (1 : Nat) (Option.some (Jvm.ClassFile.FieldType.object "com/example/timed_rbac/timedrbac/policy/Calendar")), Jvm.Cond.code ({ cls := "com/example/timed_rbac/timedrbac/policy/Calendar", name := "hasFixedLength", desc := "()Z" } : Jvm.MethodName) prog_30_method_5_code (1 : Nat) (Option.some Jvm.ClassFile.FieldType.boolean), Jvm.Cond.code ({ cls := "com/example/timed_rbac/timedrbac/policy/Calendar", name := "minutes", desc := "()J" } : Jvm.MethodName) prog_30_method_6_code (1 : Nat) (Option.some Jvm.ClassFile.FieldType.long), Jvm.Cond.code ({ cls := "com/example/timed_rbac/timedrbac/policy/CalendarHasFixedLengthPinLaw", name := "expectedMinutes", desc := "(I)J" } : Jvm.MethodName) method_3_code (1 : Nat) (Option.some Jvm.ClassFile.FieldType.long)]
set_option maxRecDepth 65536 in
theorem codes_eq : words1.filter isCode = codes1 := rfl
theorem w_codes : ∀ c ∈ words1.filter isCode, c.before args0 about1 = true := by
  rw [codes_eq]
  intro c hc
  simp only [codes1, List.mem_cons, List.not_mem_nil, or_false] at hc
  rcases hc with rfl | rfl | rfl | rfl | rfl
  · exact w_c0
  · exact w_c1
  · exact w_c2
  · exact w_c3
  · exact w_c4
set_option maxRecDepth 65536 in
theorem w_t1 : (words1.take 24).all (fun c => isCode c || c.before args0 about1) = true := by decide +kernel
set_option maxRecDepth 65536 in
theorem w_t2 : (words1.drop 24).all (fun c => isCode c || c.before args0 about1) = true := by decide +kernel
theorem w_tables : (allAtoms (Jvm.Cond.code x code maxLocals ret :: tables_1)).before args0 about1 = true := by
  rw [allAtoms_all]
  show words1.all (fun c => c.before args0 about1) = true
  refine all_split ?_ w_codes
  rw [← List.take_append_drop 24 words1, List.all_append, w_t1, w_t2]
  rfl
set_option maxRecDepth 65536 in
theorem w_case : (Jvm.Cond.and given_1 narrow_1).before args0 about1 = true := by decide +kernel
theorem w_applies : (headSpec (Jvm.Cond.code x code maxLocals ret :: tables_1) room_1).applies x e0.platform about1 = true :=
  (Spec.applies_iff w_frames).mpr ⟨w_running, w_runnable, w_alone, w_named, w_hears, w_ripe, w_room, w_tables⟩
theorem atStart : AtStart classFile x code maxLocals ret World_1 tables_1 room_1 Calls_1 rest_1 Pre_1 launch0 p0 e0 about1 theMethod args0 below0 :=
  ⟨lists_1, trivial, launch0.admits_env _ _ _, launch0.least_env, fairChoices_fair.cas, fairChoices_fair.clock, w_frames, w_args, w_heap, w_applies, trivial, trivial, w_case⟩
end start1
theorem witness_1 : WitnessClaimed_1 := ⟨start1.p0, start1.e0, start1.about1, start1.theMethod, start1.args0, start1.below0, start1.atStart⟩
end Jvm.Pilot.@@N@@
