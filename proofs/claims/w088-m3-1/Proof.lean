import JvmDerived
import JvmDerived.Pilot.@@N@@Statement
import JvmDerived.Pilot.@@N@@Code
set_option linter.unusedVariables false
set_option linter.unusedSimpArgs false
@@BLOCK:NumsL.lean.txt@@
namespace Jvm.Pilot.@@N@@
open Jvm Jvm.ClassFile Sem Op Lib Jvm.Free Jvm.Stand Jvm.LawKit Jvm.RoadKit Bundle Jvm.Pilot.@@N@@.Jvm.D
section OwnKit
variable {p : Program} {l : Launch} {e : Env} {R : Room} {s : State} {m : MethodId} {args : Array Value} {below : List Frame} {meth : Method} {c : Code} {T : State} {locs : List Loc} {cells slots : Nat} {Z : State} {a0 : Array Value} {h h' : Heap}
/-- from S the run comes to an end of which P holds -/
def Go (p : Program) (e : Env) (below : List Frame) (P : State → Outcome → Prop) (S : State) : Prop :=
  ∃ s₂ o, Steps p.tables e below S s₂ ∧ s₂.status = .running ∧ Ended s₂ below o ∧ P s₂ o
/-- what a contract says of the end -/
def Ret (s : State) (Q : Option Value → Heap → List Loc → Prop) (cs sl : Nat) : State → Outcome → Prop :=
  fun s₂ o => ∃ v L, o = .returned v ∧ Q v s₂.heap L ∧ FrameEnd s o s₂ L cs sl
theorem Go.st {P : State → Outcome → Prop} {S S' : State} (k : ∀ t, Steps p.tables e below S' t → Steps p.tables e below S t) (g : Go p e below P S') : Go p e below P S := by
  obtain ⟨t, o, q, r⟩ := g
  exact ⟨t, o, k t q, r⟩
/-- a contract in this family: entered with these arguments on this heap -/
abbrev Con (l : Launch) (Z : State) (h0 : Heap) (y : MethodName) (bytes : ByteArray) (maxL : Nat) (ret : Option FieldType) (ws : List Jvm.Cond) (rm : Room) (as' : Array Value) (Q : Option Value → Heap → List Loc → Prop) : Prop :=
  MetFree l y (head1 (Jvm.Cond.code y bytes maxL ret :: ws) rm) (fun a U => a = as' ∧ Z.Warmed39 U.vm ∧ U.heap = h0) (fun _ _ _ _ _ => True) (fun _ U o U' => ∃ v L, o = .returned v ∧ Q v U'.heap L ∧ FrameEnd U o U' L rm.cells rm.slots)
theorem own_con {h0 : Heap} {y : MethodName} {bytes : ByteArray} {maxL : Nat} {ret : Option FieldType} {ws : List Jvm.Cond} {rm : Room} {as' : Array Value} {Q : Option Value → Heap → List Loc → Prop} (hpl : plainFor y = true)
    (body : ∀ (p : Program) (e : Env) (s : State) (m : MethodId) (below : List Frame) (meth : Method) (c : Code) (T : State), Stand p l e rm s m as' below meth c T [] 0 0 → p.tables.exec = Jvm.exec → c.code = bytes → c.maxLocals = maxL → s.vm.findClass y.cls = some m.cls → meth.name = y.name → meth.sig.returnType = ret → meth.locks = false → Z.Warmed39 s.vm → T.heap = h0 →
      Go p e below (Ret s Q rm.cells rm.slots) (T.setTop (entryFrame m as' maxL))) : Con l Z h0 y bytes maxL ret ws rm as' Q := by
  refine MetFree.of_bodySF hpl hisR ?_
  intro p e s m args below meth c s₁ Bd hml0 hP hK
  obtain ⟨rfl, hZ, hh⟩ := hP
  exact body p e s m below meth c s₁ (Stand.of_body Bd) Bd.exec Bd.bytes hml0 (findClass_of_methodNamed Bd.named) (name_of_methodNamed Bd.named Bd.method).1 Bd.returns Bd.notSynchronized hZ (by rw [← hh, Bd.state]; rfl)
theorem own_callS (X : Stand p l e R s m args below meth c T locs cells slots) (hx : p.tables.exec = Jvm.exec) (hZ : Z.Warmed39 s.vm)
    {own : String} {index : Nat} {y : MethodName} {bytes : ByteArray} {maxL : Nat} {ret : Option FieldType} {rm : Room} {as' : Array Value} {Q : Option Value → Heap → List Loc → Prop}
    (hown : s.vm.findClass own = some m.cls) (w1 : (Jvm.Cond.methodLink own index y).before a0 Z = true) (w2 : (Jvm.Cond.static y).before a0 Z = true) (w3 : (Jvm.Cond.initialized y.cls).before a0 Z = true) (w4 : (Jvm.Cond.code y bytes maxL ret).before a0 Z = true)
    (hy : y.cls ≠ "java/lang/invoke/MethodHandle" ∧ y.cls ≠ "java/lang/invoke/VarHandle") (eT : T.heap = h) (hM : Con l Z h y bytes maxL ret [] rm as' Q)
    (W : Nat) (hf : rm.frames + 1 ≤ R.frames) (hl : W + (maxL + 11) + rm.locals ≤ R.locals) (hc : cells + rm.cells ≤ R.cells) (hs : slots + rm.slots ≤ R.slots)
    {g : JFrame} (hg : g.method = m) (hsize : g.locals.size = c.maxLocals) (argsL rest : List Value) (has : argsL.toArray = as') (hlen : ∀ sig, parseMethodDescriptor y.desc = some sig → argsL.length = sig.parameters.length) (hstack : g.stack = argsL.reverse ++ rest) (hW : 2 * g.monitorRoom + (rest.map fun v => v.category).sum ≤ W)
    (hd : decode c.code g.pc = .ok (.invokestatic index, 3)) :
    ∃ (v : Option Value) (T' : State) (L : List Loc), Stand p l e R s m args below meth c T' (locs ++ L) (cells + rm.cells) (slots + rm.slots) ∧ Q v T'.heap L ∧ ∀ t, Steps p.tables e below (T'.setTop { g with pc := g.pc + 3, stack := v.toList ++ rest }) t → Steps p.tables e below (T.setTop g) t := by
  obtain ⟨v, _, ⟨T', L', k', n'⟩, -, X', ⟨L, hQ, l1, l2, l3⟩, st⟩ := Jvm.LawKit.callS X hx hown (mvT hZ w1) (mvT hZ w2) (mvT hZ w3) (mvT hZ w4) hy (backOf (W := W) hM hZ w4 w3 hf hl) hg hsize hlen hstack hW hd (fun _ _ => ⟨has, eT, hc, hs⟩)
  dsimp only [Pt.U, Pt.locs, Pt.cells, Pt.slots] at X' l1 l2 l3 st hQ
  subst l1 l2 l3
  exact ⟨v, T', L, X', hQ, st⟩
theorem own_callV (X : Stand p l e R s m args below meth c T locs cells slots) (hx : p.tables.exec = Jvm.exec) (hZ : Z.Warmed39 s.vm)
    {own C : String} {index : Nat} {y z : MethodName} {bytes : ByteArray} {maxL : Nat} {ret : Option FieldType} {rm : Room} {as' : Array Value} {Q : Option Value → Heap → List Loc → Prop} {b : Addr}
    (hown : s.vm.findClass own = some m.cls) (w1 : (Jvm.Cond.methodLink own index y).before a0 Z = true) (w2 : (Jvm.Cond.declares y).before a0 Z = true) (hnf : NotFace s y) (w4 : (Jvm.Cond.selects C y z).before a0 Z = true) (w5 : (Jvm.Cond.instanceMethod z).before a0 Z = true) (w3 : (Jvm.Cond.initialized z.cls).before a0 Z = true) (w6 : (Jvm.Cond.code z bytes maxL ret).before a0 Z = true)
    (hy : y.cls ≠ "java/lang/invoke/MethodHandle" ∧ y.cls ≠ "java/lang/invoke/VarHandle") (eT : T.heap = h) (E : Exa Z h b C) (hM : Con l Z h z bytes maxL ret [] rm as' Q)
    (W : Nat) (hf : rm.frames + 1 ≤ R.frames) (hl : W + (maxL + 11) + rm.locals ≤ R.locals) (hc : cells + rm.cells ≤ R.cells) (hs : slots + rm.slots ≤ R.slots)
    {g : JFrame} (hg : g.method = m) (hsize : g.locals.size = c.maxLocals) (argsL rest : List Value) (has : (.ref b :: argsL).toArray = as') (hlen : ∀ sig, parseMethodDescriptor y.desc = some sig → argsL.length = sig.parameters.length) (hstack : g.stack = argsL.reverse ++ .ref b :: rest) (hW : 2 * g.monitorRoom + (rest.map fun v => v.category).sum ≤ W)
    (hd : decode c.code g.pc = .ok (.invokevirtual index, 3)) :
    ∃ (v : Option Value) (T' : State) (L : List Loc), Stand p l e R s m args below meth c T' (locs ++ L) (cells + rm.cells) (slots + rm.slots) ∧ Q v T'.heap L ∧ ∀ t, Steps p.tables e below (T'.setTop { g with pc := g.pc + 3, stack := v.toList ++ rest }) t → Steps p.tables e below (T.setTop g) t := by
  obtain ⟨cq, kq, qa, qb, qc⟩ := isOf hZ eT E
  obtain ⟨v, _, ⟨T', L', k', n'⟩, -, X', ⟨L, hQ, l1, l2, l3⟩, st⟩ := X.virtualBack hx hown (mvT hZ w1) (mvT hZ w2) hnf (mvT hZ w4) (mvT hZ w5) hy (backOf (W := W) hM hZ w6 w3 hf hl) qa qc hg hsize (Steps.refl _) hlen hstack hW hd (fun _ _ => ⟨has, eT, hc, hs⟩)
  dsimp only [Pt.U, Pt.locs, Pt.cells, Pt.slots] at X' l1 l2 l3 st hQ
  subst l1 l2 l3
  exact ⟨v, T', L, X', hQ, fun t k => st.trans k⟩
theorem own_callI (X : Stand p l e R s m args below meth c T locs cells slots) (hx : p.tables.exec = Jvm.exec) (hZ : Z.Warmed39 s.vm)
    {own : String} {index : Nat} {y : MethodName} {bytes : ByteArray} {maxL : Nat} {rm : Room} {as' : Array Value} {Q : Option Value → Heap → List Loc → Prop} {b : Addr} (hy1 : y.name = "<init>")
    (hown : s.vm.findClass own = some m.cls) (w1 : (Jvm.Cond.methodLink own index y).before a0 Z = true) (w5 : (Jvm.Cond.instanceMethod y).before a0 Z = true) (w3 : (Jvm.Cond.initialized y.cls).before a0 Z = true) (w6 : (Jvm.Cond.code y bytes maxL none).before a0 Z = true)
    (hy : y.cls ≠ "java/lang/invoke/MethodHandle" ∧ y.cls ≠ "java/lang/invoke/VarHandle") (eT : T.heap = h) (hM : Con l Z h y bytes maxL none [] rm as' Q)
    (W : Nat) (hf : rm.frames + 1 ≤ R.frames) (hl : W + (maxL + 11) + rm.locals ≤ R.locals) (hc : cells + rm.cells ≤ R.cells) (hs : slots + rm.slots ≤ R.slots)
    {g : JFrame} (hg : g.method = m) (hsize : g.locals.size = c.maxLocals) (argsL rest : List Value) (has : (.ref b :: argsL).toArray = as') (hlen : ∀ sig, parseMethodDescriptor y.desc = some sig → argsL.length = sig.parameters.length) (hstack : g.stack = argsL.reverse ++ .ref b :: rest) (hW : 2 * g.monitorRoom + (rest.map fun v => v.category).sum ≤ W)
    (hd : decode c.code g.pc = .ok (.invokespecial index, 3)) :
    ∃ (v : Option Value) (T' : State) (L : List Loc), Stand p l e R s m args below meth c T' (locs ++ L) (cells + rm.cells) (slots + rm.slots) ∧ Q v T'.heap L ∧ ∀ t, Steps p.tables e below (T'.setTop { g with pc := g.pc + 3, stack := v.toList ++ rest }) t → Steps p.tables e below (T.setTop g) t := by
  obtain ⟨v, _, ⟨T', L', k', n'⟩, -, X', ⟨L, hQ, l1, l2, l3⟩, st⟩ := X.specialBack hx hy1 hown (mvT hZ w1) (mvT hZ w5) (mvT hZ w6) hy (backOf (W := W) hM hZ w6 w3 hf hl) hg hsize (Steps.refl _) hlen hstack hW hd (fun _ _ => ⟨has, eT, hc, hs⟩)
  dsimp only [Pt.U, Pt.locs, Pt.cells, Pt.slots] at X' l1 l2 l3 st hQ
  subst l1 l2 l3
  exact ⟨v, T', L, X', hQ, fun t k => st.trans k⟩
/-- the end of a walk -/
theorem own_fin (X : Stand p l e R s m args below meth c T locs cells slots) (hlk : meth.locks = false) {v : Option Value} (hv : meth.sig.returnType = none → v = none) {Q : Option Value → Heap → List Loc → Prop} {cs sl : Nat} (eT : T.heap = h) (hQ : Q v h locs) (hc : cells ≤ cs) (hs : slots ≤ sl) {S : State}
    (k : ∀ fs : List Frame, (∀ (f : JFrame) (acts : List Action), f.method = m → f.locked = none → f.entered = [] → (doReturn e (T.setTop f) acts v).1 = T.setFrames fs) → Steps p.tables e below S (T.setFrames fs)) : Go p e below (Ret s Q cs sl) S := by
  obtain ⟨fs, hr, hrun, hended, hW, hsame⟩ := X.leave hv hlk
  refine ⟨_, _, k fs hr, hrun, hended, _, _, rfl, ?_, ⟨_, rfl⟩, hW, hsame.mono hc hs⟩
  have q : (T.setFrames fs).heap = h := eT
  rw [q]; exact hQ
theorem own_retO (X : Stand p l e R s m args below meth c T locs cells slots) (hx : p.tables.exec = Jvm.exec) (hlk : meth.locks = false) {pc : Nat} {Ls : Array Slot} {w : Value} {t : FieldType} {i : Instr} {rest : List Value} (hret : meth.sig.returnType = some t) (hn : narrow t w = w)
    (hi : (i = .ireturn ∧ (t = .int ∨ t = .boolean ∨ t = .byte ∨ t = .char ∨ t = .short) ∧ ∃ z, w = .int z) ∨ (i = .lreturn ∧ t = .long ∧ ∃ z, w = .long z) ∨ (i = .dreturn ∧ t = .double ∧ ∃ z, w = .double z) ∨ (i = .freturn ∧ t = .float ∧ ∃ z, w = .float z) ∨ (i = .areturn ∧ t.isReference = true ∧ w.isRef = true))
    (hd : decode c.code pc = .ok (i, 1)) {Q : Option Value → Heap → List Loc → Prop} {cs sl : Nat} (eT : T.heap = h) (hQ : Q (some w) h locs) (hc : cells ≤ cs) (hs : slots ≤ sl) : Go p e below (Ret s Q cs sl) (T.setTop (mkF m pc Ls (w :: rest))) :=
  own_fin X hlk (fun q => by rw [hret] at q; cases q) eT hQ hc hs fun fs hr => retOut X hx hret hn hi hd hr
theorem own_retI (X : Stand p l e R s m args below meth c T locs cells slots) (hx : p.tables.exec = Jvm.exec) (hlk : meth.locks = false) {pc : Nat} {Ls : Array Slot} {w : Int32} {rest : List Value} (hret : meth.sig.returnType = some .int)
    (hd : decode c.code pc = .ok (.ireturn, 1)) {Q : Option Value → Heap → List Loc → Prop} {cs sl : Nat} (eT : T.heap = h) (hQ : Q (some (.int w)) h locs) (hc : cells ≤ cs) (hs : slots ≤ sl) : Go p e below (Ret s Q cs sl) (T.setTop (mkF m pc Ls (.int w :: rest))) :=
  own_retO X hx hlk hret rfl (Or.inl ⟨rfl, Or.inl rfl, _, rfl⟩) hd eT hQ hc hs
theorem own_retJ (X : Stand p l e R s m args below meth c T locs cells slots) (hx : p.tables.exec = Jvm.exec) (hlk : meth.locks = false) {pc : Nat} {Ls : Array Slot} {w : Int64} {rest : List Value} (hret : meth.sig.returnType = some .long)
    (hd : decode c.code pc = .ok (.lreturn, 1)) {Q : Option Value → Heap → List Loc → Prop} {cs sl : Nat} (eT : T.heap = h) (hQ : Q (some (.long w)) h locs) (hc : cells ≤ cs) (hs : slots ≤ sl) : Go p e below (Ret s Q cs sl) (T.setTop (mkF m pc Ls (.long w :: rest))) :=
  own_retO X hx hlk hret rfl (Or.inr (Or.inl ⟨rfl, rfl, _, rfl⟩)) hd eT hQ hc hs
theorem own_retA (X : Stand p l e R s m args below meth c T locs cells slots) (hx : p.tables.exec = Jvm.exec) (hlk : meth.locks = false) {pc : Nat} {Ls : Array Slot} {w : Value} {t : FieldType} {rest : List Value} (hret : meth.sig.returnType = some t) (hn : narrow t w = w) (ht : t.isReference = true) (hw : w.isRef = true)
    (hd : decode c.code pc = .ok (.areturn, 1)) {Q : Option Value → Heap → List Loc → Prop} {cs sl : Nat} (eT : T.heap = h) (hQ : Q (some w) h locs) (hc : cells ≤ cs) (hs : slots ≤ sl) : Go p e below (Ret s Q cs sl) (T.setTop (mkF m pc Ls (w :: rest))) :=
  own_retO X hx hlk hret hn (Or.inr (Or.inr (Or.inr (Or.inr ⟨rfl, ht, hw⟩)))) hd eT hQ hc hs
theorem own_retN (X : Stand p l e R s m args below meth c T locs cells slots) (hx : p.tables.exec = Jvm.exec) (hlk : meth.locks = false) {pc : Nat} {Ls : Array Slot} {z : Int32} {t : FieldType} {rest : List Value} (hret : meth.sig.returnType = some t) (ht : t = .boolean ∨ t = .byte ∨ t = .char ∨ t = .short)
    (hd : decode c.code pc = .ok (.ireturn, 1)) {Q : Option Value → Heap → List Loc → Prop} {cs sl : Nat} (eT : T.heap = h) (hQ : Q (some (.int (nar t z))) h locs) (hc : cells ≤ cs) (hs : slots ≤ sl) : Go p e below (Ret s Q cs sl) (T.setTop (mkF m pc Ls (.int z :: rest))) :=
  own_fin X hlk (fun q => by rw [hret] at q; cases q) eT hQ hc hs fun fs hr => retN X hx hret ht hd hr
theorem own_retV (X : Stand p l e R s m args below meth c T locs cells slots) (hx : p.tables.exec = Jvm.exec) (hlk : meth.locks = false) {pc : Nat} {Ls : Array Slot} (hret : meth.sig.returnType = none)
    (hd : decode c.code pc = .ok (.return_, 1)) {Q : Option Value → Heap → List Loc → Prop} {cs sl : Nat} (eT : T.heap = h) (hQ : Q none h locs) (hc : cells ≤ cs) (hs : slots ≤ sl) : Go p e below (Ret s Q cs sl) (T.setTop (mkF m pc Ls [])) :=
  own_fin X hlk (fun _ => rfl) eT hQ hc hs fun fs hr => X.returnOut hx hret hd hr
theorem own_Llt {x y : Int64} (h : x < y) : ifCond.holds .lt (lcmpW x y) = true ∧ ifCond.holds .ge (lcmpW x y) = false := by
  have q := (lc_lt x y).mpr h; rw [← lcW] at q; exact ⟨(if0 _ _).trans (tlt q).1, (if0 _ _).trans (tlt q).2.1⟩
theorem own_Lnlt {x y : Int64} (h : ¬ x < y) : ifCond.holds .lt (lcmpW x y) = false ∧ ifCond.holds .ge (lcmpW x y) = true := by
  have q : ¬ lcmpW x y < 0 := fun r => h ((lc_lt x y).mp (by rw [← lcW]; exact r)); exact ⟨(if0 _ _).trans (flt q).1, (if0 _ _).trans (flt q).2.1⟩
theorem own_Lgt {x y : Int64} (h : y < x) : ifCond.holds .gt (lcmpW x y) = true ∧ ifCond.holds .le (lcmpW x y) = false := by
  have q := (lc_gt x y).mpr h; rw [← lcW] at q; exact ⟨(if0 _ _).trans (tlt q).2.2.1, (if0 _ _).trans (tlt q).2.2.2⟩
theorem own_Lngt {x y : Int64} (h : ¬ y < x) : ifCond.holds .gt (lcmpW x y) = false ∧ ifCond.holds .le (lcmpW x y) = true := by
  have q : ¬ 0 < lcmpW x y := fun r => h ((lc_gt x y).mp (by rw [← lcW]; exact r)); exact ⟨(if0 _ _).trans (flt q).2.2.1, (if0 _ _).trans (flt q).2.2.2⟩
theorem own_Leq {x y : Int64} (h : x = y) : ifCond.holds .eq (lcmpW x y) = true ∧ ifCond.holds .ne (lcmpW x y) = false := by
  have q := (lc_eq x y).mpr h; rw [← lcW] at q; exact ⟨(if0 _ _).trans (teq q).1, (if0 _ _).trans (teq q).2⟩
theorem own_Lne {x y : Int64} (h : ¬ x = y) : ifCond.holds .eq (lcmpW x y) = false ∧ ifCond.holds .ne (lcmpW x y) = true := by
  have q : ¬ lcmpW x y = 0 := fun r => h ((lc_eq x y).mp (by rw [← lcW]; exact r)); exact ⟨(if0 _ _).trans (feq q).1, (if0 _ _).trans (feq q).2⟩
theorem own_Ext.refl (h : Heap) : Ext h h := ⟨Nat.le_refl _, fun _ _ q => q⟩
theorem own_Ext.trans {h1 h2 h3 : Heap} (a : Ext h1 h2) (b : Ext h2 h3) : Ext h1 h3 := ⟨Nat.le_trans a.1 b.1, fun x c q => b.2 x c (a.2 x c q)⟩
theorem own_Ext.wr {h0 : Heap} {a : Addr} {sl : Nat} {v : Value} (E : Ext h0 h) (W : Wr h h' a sl v) (q : h0.size ≤ a) : Ext h0 h' := by
  have K : Keep h0 h [] := ⟨E.1, fun x c r _ => E.2 x c r, fun x c r => ⟨c, E.2 x c r, rfl, rfl, rfl⟩⟩
  have K' := K.wr W (Or.inr q)
  exact ⟨K'.1, fun x c r => K'.2.1 x c r (fun z => nomatch z)⟩
theorem own_Ext.keep {h0 : Heap} {ws : List Addr} (E : Ext h0 h) (K : Keep h h' ws) (q : ∀ x ∈ ws, h0.size ≤ x) : Ext h0 h' := by
  refine ⟨Nat.le_trans E.1 K.1, fun x c r => K.2.1 x c (E.2 x c r) fun z => ?_⟩
  have lt : x < h0.size := (Array.getElem?_eq_some_iff.mp r).1
  exact absurd (q x z) (Nat.not_le_of_lt lt)
theorem own_fldI {t : Term} {x : Addr} {C n d : String} {k : Int32} (ev : t.eval args s none [] s = some (.ref x)) (hq : (Jvm.Cond.eq (.field t C n d) (.int k)).value args s none s [] = some true) : Fld s s.heap x C n d (.int k) := by
  obtain ⟨u, v, e1, e2, k1, k2⟩ := cmp_v (Or.inl hq)
  obtain rfl : v = .int k := (Option.some.inj (e2.symm.trans (Term.int_eval k)))
  obtain ⟨z, rfl⟩ := k2
  obtain rfl : z = k := gotT (Jvm.Cond.eq_ints e1 (Term.int_eval k)) hq
  exact Fld.start ((fld_at ev).symm.trans e1)
theorem own_fldJ {t : Term} {x : Addr} {C n d : String} {k : Int64} (ev : t.eval args s none [] s = some (.ref x)) (hq : (Jvm.Cond.eq (.field t C n d) (.long k)).value args s none s [] = some true) : Fld s s.heap x C n d (.long k) := by
  obtain ⟨u, v, e1, e2, k1, k2⟩ := cmp_v (Or.inl hq)
  obtain rfl : v = .long k := (Option.some.inj (e2.symm.trans (long_at k)))
  obtain ⟨z, rfl⟩ := k2
  obtain rfl : z = k := gotT (eq_L e1 (long_at k)) hq
  exact Fld.start ((fld_at ev).symm.trans e1)
theorem own_len0 {t : Term} {x : Addr} {ty : FieldType} {cl : Cell} (ev : t.eval args s none [] s = some (.ref x)) (A : Arr s s.heap x cl ty) (hq : (Jvm.Cond.eq (.length t) (.int 0)).value args s none s [] = some true) : True := trivial
end OwnKit
/-- the sheet's i-th word -/
theorem ww {Z : State} {a0 : Array Value} (hw : ∀ d ∈ tables_1, d.before a0 Z = true) (i : Nat) {d : Jvm.Cond} (h : tables_1[i]? = some d) : d.before a0 Z = true := hw _ (List.mem_of_getElem? h)
section OwnHeap
variable {p : Program} {l : Launch} {e : Env} {R : Room} {s : State} {m : MethodId} {args : Array Value} {below : List Frame} {meth : Method} {c : Code} {T : State} {locs : List Loc} {cells slots : Nat} {Z : State} {a0 : Array Value} {h h' : Heap} {a : Addr} {k : ClassId} {ty : FieldType} {z j : Int32} {vs : List Value} {dv v : Value} {g : JFrame} {rest : List Value}
theorem own_arvset {i : Nat} (F : Arv Z h a k ty z vs dv) (hv : fits ty v = true) (W : Wr h h' a j.toNatClampNeg v) (hi : j.toNatClampNeg = i) (hl : i < vs.length) : Arv Z h' a k ty z (vs.set i v) dv := by
  obtain ⟨cl, A, q, S, N, H, G⟩ := F
  exact Arv.set A q S N H G hv W i hi hl
theorem own_stI (X : Stand p l e R s m args below meth c T locs cells slots) (hx : p.tables.exec = Jvm.exec) (hZ : Z.Warmed39 s.vm) (eT : T.heap = h) (F : Arv Z h a k .int z vs dv) {x : Int32} (hj : ¬ j < 0 ∧ j < z) (i : Nat) (hi : j.toNatClampNeg = i) (hl : i < vs.length) (hg : g.method = m) (hs : g.stack = .int x :: .int j :: .ref a :: rest) (hd : decode c.code g.pc = .ok (.iastore, 1)) :
    ∃ T' h', Stand p l e R s m args below meth c T' (locs ++ [⟨a, j.toNatClampNeg⟩]) cells slots ∧ T'.heap = h' ∧ Wr h h' a j.toNatClampNeg (.int x) ∧ Arv Z h' a k .int z (vs.set i (.int x)) dv ∧ ∀ target, Steps p.tables e below (T'.setTop { g with pc := g.pc + 1, stack := rest }) target → Steps p.tables e below (T.setTop g) target := by
  obtain ⟨cl, A, q, S, N, H, G⟩ := id F
  obtain ⟨T', h', X', e', W, st⟩ := stI X hx hZ eT A (inb_of S hj) hg hs hd
  exact ⟨T', h', X', e', W, own_arvset F rfl W hi hl, st⟩
theorem own_stJ (X : Stand p l e R s m args below meth c T locs cells slots) (hx : p.tables.exec = Jvm.exec) (hZ : Z.Warmed39 s.vm) (eT : T.heap = h) (F : Arv Z h a k .long z vs dv) {x : Int64} (hj : ¬ j < 0 ∧ j < z) (i : Nat) (hi : j.toNatClampNeg = i) (hl : i < vs.length) (hg : g.method = m) (hs : g.stack = .long x :: .int j :: .ref a :: rest) (hd : decode c.code g.pc = .ok (.lastore, 1)) :
    ∃ T' h', Stand p l e R s m args below meth c T' (locs ++ [⟨a, j.toNatClampNeg⟩]) cells slots ∧ T'.heap = h' ∧ Wr h h' a j.toNatClampNeg (.long x) ∧ Arv Z h' a k .long z (vs.set i (.long x)) dv ∧ ∀ target, Steps p.tables e below (T'.setTop { g with pc := g.pc + 1, stack := rest }) target → Steps p.tables e below (T.setTop g) target := by
  obtain ⟨cl, A, q, S, N, H, G⟩ := id F
  obtain ⟨T', h', X', e', W, st⟩ := stJ X hx hZ eT A (inb_of S hj) hg hs hd
  exact ⟨T', h', X', e', W, own_arvset F rfl W hi hl, st⟩
theorem own_stB (X : Stand p l e R s m args below meth c T locs cells slots) (hx : p.tables.exec = Jvm.exec) (hZ : Z.Warmed39 s.vm) (eT : T.heap = h) (F : Arv Z h a k .byte z vs dv) {x : Int32} (hj : ¬ j < 0 ∧ j < z) (i : Nat) (hi : j.toNatClampNeg = i) (hl : i < vs.length) (hg : g.method = m) (hs : g.stack = .int x :: .int j :: .ref a :: rest) (hd : decode c.code g.pc = .ok (.bastore, 1)) :
    ∃ T' h', Stand p l e R s m args below meth c T' (locs ++ [⟨a, j.toNatClampNeg⟩]) cells slots ∧ T'.heap = h' ∧ Wr h h' a j.toNatClampNeg (.int (nar .byte x)) ∧ Arv Z h' a k .byte z (vs.set i (.int (nar .byte x))) dv ∧ ∀ target, Steps p.tables e below (T'.setTop { g with pc := g.pc + 1, stack := rest }) target → Steps p.tables e below (T.setTop g) target := by
  obtain ⟨cl, A, q, S, N, H, G⟩ := id F
  obtain ⟨T', h', X', e', W, st⟩ := stB X hx hZ eT A (inb_of S hj) hg hs hd
  exact ⟨T', h', X', e', W, own_arvset F (fits_nar_byte _) W hi hl, st⟩
theorem own_stC (X : Stand p l e R s m args below meth c T locs cells slots) (hx : p.tables.exec = Jvm.exec) (hZ : Z.Warmed39 s.vm) (eT : T.heap = h) (F : Arv Z h a k .char z vs dv) {x : Int32} (hj : ¬ j < 0 ∧ j < z) (i : Nat) (hi : j.toNatClampNeg = i) (hl : i < vs.length) (hg : g.method = m) (hs : g.stack = .int x :: .int j :: .ref a :: rest) (hd : decode c.code g.pc = .ok (.castore, 1)) :
    ∃ T' h', Stand p l e R s m args below meth c T' (locs ++ [⟨a, j.toNatClampNeg⟩]) cells slots ∧ T'.heap = h' ∧ Wr h h' a j.toNatClampNeg (.int (nar .char x)) ∧ Arv Z h' a k .char z (vs.set i (.int (nar .char x))) dv ∧ ∀ target, Steps p.tables e below (T'.setTop { g with pc := g.pc + 1, stack := rest }) target → Steps p.tables e below (T.setTop g) target := by
  obtain ⟨cl, A, q, S, N, H, G⟩ := id F
  obtain ⟨T', h', X', e', W, st⟩ := stC X hx hZ eT A (inb_of S hj) hg hs hd
  exact ⟨T', h', X', e', W, own_arvset F (fits_nar_char _) W hi hl, st⟩
theorem own_stR (X : Stand p l e R s m args below meth c T locs cells slots) (hx : p.tables.exec = Jvm.exec) (hZ : Z.Warmed39 s.vm) (eT : T.heap = h) {C : String} {y : Addr} (F : Arv Z h a k (.object C) z vs dv) (O : Ovr Z k C) (I : Ins Z h y C true) (hj : ¬ j < 0 ∧ j < z) (i : Nat) (hi : j.toNatClampNeg = i) (hl : i < vs.length) (hg : g.method = m) (hs : g.stack = .ref y :: .int j :: .ref a :: rest) (hd : decode c.code g.pc = .ok (.aastore, 1)) :
    ∃ T' h', Stand p l e R s m args below meth c T' (locs ++ [⟨a, j.toNatClampNeg⟩]) cells slots ∧ T'.heap = h' ∧ Wr h h' a j.toNatClampNeg (.ref y) ∧ Arv Z h' a k (.object C) z (vs.set i (.ref y)) dv ∧ ∀ target, Steps p.tables e below (T'.setTop { g with pc := g.pc + 1, stack := rest }) target → Steps p.tables e below (T.setTop g) target := by
  obtain ⟨cl, A, q, S, N, H, G⟩ := id F
  obtain ⟨T', h', X', e', W, st⟩ := stR X hx hZ eT A (inb_of S hj) rfl (Sto.ofV A q O I) hg hs hd
  exact ⟨T', h', X', e', W, own_arvset F rfl W hi hl, st⟩
theorem own_ldR (X : Stand p l e R s m args below meth c T locs cells slots) (hx : p.tables.exec = Jvm.exec) (hZ : Z.Warmed39 s.vm) (eT : T.heap = h) (F : Arv Z h a k ty z vs dv) (hty : ty.isReference = true) (hj : ¬ j < 0 ∧ j < z) (hv : vs.getD j.toNatClampNeg dv = v) (hg : g.method = m) (hs : g.stack = .int j :: .ref a :: rest) (hd : decode c.code g.pc = .ok (.aaload, 1)) :
    ∀ target, Steps p.tables e below (T.setTop { g with pc := g.pc + 1, stack := v :: rest }) target → Steps p.tables e below (T.setTop g) target := by
  obtain ⟨cl, A, q, S, N, H, G⟩ := F
  exact fun t k => X.aaload hx (by rw [eT]; exact A.1) (State.isArrayOf_alike hZ.alike A.2.1) hty A.2.2 (inb_of S hj) (H.at (inb_of S hj) hv) hg hs hd t k
theorem own_ldJ (X : Stand p l e R s m args below meth c T locs cells slots) (hx : p.tables.exec = Jvm.exec) (hZ : Z.Warmed39 s.vm) (eT : T.heap = h) (F : Arv Z h a k .long z vs dv) (hj : ¬ j < 0 ∧ j < z) (hv : vs.getD j.toNatClampNeg dv = v) (hg : g.method = m) (hs : g.stack = .int j :: .ref a :: rest) (hd : decode c.code g.pc = .ok (.laload, 1)) :
    ∀ target, Steps p.tables e below (T.setTop { g with pc := g.pc + 1, stack := v :: rest }) target → Steps p.tables e below (T.setTop g) target := by
  obtain ⟨cl, A, q, S, N, H, G⟩ := F
  exact fun t k => X.laload hx (by rw [eT]; exact A.1) (State.isArrayOf_alike hZ.alike A.2.1) A.2.2 (inb_of S hj) (H.at (inb_of S hj) hv) hg hs hd t k
theorem own_ldI (X : Stand p l e R s m args below meth c T locs cells slots) (hx : p.tables.exec = Jvm.exec) (hZ : Z.Warmed39 s.vm) (eT : T.heap = h) (F : Arv Z h a k .int z vs dv) (hj : ¬ j < 0 ∧ j < z) (hv : vs.getD j.toNatClampNeg dv = v) (hg : g.method = m) (hs : g.stack = .int j :: .ref a :: rest) (hd : decode c.code g.pc = .ok (.iaload, 1)) :
    ∀ target, Steps p.tables e below (T.setTop { g with pc := g.pc + 1, stack := v :: rest }) target → Steps p.tables e below (T.setTop g) target := by
  obtain ⟨cl, A, q, S, N, H, G⟩ := F
  exact fun t k => X.iaload hx (by rw [eT]; exact A.1) (State.isArrayOf_alike hZ.alike A.2.1) A.2.2 (inb_of S hj) (H.at (inb_of S hj) hv) hg hs hd t k
theorem own_ldB (X : Stand p l e R s m args below meth c T locs cells slots) (hx : p.tables.exec = Jvm.exec) (hZ : Z.Warmed39 s.vm) (eT : T.heap = h) (F : Arv Z h a k .byte z vs dv) (hj : ¬ j < 0 ∧ j < z) (hv : vs.getD j.toNatClampNeg dv = v) (hg : g.method = m) (hs : g.stack = .int j :: .ref a :: rest) (hd : decode c.code g.pc = .ok (.baload, 1)) :
    ∀ target, Steps p.tables e below (T.setTop { g with pc := g.pc + 1, stack := v :: rest }) target → Steps p.tables e below (T.setTop g) target := by
  obtain ⟨cl, A, q, S, N, H, G⟩ := F
  exact fun t k => X.baloadBytes hx (by rw [eT]; exact A.1) (State.isArrayOf_alike hZ.alike A.2.1) A.2.2 (inb_of S hj) (H.at (inb_of S hj) hv) hg hs hd t k
theorem own_alen (X : Stand p l e R s m args below meth c T locs cells slots) (hx : p.tables.exec = Jvm.exec) (hZ : Z.Warmed39 s.vm) (eT : T.heap = h) (F : Arv Z h a k ty z vs dv) (hg : g.method = m) (hs : g.stack = .ref a :: rest) (hd : decode c.code g.pc = .ok (.arraylength, 1)) :
    ∀ target, Steps p.tables e below (T.setTop { g with pc := g.pc + 1, stack := .int z :: rest }) target → Steps p.tables e below (T.setTop g) target := by
  obtain ⟨cl, A, q, S, N, H, G⟩ := F
  intro t k
  refine X.arraylength hx (by rw [eT]; exact A.1) (State.isArrayOf_alike hZ.alike A.2.1) hg hs hd t ?_
  rw [len_of S N]; exact k
theorem own_lt_ne {x y : Addr} (q : x < h.size) (g : y = h.size) : x ≠ y := Nat.ne_of_lt (g ▸ q)
theorem own_lt_ne' {x y : Addr} (q : x < h.size) (g : h.size ≤ y) : x ≠ y := Nat.ne_of_lt (Nat.lt_of_lt_of_le q g)
theorem own_callVU (X : Stand p l e R s m args below meth c T locs cells slots) (hx : p.tables.exec = Jvm.exec) (hZ : Z.Warmed39 s.vm)
    {own C owner : String} {index : Nat} {y z : MethodName} {bytes : ByteArray} {maxL : Nat} {ret : Option FieldType} {rm : Room} {as' : Array Value} {Q : Option Value → Heap → List Loc → Prop} {b : Addr}
    (hown : s.vm.findClass own = some m.cls) (w1 : (Jvm.Cond.methodLink own index y).before a0 Z = true) (w2 : (Jvm.Cond.sameMethod y.cls owner y.name y.desc).before a0 Z = true) (w7 : (Jvm.Cond.declares ⟨owner, y.name, y.desc⟩).before a0 Z = true) (ho : owner ≠ "java/lang/invoke/MethodHandle" ∧ owner ≠ "java/lang/invoke/VarHandle") (w4 : (Jvm.Cond.selects C y z).before a0 Z = true) (w5 : (Jvm.Cond.instanceMethod z).before a0 Z = true) (w3 : (Jvm.Cond.initialized z.cls).before a0 Z = true) (w6 : (Jvm.Cond.code z bytes maxL ret).before a0 Z = true)
    (eT : T.heap = h) (E : Exa Z h b C) (hM : Con l Z h z bytes maxL ret [] rm as' Q)
    (W : Nat) (hf : rm.frames + 1 ≤ R.frames) (hl : W + (maxL + 11) + rm.locals ≤ R.locals) (hc : cells + rm.cells ≤ R.cells) (hs : slots + rm.slots ≤ R.slots)
    {g : JFrame} (hg : g.method = m) (hsize : g.locals.size = c.maxLocals) (argsL rest : List Value) (has : (.ref b :: argsL).toArray = as') (hlen : ∀ sig, parseMethodDescriptor y.desc = some sig → argsL.length = sig.parameters.length) (hstack : g.stack = argsL.reverse ++ .ref b :: rest) (hW : 2 * g.monitorRoom + (rest.map fun v => v.category).sum ≤ W)
    (hd : decode c.code g.pc = .ok (.invokevirtual index, 3)) :
    ∃ (v : Option Value) (T' : State) (L : List Loc), Stand p l e R s m args below meth c T' (locs ++ L) (cells + rm.cells) (slots + rm.slots) ∧ Q v T'.heap L ∧ ∀ t, Steps p.tables e below (T'.setTop { g with pc := g.pc + 3, stack := v.toList ++ rest }) t → Steps p.tables e below (T.setTop g) t := by
  obtain ⟨cq, kq, qa, qb, qc⟩ := isOf hZ eT E
  obtain ⟨v, _, ⟨T', L', k', n'⟩, -, X', ⟨L, hQ, l1, l2, l3⟩, st⟩ := X.virtualBackUp hx hown (mvT hZ w1) (mvT hZ w2) (mvT hZ w7) ho (mvT hZ w4) (mvT hZ w5) (backOf (W := W) hM hZ w6 w3 hf hl) qa qc hg hsize (Steps.refl _) hlen hstack hW hd (fun _ _ => ⟨has, eT, hc, hs⟩)
  dsimp only [Pt.U, Pt.locs, Pt.cells, Pt.slots] at X' l1 l2 l3 st hQ
  subst l1 l2 l3
  exact ⟨v, T', L, X', hQ, fun t k => st.trans k⟩
theorem own_callF (X : Stand p l e R s m args below meth c T locs cells slots) (hx : p.tables.exec = Jvm.exec) (hZ : Z.Warmed39 s.vm)
    {own C : String} {index count : Nat} {y z : MethodName} {bytes : ByteArray} {maxL : Nat} {ret : Option FieldType} {rm : Room} {as' : Array Value} {Q : Option Value → Heap → List Loc → Prop} {b : Addr}
    (hown : s.vm.findClass own = some m.cls) (w1 : (Jvm.Cond.methodLink own index y).before a0 Z = true) (w2 : (Jvm.Cond.declares y).before a0 Z = true) (w7 : (Jvm.Cond.interfaceMethod y.cls y.cls y.name y.desc).before a0 Z = true) (w4 : (Jvm.Cond.selects C y z).before a0 Z = true) (w5 : (Jvm.Cond.instanceMethod z).before a0 Z = true) (w8 : (Jvm.Cond.publicMethod z).before a0 Z = true) (w9 : (Jvm.Cond.unhidden C y.name y.desc).before a0 Z = true) (w10 : (Jvm.Cond.castable C y.cls).before a0 Z = true) (w3 : (Jvm.Cond.initialized z.cls).before a0 Z = true) (w6 : (Jvm.Cond.code z bytes maxL ret).before a0 Z = true)
    (hy : y.cls ≠ "java/lang/invoke/MethodHandle" ∧ y.cls ≠ "java/lang/invoke/VarHandle") (eT : T.heap = h) (E : Exa Z h b C) (hM : Con l Z h z bytes maxL ret [] rm as' Q)
    (W : Nat) (hf : rm.frames + 1 ≤ R.frames) (hl : W + (maxL + 11) + rm.locals ≤ R.locals) (hc : cells + rm.cells ≤ R.cells) (hs : slots + rm.slots ≤ R.slots)
    {g : JFrame} (hg : g.method = m) (hsize : g.locals.size = c.maxLocals) (argsL rest : List Value) (has : (.ref b :: argsL).toArray = as') (hlen : ∀ sig, parseMethodDescriptor y.desc = some sig → argsL.length = sig.parameters.length) (hstack : g.stack = argsL.reverse ++ .ref b :: rest) (hW : 2 * g.monitorRoom + (rest.map fun v => v.category).sum ≤ W)
    (hd : decode c.code g.pc = .ok (.invokeinterface index count, 5)) :
    ∃ (v : Option Value) (T' : State) (L : List Loc), Stand p l e R s m args below meth c T' (locs ++ L) (cells + rm.cells) (slots + rm.slots) ∧ Q v T'.heap L ∧ ∀ t, Steps p.tables e below (T'.setTop { g with pc := g.pc + 5, stack := v.toList ++ rest }) t → Steps p.tables e below (T.setTop g) t := by
  obtain ⟨cq, kq, qa, qb, qc⟩ := isOf hZ eT E
  obtain ⟨v, _, ⟨T', L', k', n'⟩, -, X', ⟨L, hQ, l1, l2, l3⟩, st⟩ := X.interfaceBack hx hown (mvT hZ w1) (mvT hZ w2) (mvT hZ w7 (by simp [Cond.onTables, Cond.keepsFace, Cond.keeps, Cond.steady, Cond.faceAtom, hy.1, hy.2])) (mvT hZ w4) (mvT hZ w5) (mvT hZ w8) (mvT hZ w9) (mvT hZ w10) hy (backOf (W := W) hM hZ w6 w3 hf hl) qa qb qc hg hsize (Steps.refl _) hlen hstack hW hd (fun _ _ => ⟨has, eT, hc, hs⟩)
  dsimp only [Pt.U, Pt.locs, Pt.cells, Pt.slots] at X' l1 l2 l3 st hQ
  subst l1 l2 l3
  exact ⟨v, T', L, X', hQ, fun t k => st.trans k⟩
theorem own_callP (X : Stand p l e R s m args below meth c T locs cells slots) (hx : p.tables.exec = Jvm.exec) (hZ : Z.Warmed39 s.vm)
    {own : String} {index n : Nat} {y : MethodName} {bytes : ByteArray} {maxL : Nat} {ret : Option FieldType} {rm : Room} {as' : Array Value} {Q : Option Value → Heap → List Loc → Prop} {b : Addr} {C : String}
    (hown : s.vm.findClass own = some m.cls) (w1 : (Jvm.Cond.methodLink own index y).before a0 Z = true) (w5 : (Jvm.Cond.instanceMethod y).before a0 Z = true) (w2 : (Jvm.Cond.privateMethod y).before a0 Z = true) (wi : (Jvm.Cond.instantiable y.cls n).before a0 Z = true) (w3 : (Jvm.Cond.initialized y.cls).before a0 Z = true) (w6 : (Jvm.Cond.code y bytes maxL ret).before a0 Z = true)
    (hy : y.cls ≠ "java/lang/invoke/MethodHandle" ∧ y.cls ≠ "java/lang/invoke/VarHandle") (eT : T.heap = h) (E : Exa Z h b C) (hM : Con l Z h y bytes maxL ret [] rm as' Q)
    (W : Nat) (hf : rm.frames + 1 ≤ R.frames) (hl : W + (maxL + 11) + rm.locals ≤ R.locals) (hc : cells + rm.cells ≤ R.cells) (hs : slots + rm.slots ≤ R.slots)
    {g : JFrame} (hg : g.method = m) (hsize : g.locals.size = c.maxLocals) (argsL rest : List Value) (has : (.ref b :: argsL).toArray = as') (hlen : ∀ sig, parseMethodDescriptor y.desc = some sig → argsL.length = sig.parameters.length) (hstack : g.stack = argsL.reverse ++ .ref b :: rest) (hW : 2 * g.monitorRoom + (rest.map fun v => v.category).sum ≤ W)
    (hd : decode c.code g.pc = .ok (.invokevirtual index, 3)) :
    ∃ (v : Option Value) (T' : State) (L : List Loc), Stand p l e R s m args below meth c T' (locs ++ L) (cells + rm.cells) (slots + rm.slots) ∧ Q v T'.heap L ∧ ∀ t, Steps p.tables e below (T'.setTop { g with pc := g.pc + 3, stack := v.toList ++ rest }) t → Steps p.tables e below (T.setTop g) t := by
  obtain ⟨cq, q1, q2⟩ := E.cell
  have hpriv := Cond.privateMethod_at (mvP hZ w2 (args := args))
  have wi' : (Jvm.Cond.instantiable y.cls n).before args s = true := mvT hZ wi
  obtain ⟨ci, ki, i1, i2, -, i4, -⟩ := Cond.instantiable_spec wi'
  have hni : ki.isInterface = false := by cases hh : ki.isInterface <;> simp [hh] at i4 ⊢
  obtain ⟨v, _, ⟨T', L', k', n'⟩, -, X', ⟨L, hQ, l1, l2, l3⟩, st⟩ := X.privateBack hx hown (mvT hZ w1) (mvT hZ w5) (selects_self_of_private i1 i2 hni hpriv (mvT hZ w5) hy) hpriv (mvT hZ w6) hy (backOf (W := W) hM hZ w6 w3 hf hl) hg hsize (Steps.refl _) (by rw [eT]; exact q1) q2 hlen hstack hW hd (fun _ _ => ⟨has, eT, hc, hs⟩)
  dsimp only [Pt.U, Pt.locs, Pt.cells, Pt.slots] at X' l1 l2 l3 st hQ
  subst l1 l2 l3
  exact ⟨v, T', L, X', hQ, fun t k => st.trans k⟩
theorem own_nosub {C K O : String} {n : Nat} (w : (Jvm.Cond.superclass C O).before a0 Z = true) (wo : (Jvm.Cond.noSuperclass O).before a0 Z = true) (wk : (Jvm.Cond.instantiable K n).before a0 Z = true) (h1 : C ≠ K) (h2 : O ≠ K) :
    ∃ c t, Z.vm.findClass C = some c ∧ Z.vm.findClass K = some t ∧ Z.vm.assignable c t = false := by
  obtain ⟨c, f0⟩ := found_sup w
  obtain ⟨t, kt, g1, g2, g3, g4, -⟩ := Cond.instantiable_spec wk
  have g5 : kt.isInterface = false := by cases hh : kt.isInterface <;> simp [hh] at g4 ⊢
  obtain ⟨q, k, kp, f1, f2, f3, f4, f5, -, f7⟩ := Cond.superclass_spec f0 w
  obtain ⟨co, ko, o1, o2, o3, -, -⟩ := Cond.noSuperclass_spec wo
  cases o1.symm.trans f1
  have ne1 := ids_ne f0 g1 h1
  have ne2 := ids_ne o1 g1 h2
  have sub : ∀ fuel, Z.vm.isSubclassAux fuel c t = false := by
    intro fuel
    cases fuel with
    | zero => rfl
    | succ f =>
      have r : Z.vm.isSubclassAux f q t = false := by
        cases f with
        | zero => rfl
        | succ f' => simp [Vm.isSubclassAux, ne2, o2, o3]
      simp [Vm.isSubclassAux, ne1, f2, f4, r]
  refine ⟨c, t, f0, g1, ?_⟩
  show Z.vm.assignableAux (255 + 1) c t = false
  simp [Vm.assignableAux, ne1, f2, g2, f5, g3, g5, Vm.isSubclass, sub]
theorem own_arv0 {t : Term} {w : Addr} {cl : Cell} (hf : Fit s) (ev : t.eval args s none [] s = some (.ref w)) (A : Arr s s.heap w cl ty) (hq : (Jvm.Cond.eq (.length t) (.int 0)).value args s none s [] = some true) : Arv s s.heap w cl.cls ty 0 [] dv := by
  have ha : s.arrayAt? w = some cl := Arr.fin (Vm.Alike.refl _) A
  obtain ⟨u, v, e1, e2, k1, k2⟩ := cmp_v (Or.inl hq)
  obtain rfl : v = .int 0 := Option.some.inj (e2.symm.trans (Term.int_eval 0))
  obtain ⟨z, rfl⟩ := k2
  obtain rfl : z = 0 := gotT (Jvm.Cond.eq_ints e1 (Term.int_eval 0)) hq
  by_cases hl : cl.slots.size < 2 ^ 31
  · have q := (len_f ev ha hl).symm.trans e1
    exact Arv.start hf A hl (Value.int.inj (Option.some.inj q)) (by decide) rfl trivial
  · exfalso
    simp [Term.eval, ev, ha, hl] at e1
end OwnHeap
theorem own_rem {x : Int32} {n : Int32} (hn : 0 < n.toInt) : 0 ≤ ((x &&& 2147483647) % n).toInt ∧ ((x &&& 2147483647) % n).toInt < n.toInt := by
  have e1 : (x &&& 2147483647).toInt = x.toInt % 2 ^ 31 := Jvm.Kit.i32_mask x 2147483647 (k := 31) (by decide) (by decide)
  have e2 := Jvm.Kit.i32_rem_nonneg (x := (x &&& 2147483647)) (y := n) (by omega)
  rw [e2]
  exact ⟨Int.emod_nonneg _ (by omega), Int.emod_lt_of_pos _ hn⟩
theorem own_i32 {x : Int32} {k : Int} (h : x.toInt = k) : x = Int32.ofInt k := by
  rw [← h, Int32.ofInt_toInt]
theorem own_lremE (x y : Int64) : x - (x / y) * y = x % y := Int64.toInt_inj.mp ((Jvm.Kit.i64_rem x y).trans (Int64.toInt_mod x y).symm)
theorem own_rem10 (x : Int32) : (x &&& 2147483647) % 10 = 0 ∨ (x &&& 2147483647) % 10 = 1 ∨ (x &&& 2147483647) % 10 = 2 ∨ (x &&& 2147483647) % 10 = 3 ∨ (x &&& 2147483647) % 10 = 4 ∨ (x &&& 2147483647) % 10 = 5 ∨ (x &&& 2147483647) % 10 = 6 ∨ (x &&& 2147483647) % 10 = 7 ∨ (x &&& 2147483647) % 10 = 8 ∨ (x &&& 2147483647) % 10 = 9 := by
  have h := own_rem (x := x) (n := 10) (by decide)
  generalize (x &&& 2147483647) % 10 = k at *
  have e : (10 : Int32).toInt = 10 := by decide
  have q : k.toInt = 0 ∨ k.toInt = 1 ∨ k.toInt = 2 ∨ k.toInt = 3 ∨ k.toInt = 4 ∨ k.toInt = 5 ∨ k.toInt = 6 ∨ k.toInt = 7 ∨ k.toInt = 8 ∨ k.toInt = 9 := by omega
  rcases q with q | q | q | q | q | q | q | q | q | q
  · exact Or.inl (own_i32 q)
  · exact Or.inr (Or.inl (own_i32 q))
  · exact Or.inr (Or.inr (Or.inl (own_i32 q)))
  · exact Or.inr (Or.inr (Or.inr (Or.inl (own_i32 q))))
  · exact Or.inr (Or.inr (Or.inr (Or.inr (Or.inl (own_i32 q)))))
  · exact Or.inr (Or.inr (Or.inr (Or.inr (Or.inr (Or.inl (own_i32 q))))))
  · exact Or.inr (Or.inr (Or.inr (Or.inr (Or.inr (Or.inr (Or.inl (own_i32 q)))))))
  · exact Or.inr (Or.inr (Or.inr (Or.inr (Or.inr (Or.inr (Or.inr (Or.inl (own_i32 q))))))))
  · exact Or.inr (Or.inr (Or.inr (Or.inr (Or.inr (Or.inr (Or.inr (Or.inr (Or.inl (own_i32 q)))))))))
  · exact Or.inr (Or.inr (Or.inr (Or.inr (Or.inr (Or.inr (Or.inr (Or.inr (Or.inr (own_i32 q)))))))))
/-- what stands at the start: the statics, their classes and fields -/
def SF (Z : State) (w_ENABLE : Addr) (w_DISABLE : Addr) (w_ASSIGN : Addr) (w_DEASSIGN : Addr) (w_GRANT : Addr) (w_REVOKE : Addr) (w_ACTIVATE : Addr) (w_DEACTIVATE : Addr) (w_ENABLE_CONSTRAINT : Addr) (w_DISABLE_CONSTRAINT : Addr) : Prop := Sta Z Z.heap "com/example/timed_rbac/timedrbac/policy/Action" "ENABLE" "Lcom/example/timed_rbac/timedrbac/policy/Action;" (.ref w_ENABLE) ∧ Exa Z Z.heap w_ENABLE "com/example/timed_rbac/timedrbac/policy/Action" ∧ Sta Z Z.heap "com/example/timed_rbac/timedrbac/policy/Action" "DISABLE" "Lcom/example/timed_rbac/timedrbac/policy/Action;" (.ref w_DISABLE) ∧ Exa Z Z.heap w_DISABLE "com/example/timed_rbac/timedrbac/policy/Action" ∧ Sta Z Z.heap "com/example/timed_rbac/timedrbac/policy/Action" "ASSIGN" "Lcom/example/timed_rbac/timedrbac/policy/Action;" (.ref w_ASSIGN) ∧ Exa Z Z.heap w_ASSIGN "com/example/timed_rbac/timedrbac/policy/Action" ∧ Sta Z Z.heap "com/example/timed_rbac/timedrbac/policy/Action" "DEASSIGN" "Lcom/example/timed_rbac/timedrbac/policy/Action;" (.ref w_DEASSIGN) ∧ Exa Z Z.heap w_DEASSIGN "com/example/timed_rbac/timedrbac/policy/Action" ∧ Sta Z Z.heap "com/example/timed_rbac/timedrbac/policy/Action" "GRANT" "Lcom/example/timed_rbac/timedrbac/policy/Action;" (.ref w_GRANT) ∧ Exa Z Z.heap w_GRANT "com/example/timed_rbac/timedrbac/policy/Action" ∧ Sta Z Z.heap "com/example/timed_rbac/timedrbac/policy/Action" "REVOKE" "Lcom/example/timed_rbac/timedrbac/policy/Action;" (.ref w_REVOKE) ∧ Exa Z Z.heap w_REVOKE "com/example/timed_rbac/timedrbac/policy/Action" ∧ Sta Z Z.heap "com/example/timed_rbac/timedrbac/policy/Action" "ACTIVATE" "Lcom/example/timed_rbac/timedrbac/policy/Action;" (.ref w_ACTIVATE) ∧ Exa Z Z.heap w_ACTIVATE "com/example/timed_rbac/timedrbac/policy/Action" ∧ Sta Z Z.heap "com/example/timed_rbac/timedrbac/policy/Action" "DEACTIVATE" "Lcom/example/timed_rbac/timedrbac/policy/Action;" (.ref w_DEACTIVATE) ∧ Exa Z Z.heap w_DEACTIVATE "com/example/timed_rbac/timedrbac/policy/Action" ∧ Sta Z Z.heap "com/example/timed_rbac/timedrbac/policy/Action" "ENABLE_CONSTRAINT" "Lcom/example/timed_rbac/timedrbac/policy/Action;" (.ref w_ENABLE_CONSTRAINT) ∧ Exa Z Z.heap w_ENABLE_CONSTRAINT "com/example/timed_rbac/timedrbac/policy/Action" ∧ Sta Z Z.heap "com/example/timed_rbac/timedrbac/policy/Action" "DISABLE_CONSTRAINT" "Lcom/example/timed_rbac/timedrbac/policy/Action;" (.ref w_DISABLE_CONSTRAINT) ∧ Exa Z Z.heap w_DISABLE_CONSTRAINT "com/example/timed_rbac/timedrbac/policy/Action" ∧ Fld Z Z.heap w_ENABLE "java/lang/Enum" "ordinal" "I" (.int (0 : Int32)) ∧ Fld Z Z.heap w_DISABLE "java/lang/Enum" "ordinal" "I" (.int (1 : Int32)) ∧ Fld Z Z.heap w_DEASSIGN "java/lang/Enum" "ordinal" "I" (.int (3 : Int32)) ∧ Fld Z Z.heap w_ASSIGN "java/lang/Enum" "ordinal" "I" (.int (2 : Int32)) ∧ Fld Z Z.heap w_GRANT "java/lang/Enum" "ordinal" "I" (.int (4 : Int32)) ∧ Fld Z Z.heap w_REVOKE "java/lang/Enum" "ordinal" "I" (.int (5 : Int32)) ∧ Fld Z Z.heap w_DEACTIVATE "java/lang/Enum" "ordinal" "I" (.int (7 : Int32)) ∧ Fld Z Z.heap w_ACTIVATE "java/lang/Enum" "ordinal" "I" (.int (6 : Int32)) ∧ Fld Z Z.heap w_ENABLE_CONSTRAINT "java/lang/Enum" "ordinal" "I" (.int (8 : Int32)) ∧ Fld Z Z.heap w_DISABLE_CONSTRAINT "java/lang/Enum" "ordinal" "I" (.int (9 : Int32))
theorem d2_0 : decode jdk_37_method_2_code 0 = .ok (.aload_n 0, 1) := by decide +kernel
theorem d2_1 : decode jdk_37_method_2_code 1 = .ok (.getfield 7, 3) := by decide +kernel
theorem d2_4 : decode jdk_37_method_2_code 4 = .ok (.ireturn, 1) := by decide +kernel
theorem pn_324514 : plainName "java/lang/Enum" = true := by first | (simp [plainName, overriddenIn]; done) | decide +kernel
theorem ef_rm2 (m : MethodId) (x0 : Addr) : entryFrame m #[(.ref x0)] 1 = mkF m 0 #[.val (.ref x0)] [] := by first | (simp [entryFrame, mkF, argsToLocals, Value.category]; done) | rfl
set_option maxRecDepth 65536 in
set_option maxHeartbeats 400000000 in
theorem rm2 (l : Launch) (Z : State) (a0 : Array Value) (hw : ∀ d ∈ tables_1, d.before a0 Z = true) (ws : List Jvm.Cond) (w_ENABLE : Addr) (w_DISABLE : Addr) (w_ASSIGN : Addr) (w_DEASSIGN : Addr) (w_GRANT : Addr) (w_REVOKE : Addr) (w_ACTIVATE : Addr) (w_DEACTIVATE : Addr) (w_ENABLE_CONSTRAINT : Addr) (w_DISABLE_CONSTRAINT : Addr) (hS : SF Z w_ENABLE w_DISABLE w_ASSIGN w_DEASSIGN w_GRANT w_REVOKE w_ACTIVATE w_DEACTIVATE w_ENABLE_CONSTRAINT w_DISABLE_CONSTRAINT) (a1 : Addr) (C : Int32) (h0 : Heap) (O0 : Ext Z.heap h0) (FC : Fld Z h0 a1 "java/lang/Enum" "ordinal" "I" (.int C)) :
    Con l Z h0 (⟨"java/lang/Enum", "ordinal", "()I"⟩ : MethodName) jdk_37_method_2_code 1 (some .int) ws ({ frames := 0, cells := 0, slots := 0, locals := 0 } : Room) #[(.ref a1)] (fun v h L => v = some (.int C) ∧ Fr Z.heap.size L ∧ h = h0) := by
  obtain ⟨S_ENABLE, E_ENABLE, S_DISABLE, E_DISABLE, S_ASSIGN, E_ASSIGN, S_DEASSIGN, E_DEASSIGN, S_GRANT, E_GRANT, S_REVOKE, E_REVOKE, S_ACTIVATE, E_ACTIVATE, S_DEACTIVATE, E_DEACTIVATE, S_ENABLE_CONSTRAINT, E_ENABLE_CONSTRAINT, S_DISABLE_CONSTRAINT, E_DISABLE_CONSTRAINT, F_ENABLE_ordinal, F_DISABLE_ordinal, F_DEASSIGN_ordinal, F_ASSIGN_ordinal, F_GRANT_ordinal, F_REVOKE_ordinal, F_DEACTIVATE_ordinal, F_ACTIVATE_ordinal, F_ENABLE_CONSTRAINT_ordinal, F_DISABLE_CONSTRAINT_ordinal⟩ := id hS
  refine own_con (plainFor_of_name pn_324514) ?_
  intro p e s m below meth c T0 X0 hx hby hml hown hnm hret hlk hZ e0
  have hown : s.vm.findClass "java/lang/Enum" = some m.cls := hown
  have N0 := Fr.nil Z.heap.size
  refine Go.st (S' := T0.setTop (mkF m 0 #[.val (.ref a1)] [])) (fun _ k => castTop (ef_rm2 m a1) k) ?_
  refine Go.st (S' := T0.setTop (mkF m 1 #[.val (.ref a1)] [(.ref a1)])) (fun _ k => XS.aloadN X0.here hx rfl (hb hby d2_0) rfl rfl k) ?_
  obtain ⟨T1, X1, e1, st1⟩ := getF X0 hx hZ hown (host := "") (Or.inl (ww hw 37 rfl)) Via.refl e0 FC (g := (mkF m 1 #[.val (.ref a1)] [(.ref a1)])) rfl rfl (hb hby d2_1)
  refine Go.st (S' := T1.setTop (mkF m 4 #[.val (.ref a1)] [(.int C)])) st1 ?_
  exact own_retI X1 hx hlk hret (hb hby d2_4) e1 ⟨rfl, N0, rfl⟩ (by decide) (by decide)
theorem d1_0 : decode prog_27_method_5_code 0 = .ok (.aload_n 0, 1) := by decide +kernel
theorem d1_1 : decode prog_27_method_5_code 1 = .ok (.invokevirtual 57, 3) := by decide +kernel
theorem d1_4 : decode prog_27_method_5_code 4 = .ok (.tableswitch 56 0 9 #[66, 72, 78, 84, 90, 96, 102, 108, 114, 120], 56) := by decide +kernel
theorem d1_70 : decode prog_27_method_5_code 70 = .ok (.getstatic 7, 3) := by decide +kernel
theorem d1_73 : decode prog_27_method_5_code 73 = .ok (.goto 54, 3) := by decide +kernel
theorem d1_76 : decode prog_27_method_5_code 76 = .ok (.getstatic 3, 3) := by decide +kernel
theorem d1_79 : decode prog_27_method_5_code 79 = .ok (.goto 48, 3) := by decide +kernel
theorem d1_82 : decode prog_27_method_5_code 82 = .ok (.getstatic 13, 3) := by decide +kernel
theorem d1_85 : decode prog_27_method_5_code 85 = .ok (.goto 42, 3) := by decide +kernel
theorem d1_88 : decode prog_27_method_5_code 88 = .ok (.getstatic 10, 3) := by decide +kernel
theorem d1_91 : decode prog_27_method_5_code 91 = .ok (.goto 36, 3) := by decide +kernel
theorem d1_94 : decode prog_27_method_5_code 94 = .ok (.getstatic 19, 3) := by decide +kernel
theorem d1_97 : decode prog_27_method_5_code 97 = .ok (.goto 30, 3) := by decide +kernel
theorem d1_100 : decode prog_27_method_5_code 100 = .ok (.getstatic 16, 3) := by decide +kernel
theorem d1_103 : decode prog_27_method_5_code 103 = .ok (.goto 24, 3) := by decide +kernel
theorem d1_106 : decode prog_27_method_5_code 106 = .ok (.getstatic 25, 3) := by decide +kernel
theorem d1_109 : decode prog_27_method_5_code 109 = .ok (.goto 18, 3) := by decide +kernel
theorem d1_112 : decode prog_27_method_5_code 112 = .ok (.getstatic 22, 3) := by decide +kernel
theorem d1_115 : decode prog_27_method_5_code 115 = .ok (.goto 12, 3) := by decide +kernel
theorem d1_118 : decode prog_27_method_5_code 118 = .ok (.getstatic 31, 3) := by decide +kernel
theorem d1_121 : decode prog_27_method_5_code 121 = .ok (.goto 6, 3) := by decide +kernel
theorem d1_124 : decode prog_27_method_5_code 124 = .ok (.getstatic 28, 3) := by decide +kernel
theorem d1_127 : decode prog_27_method_5_code 127 = .ok (.areturn, 1) := by decide +kernel
theorem pd_428473 : parseMethodDescriptor "()I" = some ⟨[], some .int⟩ := by decide +kernel
theorem pn_268111 : plainName "com/example/timed_rbac/timedrbac/policy/Action" = true := by first | (simp [plainName, overriddenIn]; done) | decide +kernel
theorem ef_rm1 (m : MethodId) (x0 : Addr) : entryFrame m #[(.ref x0)] 1 = mkF m 0 #[.val (.ref x0)] [] := by first | (simp [entryFrame, mkF, argsToLocals, Value.category]; done) | rfl
set_option maxRecDepth 65536 in
set_option maxHeartbeats 400000000 in
theorem rm1 (l : Launch) (Z : State) (a0 : Array Value) (hw : ∀ d ∈ tables_1, d.before a0 Z = true) (ws : List Jvm.Cond) (w_ENABLE : Addr) (w_DISABLE : Addr) (w_ASSIGN : Addr) (w_DEASSIGN : Addr) (w_GRANT : Addr) (w_REVOKE : Addr) (w_ACTIVATE : Addr) (w_DEACTIVATE : Addr) (w_ENABLE_CONSTRAINT : Addr) (w_DISABLE_CONSTRAINT : Addr) (hS : SF Z w_ENABLE w_DISABLE w_ASSIGN w_DEASSIGN w_GRANT w_REVOKE w_ACTIVATE w_DEACTIVATE w_ENABLE_CONSTRAINT w_DISABLE_CONSTRAINT) (a1 : Addr) (o : Int32) (w : Addr) (hq : (o = 0 ∧ w_DISABLE = w) ∨ (o = 1 ∧ w_ENABLE = w) ∨ (o = 2 ∧ w_DEASSIGN = w) ∨ (o = 3 ∧ w_ASSIGN = w) ∨ (o = 4 ∧ w_REVOKE = w) ∨ (o = 5 ∧ w_GRANT = w) ∨ (o = 6 ∧ w_DEACTIVATE = w) ∨ (o = 7 ∧ w_ACTIVATE = w) ∨ (o = 8 ∧ w_DISABLE_CONSTRAINT = w) ∨ (o = 9 ∧ w_ENABLE_CONSTRAINT = w)) (h0 : Heap) (O0 : Ext Z.heap h0) (EA : Exa Z h0 a1 "com/example/timed_rbac/timedrbac/policy/Action") (FC : Fld Z h0 a1 "java/lang/Enum" "ordinal" "I" (.int o)) :
    Con l Z h0 (⟨"com/example/timed_rbac/timedrbac/policy/Action", "opposite", "()Lcom/example/timed_rbac/timedrbac/policy/Action;"⟩ : MethodName) prog_27_method_5_code 1 (some (.object "com/example/timed_rbac/timedrbac/policy/Action")) ws ({ frames := 1, cells := 0, slots := 0, locals := 12 } : Room) #[(.ref a1)] (fun v h L => v = some (.ref w) ∧ Fr Z.heap.size L ∧ h = h0) := by
  obtain ⟨S_ENABLE, E_ENABLE, S_DISABLE, E_DISABLE, S_ASSIGN, E_ASSIGN, S_DEASSIGN, E_DEASSIGN, S_GRANT, E_GRANT, S_REVOKE, E_REVOKE, S_ACTIVATE, E_ACTIVATE, S_DEACTIVATE, E_DEACTIVATE, S_ENABLE_CONSTRAINT, E_ENABLE_CONSTRAINT, S_DISABLE_CONSTRAINT, E_DISABLE_CONSTRAINT, F_ENABLE_ordinal, F_DISABLE_ordinal, F_DEASSIGN_ordinal, F_ASSIGN_ordinal, F_GRANT_ordinal, F_REVOKE_ordinal, F_DEACTIVATE_ordinal, F_ACTIVATE_ordinal, F_ENABLE_CONSTRAINT_ordinal, F_DISABLE_CONSTRAINT_ordinal⟩ := id hS
  refine own_con (plainFor_of_name pn_268111) ?_
  intro p e s m below meth c T0 X0 hx hby hml hown hnm hret hlk hZ e0
  have hown : s.vm.findClass "com/example/timed_rbac/timedrbac/policy/Action" = some m.cls := hown
  have N0 := Fr.nil Z.heap.size
  refine Go.st (S' := T0.setTop (mkF m 0 #[.val (.ref a1)] [])) (fun _ k => castTop (ef_rm1 m a1) k) ?_
  rcases hq with ⟨rfl, rfl⟩ | ⟨rfl, rfl⟩ | ⟨rfl, rfl⟩ | ⟨rfl, rfl⟩ | ⟨rfl, rfl⟩ | ⟨rfl, rfl⟩ | ⟨rfl, rfl⟩ | ⟨rfl, rfl⟩ | ⟨rfl, rfl⟩ | ⟨rfl, rfl⟩
  · refine Go.st (S' := T0.setTop (mkF m 1 #[.val (.ref a1)] [(.ref a1)])) (fun _ k => XS.aloadN X0.here hx rfl (hb hby d1_0) rfl rfl k) ?_
    obtain ⟨_, T2, L2, X2, ⟨rfl, Nq2, eq2⟩, st2⟩ := own_callVU X0 hx hZ hown (ww hw 30 rfl) (ww hw 31 rfl) (ww hw 32 rfl) (by decide) (ww hw 34 rfl) (ww hw 33 rfl) (ww hw 35 rfl) (ww hw 36 rfl) e0 EA (rm2 l Z a0 hw [] w_ENABLE w_DISABLE w_ASSIGN w_DEASSIGN w_GRANT w_REVOKE w_ACTIVATE w_DEACTIVATE w_ENABLE_CONSTRAINT w_DISABLE_CONSTRAINT hS a1 (0 : Int32) h0 O0 FC) 0 (by decide) (by decide) (by decide) (by decide) (g := (mkF m 1 #[.val (.ref a1)] [(.ref a1)])) rfl (by rw [hml]; rfl) [] [] rfl (lenOf pd_428473 rfl) rfl (by show 2 * 0 + _ ≤ _; exact Nat.le_of_eq rfl) (hb hby d1_1)
    have N2 := Fr.app N0 Nq2
    refine Go.st (S' := T2.setTop (mkF m 4 #[.val (.ref a1)] [(.int (0 : Int32))])) st2 ?_
    refine Go.st (S' := T2.setTop (mkF m 70 #[.val (.ref a1)] [])) (fun _ k => XS.tswIn X2.here hx rfl (pc0 := 4) (pc' := 70) (o := 66) rfl (hb hby d1_4) rfl (by decide) (by decide) (by decide) (by decide) k) ?_
    obtain ⟨T3, X3, e3, st3⟩ := getS2 X2 hx hZ hown (host := "") (Or.inl (ww hw 39 rfl)) Via.refl eq2 (S_DISABLE.ext O0) (g := (mkF m 70 #[.val (.ref a1)] [])) rfl (hb hby d1_70)
    refine Go.st (S' := T3.setTop (mkF m 73 #[.val (.ref a1)] [(.ref w_DISABLE)])) st3 ?_
    refine Go.st (S' := T3.setTop (mkF m 127 #[.val (.ref a1)] [(.ref w_DISABLE)])) (fun _ k => XS.goto X3.here hx rfl (pc0 := 73) (pc' := 127) rfl (hb hby d1_73) (by decide) (by decide) k) ?_
    exact own_retA X3 hx hlk hret rfl rfl rfl (hb hby d1_127) e3 ⟨rfl, N2, rfl⟩ (by decide) (by decide)
  · refine Go.st (S' := T0.setTop (mkF m 1 #[.val (.ref a1)] [(.ref a1)])) (fun _ k => XS.aloadN X0.here hx rfl (hb hby d1_0) rfl rfl k) ?_
    obtain ⟨_, T4, L4, X4, ⟨rfl, Nq4, eq4⟩, st4⟩ := own_callVU X0 hx hZ hown (ww hw 30 rfl) (ww hw 31 rfl) (ww hw 32 rfl) (by decide) (ww hw 34 rfl) (ww hw 33 rfl) (ww hw 35 rfl) (ww hw 36 rfl) e0 EA (rm2 l Z a0 hw [] w_ENABLE w_DISABLE w_ASSIGN w_DEASSIGN w_GRANT w_REVOKE w_ACTIVATE w_DEACTIVATE w_ENABLE_CONSTRAINT w_DISABLE_CONSTRAINT hS a1 (1 : Int32) h0 O0 FC) 0 (by decide) (by decide) (by decide) (by decide) (g := (mkF m 1 #[.val (.ref a1)] [(.ref a1)])) rfl (by rw [hml]; rfl) [] [] rfl (lenOf pd_428473 rfl) rfl (by show 2 * 0 + _ ≤ _; exact Nat.le_of_eq rfl) (hb hby d1_1)
    have N4 := Fr.app N0 Nq4
    refine Go.st (S' := T4.setTop (mkF m 4 #[.val (.ref a1)] [(.int (1 : Int32))])) st4 ?_
    refine Go.st (S' := T4.setTop (mkF m 76 #[.val (.ref a1)] [])) (fun _ k => XS.tswIn X4.here hx rfl (pc0 := 4) (pc' := 76) (o := 72) rfl (hb hby d1_4) rfl (by decide) (by decide) (by decide) (by decide) k) ?_
    obtain ⟨T5, X5, e5, st5⟩ := getS2 X4 hx hZ hown (host := "") (Or.inl (ww hw 40 rfl)) Via.refl eq4 (S_ENABLE.ext O0) (g := (mkF m 76 #[.val (.ref a1)] [])) rfl (hb hby d1_76)
    refine Go.st (S' := T5.setTop (mkF m 79 #[.val (.ref a1)] [(.ref w_ENABLE)])) st5 ?_
    refine Go.st (S' := T5.setTop (mkF m 127 #[.val (.ref a1)] [(.ref w_ENABLE)])) (fun _ k => XS.goto X5.here hx rfl (pc0 := 79) (pc' := 127) rfl (hb hby d1_79) (by decide) (by decide) k) ?_
    exact own_retA X5 hx hlk hret rfl rfl rfl (hb hby d1_127) e5 ⟨rfl, N4, rfl⟩ (by decide) (by decide)
  · refine Go.st (S' := T0.setTop (mkF m 1 #[.val (.ref a1)] [(.ref a1)])) (fun _ k => XS.aloadN X0.here hx rfl (hb hby d1_0) rfl rfl k) ?_
    obtain ⟨_, T6, L6, X6, ⟨rfl, Nq6, eq6⟩, st6⟩ := own_callVU X0 hx hZ hown (ww hw 30 rfl) (ww hw 31 rfl) (ww hw 32 rfl) (by decide) (ww hw 34 rfl) (ww hw 33 rfl) (ww hw 35 rfl) (ww hw 36 rfl) e0 EA (rm2 l Z a0 hw [] w_ENABLE w_DISABLE w_ASSIGN w_DEASSIGN w_GRANT w_REVOKE w_ACTIVATE w_DEACTIVATE w_ENABLE_CONSTRAINT w_DISABLE_CONSTRAINT hS a1 (2 : Int32) h0 O0 FC) 0 (by decide) (by decide) (by decide) (by decide) (g := (mkF m 1 #[.val (.ref a1)] [(.ref a1)])) rfl (by rw [hml]; rfl) [] [] rfl (lenOf pd_428473 rfl) rfl (by show 2 * 0 + _ ≤ _; exact Nat.le_of_eq rfl) (hb hby d1_1)
    have N6 := Fr.app N0 Nq6
    refine Go.st (S' := T6.setTop (mkF m 4 #[.val (.ref a1)] [(.int (2 : Int32))])) st6 ?_
    refine Go.st (S' := T6.setTop (mkF m 82 #[.val (.ref a1)] [])) (fun _ k => XS.tswIn X6.here hx rfl (pc0 := 4) (pc' := 82) (o := 78) rfl (hb hby d1_4) rfl (by decide) (by decide) (by decide) (by decide) k) ?_
    obtain ⟨T7, X7, e7, st7⟩ := getS2 X6 hx hZ hown (host := "") (Or.inl (ww hw 47 rfl)) Via.refl eq6 (S_DEASSIGN.ext O0) (g := (mkF m 82 #[.val (.ref a1)] [])) rfl (hb hby d1_82)
    refine Go.st (S' := T7.setTop (mkF m 85 #[.val (.ref a1)] [(.ref w_DEASSIGN)])) st7 ?_
    refine Go.st (S' := T7.setTop (mkF m 127 #[.val (.ref a1)] [(.ref w_DEASSIGN)])) (fun _ k => XS.goto X7.here hx rfl (pc0 := 85) (pc' := 127) rfl (hb hby d1_85) (by decide) (by decide) k) ?_
    exact own_retA X7 hx hlk hret rfl rfl rfl (hb hby d1_127) e7 ⟨rfl, N6, rfl⟩ (by decide) (by decide)
  · refine Go.st (S' := T0.setTop (mkF m 1 #[.val (.ref a1)] [(.ref a1)])) (fun _ k => XS.aloadN X0.here hx rfl (hb hby d1_0) rfl rfl k) ?_
    obtain ⟨_, T8, L8, X8, ⟨rfl, Nq8, eq8⟩, st8⟩ := own_callVU X0 hx hZ hown (ww hw 30 rfl) (ww hw 31 rfl) (ww hw 32 rfl) (by decide) (ww hw 34 rfl) (ww hw 33 rfl) (ww hw 35 rfl) (ww hw 36 rfl) e0 EA (rm2 l Z a0 hw [] w_ENABLE w_DISABLE w_ASSIGN w_DEASSIGN w_GRANT w_REVOKE w_ACTIVATE w_DEACTIVATE w_ENABLE_CONSTRAINT w_DISABLE_CONSTRAINT hS a1 (3 : Int32) h0 O0 FC) 0 (by decide) (by decide) (by decide) (by decide) (g := (mkF m 1 #[.val (.ref a1)] [(.ref a1)])) rfl (by rw [hml]; rfl) [] [] rfl (lenOf pd_428473 rfl) rfl (by show 2 * 0 + _ ≤ _; exact Nat.le_of_eq rfl) (hb hby d1_1)
    have N8 := Fr.app N0 Nq8
    refine Go.st (S' := T8.setTop (mkF m 4 #[.val (.ref a1)] [(.int (3 : Int32))])) st8 ?_
    refine Go.st (S' := T8.setTop (mkF m 88 #[.val (.ref a1)] [])) (fun _ k => XS.tswIn X8.here hx rfl (pc0 := 4) (pc' := 88) (o := 84) rfl (hb hby d1_4) rfl (by decide) (by decide) (by decide) (by decide) k) ?_
    obtain ⟨T9, X9, e9, st9⟩ := getS2 X8 hx hZ hown (host := "") (Or.inl (ww hw 46 rfl)) Via.refl eq8 (S_ASSIGN.ext O0) (g := (mkF m 88 #[.val (.ref a1)] [])) rfl (hb hby d1_88)
    refine Go.st (S' := T9.setTop (mkF m 91 #[.val (.ref a1)] [(.ref w_ASSIGN)])) st9 ?_
    refine Go.st (S' := T9.setTop (mkF m 127 #[.val (.ref a1)] [(.ref w_ASSIGN)])) (fun _ k => XS.goto X9.here hx rfl (pc0 := 91) (pc' := 127) rfl (hb hby d1_91) (by decide) (by decide) k) ?_
    exact own_retA X9 hx hlk hret rfl rfl rfl (hb hby d1_127) e9 ⟨rfl, N8, rfl⟩ (by decide) (by decide)
  · refine Go.st (S' := T0.setTop (mkF m 1 #[.val (.ref a1)] [(.ref a1)])) (fun _ k => XS.aloadN X0.here hx rfl (hb hby d1_0) rfl rfl k) ?_
    obtain ⟨_, T10, L10, X10, ⟨rfl, Nq10, eq10⟩, st10⟩ := own_callVU X0 hx hZ hown (ww hw 30 rfl) (ww hw 31 rfl) (ww hw 32 rfl) (by decide) (ww hw 34 rfl) (ww hw 33 rfl) (ww hw 35 rfl) (ww hw 36 rfl) e0 EA (rm2 l Z a0 hw [] w_ENABLE w_DISABLE w_ASSIGN w_DEASSIGN w_GRANT w_REVOKE w_ACTIVATE w_DEACTIVATE w_ENABLE_CONSTRAINT w_DISABLE_CONSTRAINT hS a1 (4 : Int32) h0 O0 FC) 0 (by decide) (by decide) (by decide) (by decide) (g := (mkF m 1 #[.val (.ref a1)] [(.ref a1)])) rfl (by rw [hml]; rfl) [] [] rfl (lenOf pd_428473 rfl) rfl (by show 2 * 0 + _ ≤ _; exact Nat.le_of_eq rfl) (hb hby d1_1)
    have N10 := Fr.app N0 Nq10
    refine Go.st (S' := T10.setTop (mkF m 4 #[.val (.ref a1)] [(.int (4 : Int32))])) st10 ?_
    refine Go.st (S' := T10.setTop (mkF m 94 #[.val (.ref a1)] [])) (fun _ k => XS.tswIn X10.here hx rfl (pc0 := 4) (pc' := 94) (o := 90) rfl (hb hby d1_4) rfl (by decide) (by decide) (by decide) (by decide) k) ?_
    obtain ⟨T11, X11, e11, st11⟩ := getS2 X10 hx hZ hown (host := "") (Or.inl (ww hw 48 rfl)) Via.refl eq10 (S_REVOKE.ext O0) (g := (mkF m 94 #[.val (.ref a1)] [])) rfl (hb hby d1_94)
    refine Go.st (S' := T11.setTop (mkF m 97 #[.val (.ref a1)] [(.ref w_REVOKE)])) st11 ?_
    refine Go.st (S' := T11.setTop (mkF m 127 #[.val (.ref a1)] [(.ref w_REVOKE)])) (fun _ k => XS.goto X11.here hx rfl (pc0 := 97) (pc' := 127) rfl (hb hby d1_97) (by decide) (by decide) k) ?_
    exact own_retA X11 hx hlk hret rfl rfl rfl (hb hby d1_127) e11 ⟨rfl, N10, rfl⟩ (by decide) (by decide)
  · refine Go.st (S' := T0.setTop (mkF m 1 #[.val (.ref a1)] [(.ref a1)])) (fun _ k => XS.aloadN X0.here hx rfl (hb hby d1_0) rfl rfl k) ?_
    obtain ⟨_, T12, L12, X12, ⟨rfl, Nq12, eq12⟩, st12⟩ := own_callVU X0 hx hZ hown (ww hw 30 rfl) (ww hw 31 rfl) (ww hw 32 rfl) (by decide) (ww hw 34 rfl) (ww hw 33 rfl) (ww hw 35 rfl) (ww hw 36 rfl) e0 EA (rm2 l Z a0 hw [] w_ENABLE w_DISABLE w_ASSIGN w_DEASSIGN w_GRANT w_REVOKE w_ACTIVATE w_DEACTIVATE w_ENABLE_CONSTRAINT w_DISABLE_CONSTRAINT hS a1 (5 : Int32) h0 O0 FC) 0 (by decide) (by decide) (by decide) (by decide) (g := (mkF m 1 #[.val (.ref a1)] [(.ref a1)])) rfl (by rw [hml]; rfl) [] [] rfl (lenOf pd_428473 rfl) rfl (by show 2 * 0 + _ ≤ _; exact Nat.le_of_eq rfl) (hb hby d1_1)
    have N12 := Fr.app N0 Nq12
    refine Go.st (S' := T12.setTop (mkF m 4 #[.val (.ref a1)] [(.int (5 : Int32))])) st12 ?_
    refine Go.st (S' := T12.setTop (mkF m 100 #[.val (.ref a1)] [])) (fun _ k => XS.tswIn X12.here hx rfl (pc0 := 4) (pc' := 100) (o := 96) rfl (hb hby d1_4) rfl (by decide) (by decide) (by decide) (by decide) k) ?_
    obtain ⟨T13, X13, e13, st13⟩ := getS2 X12 hx hZ hown (host := "") (Or.inl (ww hw 49 rfl)) Via.refl eq12 (S_GRANT.ext O0) (g := (mkF m 100 #[.val (.ref a1)] [])) rfl (hb hby d1_100)
    refine Go.st (S' := T13.setTop (mkF m 103 #[.val (.ref a1)] [(.ref w_GRANT)])) st13 ?_
    refine Go.st (S' := T13.setTop (mkF m 127 #[.val (.ref a1)] [(.ref w_GRANT)])) (fun _ k => XS.goto X13.here hx rfl (pc0 := 103) (pc' := 127) rfl (hb hby d1_103) (by decide) (by decide) k) ?_
    exact own_retA X13 hx hlk hret rfl rfl rfl (hb hby d1_127) e13 ⟨rfl, N12, rfl⟩ (by decide) (by decide)
  · refine Go.st (S' := T0.setTop (mkF m 1 #[.val (.ref a1)] [(.ref a1)])) (fun _ k => XS.aloadN X0.here hx rfl (hb hby d1_0) rfl rfl k) ?_
    obtain ⟨_, T14, L14, X14, ⟨rfl, Nq14, eq14⟩, st14⟩ := own_callVU X0 hx hZ hown (ww hw 30 rfl) (ww hw 31 rfl) (ww hw 32 rfl) (by decide) (ww hw 34 rfl) (ww hw 33 rfl) (ww hw 35 rfl) (ww hw 36 rfl) e0 EA (rm2 l Z a0 hw [] w_ENABLE w_DISABLE w_ASSIGN w_DEASSIGN w_GRANT w_REVOKE w_ACTIVATE w_DEACTIVATE w_ENABLE_CONSTRAINT w_DISABLE_CONSTRAINT hS a1 (6 : Int32) h0 O0 FC) 0 (by decide) (by decide) (by decide) (by decide) (g := (mkF m 1 #[.val (.ref a1)] [(.ref a1)])) rfl (by rw [hml]; rfl) [] [] rfl (lenOf pd_428473 rfl) rfl (by show 2 * 0 + _ ≤ _; exact Nat.le_of_eq rfl) (hb hby d1_1)
    have N14 := Fr.app N0 Nq14
    refine Go.st (S' := T14.setTop (mkF m 4 #[.val (.ref a1)] [(.int (6 : Int32))])) st14 ?_
    refine Go.st (S' := T14.setTop (mkF m 106 #[.val (.ref a1)] [])) (fun _ k => XS.tswIn X14.here hx rfl (pc0 := 4) (pc' := 106) (o := 102) rfl (hb hby d1_4) rfl (by decide) (by decide) (by decide) (by decide) k) ?_
    obtain ⟨T15, X15, e15, st15⟩ := getS2 X14 hx hZ hown (host := "") (Or.inl (ww hw 51 rfl)) Via.refl eq14 (S_DEACTIVATE.ext O0) (g := (mkF m 106 #[.val (.ref a1)] [])) rfl (hb hby d1_106)
    refine Go.st (S' := T15.setTop (mkF m 109 #[.val (.ref a1)] [(.ref w_DEACTIVATE)])) st15 ?_
    refine Go.st (S' := T15.setTop (mkF m 127 #[.val (.ref a1)] [(.ref w_DEACTIVATE)])) (fun _ k => XS.goto X15.here hx rfl (pc0 := 109) (pc' := 127) rfl (hb hby d1_109) (by decide) (by decide) k) ?_
    exact own_retA X15 hx hlk hret rfl rfl rfl (hb hby d1_127) e15 ⟨rfl, N14, rfl⟩ (by decide) (by decide)
  · refine Go.st (S' := T0.setTop (mkF m 1 #[.val (.ref a1)] [(.ref a1)])) (fun _ k => XS.aloadN X0.here hx rfl (hb hby d1_0) rfl rfl k) ?_
    obtain ⟨_, T16, L16, X16, ⟨rfl, Nq16, eq16⟩, st16⟩ := own_callVU X0 hx hZ hown (ww hw 30 rfl) (ww hw 31 rfl) (ww hw 32 rfl) (by decide) (ww hw 34 rfl) (ww hw 33 rfl) (ww hw 35 rfl) (ww hw 36 rfl) e0 EA (rm2 l Z a0 hw [] w_ENABLE w_DISABLE w_ASSIGN w_DEASSIGN w_GRANT w_REVOKE w_ACTIVATE w_DEACTIVATE w_ENABLE_CONSTRAINT w_DISABLE_CONSTRAINT hS a1 (7 : Int32) h0 O0 FC) 0 (by decide) (by decide) (by decide) (by decide) (g := (mkF m 1 #[.val (.ref a1)] [(.ref a1)])) rfl (by rw [hml]; rfl) [] [] rfl (lenOf pd_428473 rfl) rfl (by show 2 * 0 + _ ≤ _; exact Nat.le_of_eq rfl) (hb hby d1_1)
    have N16 := Fr.app N0 Nq16
    refine Go.st (S' := T16.setTop (mkF m 4 #[.val (.ref a1)] [(.int (7 : Int32))])) st16 ?_
    refine Go.st (S' := T16.setTop (mkF m 112 #[.val (.ref a1)] [])) (fun _ k => XS.tswIn X16.here hx rfl (pc0 := 4) (pc' := 112) (o := 108) rfl (hb hby d1_4) rfl (by decide) (by decide) (by decide) (by decide) k) ?_
    obtain ⟨T17, X17, e17, st17⟩ := getS2 X16 hx hZ hown (host := "") (Or.inl (ww hw 50 rfl)) Via.refl eq16 (S_ACTIVATE.ext O0) (g := (mkF m 112 #[.val (.ref a1)] [])) rfl (hb hby d1_112)
    refine Go.st (S' := T17.setTop (mkF m 115 #[.val (.ref a1)] [(.ref w_ACTIVATE)])) st17 ?_
    refine Go.st (S' := T17.setTop (mkF m 127 #[.val (.ref a1)] [(.ref w_ACTIVATE)])) (fun _ k => XS.goto X17.here hx rfl (pc0 := 115) (pc' := 127) rfl (hb hby d1_115) (by decide) (by decide) k) ?_
    exact own_retA X17 hx hlk hret rfl rfl rfl (hb hby d1_127) e17 ⟨rfl, N16, rfl⟩ (by decide) (by decide)
  · refine Go.st (S' := T0.setTop (mkF m 1 #[.val (.ref a1)] [(.ref a1)])) (fun _ k => XS.aloadN X0.here hx rfl (hb hby d1_0) rfl rfl k) ?_
    obtain ⟨_, T18, L18, X18, ⟨rfl, Nq18, eq18⟩, st18⟩ := own_callVU X0 hx hZ hown (ww hw 30 rfl) (ww hw 31 rfl) (ww hw 32 rfl) (by decide) (ww hw 34 rfl) (ww hw 33 rfl) (ww hw 35 rfl) (ww hw 36 rfl) e0 EA (rm2 l Z a0 hw [] w_ENABLE w_DISABLE w_ASSIGN w_DEASSIGN w_GRANT w_REVOKE w_ACTIVATE w_DEACTIVATE w_ENABLE_CONSTRAINT w_DISABLE_CONSTRAINT hS a1 (8 : Int32) h0 O0 FC) 0 (by decide) (by decide) (by decide) (by decide) (g := (mkF m 1 #[.val (.ref a1)] [(.ref a1)])) rfl (by rw [hml]; rfl) [] [] rfl (lenOf pd_428473 rfl) rfl (by show 2 * 0 + _ ≤ _; exact Nat.le_of_eq rfl) (hb hby d1_1)
    have N18 := Fr.app N0 Nq18
    refine Go.st (S' := T18.setTop (mkF m 4 #[.val (.ref a1)] [(.int (8 : Int32))])) st18 ?_
    refine Go.st (S' := T18.setTop (mkF m 118 #[.val (.ref a1)] [])) (fun _ k => XS.tswIn X18.here hx rfl (pc0 := 4) (pc' := 118) (o := 114) rfl (hb hby d1_4) rfl (by decide) (by decide) (by decide) (by decide) k) ?_
    obtain ⟨T19, X19, e19, st19⟩ := getS2 X18 hx hZ hown (host := "") (Or.inl (ww hw 52 rfl)) Via.refl eq18 (S_DISABLE_CONSTRAINT.ext O0) (g := (mkF m 118 #[.val (.ref a1)] [])) rfl (hb hby d1_118)
    refine Go.st (S' := T19.setTop (mkF m 121 #[.val (.ref a1)] [(.ref w_DISABLE_CONSTRAINT)])) st19 ?_
    refine Go.st (S' := T19.setTop (mkF m 127 #[.val (.ref a1)] [(.ref w_DISABLE_CONSTRAINT)])) (fun _ k => XS.goto X19.here hx rfl (pc0 := 121) (pc' := 127) rfl (hb hby d1_121) (by decide) (by decide) k) ?_
    exact own_retA X19 hx hlk hret rfl rfl rfl (hb hby d1_127) e19 ⟨rfl, N18, rfl⟩ (by decide) (by decide)
  · refine Go.st (S' := T0.setTop (mkF m 1 #[.val (.ref a1)] [(.ref a1)])) (fun _ k => XS.aloadN X0.here hx rfl (hb hby d1_0) rfl rfl k) ?_
    obtain ⟨_, T20, L20, X20, ⟨rfl, Nq20, eq20⟩, st20⟩ := own_callVU X0 hx hZ hown (ww hw 30 rfl) (ww hw 31 rfl) (ww hw 32 rfl) (by decide) (ww hw 34 rfl) (ww hw 33 rfl) (ww hw 35 rfl) (ww hw 36 rfl) e0 EA (rm2 l Z a0 hw [] w_ENABLE w_DISABLE w_ASSIGN w_DEASSIGN w_GRANT w_REVOKE w_ACTIVATE w_DEACTIVATE w_ENABLE_CONSTRAINT w_DISABLE_CONSTRAINT hS a1 (9 : Int32) h0 O0 FC) 0 (by decide) (by decide) (by decide) (by decide) (g := (mkF m 1 #[.val (.ref a1)] [(.ref a1)])) rfl (by rw [hml]; rfl) [] [] rfl (lenOf pd_428473 rfl) rfl (by show 2 * 0 + _ ≤ _; exact Nat.le_of_eq rfl) (hb hby d1_1)
    have N20 := Fr.app N0 Nq20
    refine Go.st (S' := T20.setTop (mkF m 4 #[.val (.ref a1)] [(.int (9 : Int32))])) st20 ?_
    refine Go.st (S' := T20.setTop (mkF m 124 #[.val (.ref a1)] [])) (fun _ k => XS.tswIn X20.here hx rfl (pc0 := 4) (pc' := 124) (o := 120) rfl (hb hby d1_4) rfl (by decide) (by decide) (by decide) (by decide) k) ?_
    obtain ⟨T21, X21, e21, st21⟩ := getS2 X20 hx hZ hown (host := "") (Or.inl (ww hw 53 rfl)) Via.refl eq20 (S_ENABLE_CONSTRAINT.ext O0) (g := (mkF m 124 #[.val (.ref a1)] [])) rfl (hb hby d1_124)
    refine Go.st (S' := T21.setTop (mkF m 127 #[.val (.ref a1)] [(.ref w_ENABLE_CONSTRAINT)])) st21 ?_
    exact own_retA X21 hx hlk hret rfl rfl rfl (hb hby d1_127) e21 ⟨rfl, N20, rfl⟩ (by decide) (by decide)
theorem d3_0 : decode prog_27_method_7_code 0 = .ok (.aload_n 0, 1) := by decide +kernel
theorem d3_1 : decode prog_27_method_7_code 1 = .ok (.invokevirtual 57, 3) := by decide +kernel
theorem d3_4 : decode prog_27_method_7_code 4 = .ok (.tableswitch 56 0 9 #[66, 70, 66, 70, 66, 70, 66, 70, 66, 70], 56) := by decide +kernel
theorem d3_70 : decode prog_27_method_7_code 70 = .ok (.iconst 0, 1) := by decide +kernel
theorem d3_71 : decode prog_27_method_7_code 71 = .ok (.goto 4, 3) := by decide +kernel
theorem d3_74 : decode prog_27_method_7_code 74 = .ok (.iconst 1, 1) := by decide +kernel
theorem d3_75 : decode prog_27_method_7_code 75 = .ok (.ireturn, 1) := by decide +kernel
theorem ef_rm3 (m : MethodId) (x0 : Addr) : entryFrame m #[(.ref x0)] 1 = mkF m 0 #[.val (.ref x0)] [] := by first | (simp [entryFrame, mkF, argsToLocals, Value.category]; done) | rfl
set_option maxRecDepth 65536 in
set_option maxHeartbeats 400000000 in
theorem rm3 (l : Launch) (Z : State) (a0 : Array Value) (hw : ∀ d ∈ tables_1, d.before a0 Z = true) (ws : List Jvm.Cond) (w_ENABLE : Addr) (w_DISABLE : Addr) (w_ASSIGN : Addr) (w_DEASSIGN : Addr) (w_GRANT : Addr) (w_REVOKE : Addr) (w_ACTIVATE : Addr) (w_DEACTIVATE : Addr) (w_ENABLE_CONSTRAINT : Addr) (w_DISABLE_CONSTRAINT : Addr) (hS : SF Z w_ENABLE w_DISABLE w_ASSIGN w_DEASSIGN w_GRANT w_REVOKE w_ACTIVATE w_DEACTIVATE w_ENABLE_CONSTRAINT w_DISABLE_CONSTRAINT) (a1 : Addr) (o : Int32) (w : Int32) (hq : (o = 0 ∧ w = 0) ∨ (o = 1 ∧ w = 1) ∨ (o = 2 ∧ w = 0) ∨ (o = 3 ∧ w = 1) ∨ (o = 4 ∧ w = 0) ∨ (o = 5 ∧ w = 1) ∨ (o = 6 ∧ w = 0) ∨ (o = 7 ∧ w = 1) ∨ (o = 8 ∧ w = 0) ∨ (o = 9 ∧ w = 1)) (h0 : Heap) (O0 : Ext Z.heap h0) (EA : Exa Z h0 a1 "com/example/timed_rbac/timedrbac/policy/Action") (FC : Fld Z h0 a1 "java/lang/Enum" "ordinal" "I" (.int o)) :
    Con l Z h0 (⟨"com/example/timed_rbac/timedrbac/policy/Action", "denies", "()Z"⟩ : MethodName) prog_27_method_7_code 1 (some .boolean) ws ({ frames := 1, cells := 0, slots := 0, locals := 12 } : Room) #[(.ref a1)] (fun v h L => v = some (.int w) ∧ Fr Z.heap.size L ∧ h = h0) := by
  obtain ⟨S_ENABLE, E_ENABLE, S_DISABLE, E_DISABLE, S_ASSIGN, E_ASSIGN, S_DEASSIGN, E_DEASSIGN, S_GRANT, E_GRANT, S_REVOKE, E_REVOKE, S_ACTIVATE, E_ACTIVATE, S_DEACTIVATE, E_DEACTIVATE, S_ENABLE_CONSTRAINT, E_ENABLE_CONSTRAINT, S_DISABLE_CONSTRAINT, E_DISABLE_CONSTRAINT, F_ENABLE_ordinal, F_DISABLE_ordinal, F_DEASSIGN_ordinal, F_ASSIGN_ordinal, F_GRANT_ordinal, F_REVOKE_ordinal, F_DEACTIVATE_ordinal, F_ACTIVATE_ordinal, F_ENABLE_CONSTRAINT_ordinal, F_DISABLE_CONSTRAINT_ordinal⟩ := id hS
  refine own_con (plainFor_of_name pn_268111) ?_
  intro p e s m below meth c T0 X0 hx hby hml hown hnm hret hlk hZ e0
  have hown : s.vm.findClass "com/example/timed_rbac/timedrbac/policy/Action" = some m.cls := hown
  have N0 := Fr.nil Z.heap.size
  refine Go.st (S' := T0.setTop (mkF m 0 #[.val (.ref a1)] [])) (fun _ k => castTop (ef_rm3 m a1) k) ?_
  rcases hq with ⟨rfl, rfl⟩ | ⟨rfl, rfl⟩ | ⟨rfl, rfl⟩ | ⟨rfl, rfl⟩ | ⟨rfl, rfl⟩ | ⟨rfl, rfl⟩ | ⟨rfl, rfl⟩ | ⟨rfl, rfl⟩ | ⟨rfl, rfl⟩ | ⟨rfl, rfl⟩
  · refine Go.st (S' := T0.setTop (mkF m 1 #[.val (.ref a1)] [(.ref a1)])) (fun _ k => XS.aloadN X0.here hx rfl (hb hby d3_0) rfl rfl k) ?_
    obtain ⟨_, T22, L22, X22, ⟨rfl, Nq22, eq22⟩, st22⟩ := own_callVU X0 hx hZ hown (ww hw 30 rfl) (ww hw 31 rfl) (ww hw 32 rfl) (by decide) (ww hw 34 rfl) (ww hw 33 rfl) (ww hw 35 rfl) (ww hw 36 rfl) e0 EA (rm2 l Z a0 hw [] w_ENABLE w_DISABLE w_ASSIGN w_DEASSIGN w_GRANT w_REVOKE w_ACTIVATE w_DEACTIVATE w_ENABLE_CONSTRAINT w_DISABLE_CONSTRAINT hS a1 (0 : Int32) h0 O0 FC) 0 (by decide) (by decide) (by decide) (by decide) (g := (mkF m 1 #[.val (.ref a1)] [(.ref a1)])) rfl (by rw [hml]; rfl) [] [] rfl (lenOf pd_428473 rfl) rfl (by show 2 * 0 + _ ≤ _; exact Nat.le_of_eq rfl) (hb hby d3_1)
    have N22 := Fr.app N0 Nq22
    refine Go.st (S' := T22.setTop (mkF m 4 #[.val (.ref a1)] [(.int (0 : Int32))])) st22 ?_
    refine Go.st (S' := T22.setTop (mkF m 70 #[.val (.ref a1)] [])) (fun _ k => XS.tswIn X22.here hx rfl (pc0 := 4) (pc' := 70) (o := 66) rfl (hb hby d3_4) rfl (by decide) (by decide) (by decide) (by decide) k) ?_
    refine Go.st (S' := T22.setTop (mkF m 71 #[.val (.ref a1)] [(.int (0 : Int32))])) (fun _ k => XS.iconst X22.here hx rfl (hb hby d3_70) k) ?_
    refine Go.st (S' := T22.setTop (mkF m 75 #[.val (.ref a1)] [(.int (0 : Int32))])) (fun _ k => XS.goto X22.here hx rfl (pc0 := 71) (pc' := 75) rfl (hb hby d3_71) (by decide) (by decide) k) ?_
    exact own_retN X22 hx hlk hret (by simp) (hb hby d3_75) eq22 ⟨rfl, N22, rfl⟩ (by decide) (by decide)
  · refine Go.st (S' := T0.setTop (mkF m 1 #[.val (.ref a1)] [(.ref a1)])) (fun _ k => XS.aloadN X0.here hx rfl (hb hby d3_0) rfl rfl k) ?_
    obtain ⟨_, T23, L23, X23, ⟨rfl, Nq23, eq23⟩, st23⟩ := own_callVU X0 hx hZ hown (ww hw 30 rfl) (ww hw 31 rfl) (ww hw 32 rfl) (by decide) (ww hw 34 rfl) (ww hw 33 rfl) (ww hw 35 rfl) (ww hw 36 rfl) e0 EA (rm2 l Z a0 hw [] w_ENABLE w_DISABLE w_ASSIGN w_DEASSIGN w_GRANT w_REVOKE w_ACTIVATE w_DEACTIVATE w_ENABLE_CONSTRAINT w_DISABLE_CONSTRAINT hS a1 (1 : Int32) h0 O0 FC) 0 (by decide) (by decide) (by decide) (by decide) (g := (mkF m 1 #[.val (.ref a1)] [(.ref a1)])) rfl (by rw [hml]; rfl) [] [] rfl (lenOf pd_428473 rfl) rfl (by show 2 * 0 + _ ≤ _; exact Nat.le_of_eq rfl) (hb hby d3_1)
    have N23 := Fr.app N0 Nq23
    refine Go.st (S' := T23.setTop (mkF m 4 #[.val (.ref a1)] [(.int (1 : Int32))])) st23 ?_
    refine Go.st (S' := T23.setTop (mkF m 74 #[.val (.ref a1)] [])) (fun _ k => XS.tswIn X23.here hx rfl (pc0 := 4) (pc' := 74) (o := 70) rfl (hb hby d3_4) rfl (by decide) (by decide) (by decide) (by decide) k) ?_
    refine Go.st (S' := T23.setTop (mkF m 75 #[.val (.ref a1)] [(.int (1 : Int32))])) (fun _ k => XS.iconst X23.here hx rfl (hb hby d3_74) k) ?_
    exact own_retN X23 hx hlk hret (by simp) (hb hby d3_75) eq23 ⟨rfl, N23, rfl⟩ (by decide) (by decide)
  · refine Go.st (S' := T0.setTop (mkF m 1 #[.val (.ref a1)] [(.ref a1)])) (fun _ k => XS.aloadN X0.here hx rfl (hb hby d3_0) rfl rfl k) ?_
    obtain ⟨_, T24, L24, X24, ⟨rfl, Nq24, eq24⟩, st24⟩ := own_callVU X0 hx hZ hown (ww hw 30 rfl) (ww hw 31 rfl) (ww hw 32 rfl) (by decide) (ww hw 34 rfl) (ww hw 33 rfl) (ww hw 35 rfl) (ww hw 36 rfl) e0 EA (rm2 l Z a0 hw [] w_ENABLE w_DISABLE w_ASSIGN w_DEASSIGN w_GRANT w_REVOKE w_ACTIVATE w_DEACTIVATE w_ENABLE_CONSTRAINT w_DISABLE_CONSTRAINT hS a1 (2 : Int32) h0 O0 FC) 0 (by decide) (by decide) (by decide) (by decide) (g := (mkF m 1 #[.val (.ref a1)] [(.ref a1)])) rfl (by rw [hml]; rfl) [] [] rfl (lenOf pd_428473 rfl) rfl (by show 2 * 0 + _ ≤ _; exact Nat.le_of_eq rfl) (hb hby d3_1)
    have N24 := Fr.app N0 Nq24
    refine Go.st (S' := T24.setTop (mkF m 4 #[.val (.ref a1)] [(.int (2 : Int32))])) st24 ?_
    refine Go.st (S' := T24.setTop (mkF m 70 #[.val (.ref a1)] [])) (fun _ k => XS.tswIn X24.here hx rfl (pc0 := 4) (pc' := 70) (o := 66) rfl (hb hby d3_4) rfl (by decide) (by decide) (by decide) (by decide) k) ?_
    refine Go.st (S' := T24.setTop (mkF m 71 #[.val (.ref a1)] [(.int (0 : Int32))])) (fun _ k => XS.iconst X24.here hx rfl (hb hby d3_70) k) ?_
    refine Go.st (S' := T24.setTop (mkF m 75 #[.val (.ref a1)] [(.int (0 : Int32))])) (fun _ k => XS.goto X24.here hx rfl (pc0 := 71) (pc' := 75) rfl (hb hby d3_71) (by decide) (by decide) k) ?_
    exact own_retN X24 hx hlk hret (by simp) (hb hby d3_75) eq24 ⟨rfl, N24, rfl⟩ (by decide) (by decide)
  · refine Go.st (S' := T0.setTop (mkF m 1 #[.val (.ref a1)] [(.ref a1)])) (fun _ k => XS.aloadN X0.here hx rfl (hb hby d3_0) rfl rfl k) ?_
    obtain ⟨_, T25, L25, X25, ⟨rfl, Nq25, eq25⟩, st25⟩ := own_callVU X0 hx hZ hown (ww hw 30 rfl) (ww hw 31 rfl) (ww hw 32 rfl) (by decide) (ww hw 34 rfl) (ww hw 33 rfl) (ww hw 35 rfl) (ww hw 36 rfl) e0 EA (rm2 l Z a0 hw [] w_ENABLE w_DISABLE w_ASSIGN w_DEASSIGN w_GRANT w_REVOKE w_ACTIVATE w_DEACTIVATE w_ENABLE_CONSTRAINT w_DISABLE_CONSTRAINT hS a1 (3 : Int32) h0 O0 FC) 0 (by decide) (by decide) (by decide) (by decide) (g := (mkF m 1 #[.val (.ref a1)] [(.ref a1)])) rfl (by rw [hml]; rfl) [] [] rfl (lenOf pd_428473 rfl) rfl (by show 2 * 0 + _ ≤ _; exact Nat.le_of_eq rfl) (hb hby d3_1)
    have N25 := Fr.app N0 Nq25
    refine Go.st (S' := T25.setTop (mkF m 4 #[.val (.ref a1)] [(.int (3 : Int32))])) st25 ?_
    refine Go.st (S' := T25.setTop (mkF m 74 #[.val (.ref a1)] [])) (fun _ k => XS.tswIn X25.here hx rfl (pc0 := 4) (pc' := 74) (o := 70) rfl (hb hby d3_4) rfl (by decide) (by decide) (by decide) (by decide) k) ?_
    refine Go.st (S' := T25.setTop (mkF m 75 #[.val (.ref a1)] [(.int (1 : Int32))])) (fun _ k => XS.iconst X25.here hx rfl (hb hby d3_74) k) ?_
    exact own_retN X25 hx hlk hret (by simp) (hb hby d3_75) eq25 ⟨rfl, N25, rfl⟩ (by decide) (by decide)
  · refine Go.st (S' := T0.setTop (mkF m 1 #[.val (.ref a1)] [(.ref a1)])) (fun _ k => XS.aloadN X0.here hx rfl (hb hby d3_0) rfl rfl k) ?_
    obtain ⟨_, T26, L26, X26, ⟨rfl, Nq26, eq26⟩, st26⟩ := own_callVU X0 hx hZ hown (ww hw 30 rfl) (ww hw 31 rfl) (ww hw 32 rfl) (by decide) (ww hw 34 rfl) (ww hw 33 rfl) (ww hw 35 rfl) (ww hw 36 rfl) e0 EA (rm2 l Z a0 hw [] w_ENABLE w_DISABLE w_ASSIGN w_DEASSIGN w_GRANT w_REVOKE w_ACTIVATE w_DEACTIVATE w_ENABLE_CONSTRAINT w_DISABLE_CONSTRAINT hS a1 (4 : Int32) h0 O0 FC) 0 (by decide) (by decide) (by decide) (by decide) (g := (mkF m 1 #[.val (.ref a1)] [(.ref a1)])) rfl (by rw [hml]; rfl) [] [] rfl (lenOf pd_428473 rfl) rfl (by show 2 * 0 + _ ≤ _; exact Nat.le_of_eq rfl) (hb hby d3_1)
    have N26 := Fr.app N0 Nq26
    refine Go.st (S' := T26.setTop (mkF m 4 #[.val (.ref a1)] [(.int (4 : Int32))])) st26 ?_
    refine Go.st (S' := T26.setTop (mkF m 70 #[.val (.ref a1)] [])) (fun _ k => XS.tswIn X26.here hx rfl (pc0 := 4) (pc' := 70) (o := 66) rfl (hb hby d3_4) rfl (by decide) (by decide) (by decide) (by decide) k) ?_
    refine Go.st (S' := T26.setTop (mkF m 71 #[.val (.ref a1)] [(.int (0 : Int32))])) (fun _ k => XS.iconst X26.here hx rfl (hb hby d3_70) k) ?_
    refine Go.st (S' := T26.setTop (mkF m 75 #[.val (.ref a1)] [(.int (0 : Int32))])) (fun _ k => XS.goto X26.here hx rfl (pc0 := 71) (pc' := 75) rfl (hb hby d3_71) (by decide) (by decide) k) ?_
    exact own_retN X26 hx hlk hret (by simp) (hb hby d3_75) eq26 ⟨rfl, N26, rfl⟩ (by decide) (by decide)
  · refine Go.st (S' := T0.setTop (mkF m 1 #[.val (.ref a1)] [(.ref a1)])) (fun _ k => XS.aloadN X0.here hx rfl (hb hby d3_0) rfl rfl k) ?_
    obtain ⟨_, T27, L27, X27, ⟨rfl, Nq27, eq27⟩, st27⟩ := own_callVU X0 hx hZ hown (ww hw 30 rfl) (ww hw 31 rfl) (ww hw 32 rfl) (by decide) (ww hw 34 rfl) (ww hw 33 rfl) (ww hw 35 rfl) (ww hw 36 rfl) e0 EA (rm2 l Z a0 hw [] w_ENABLE w_DISABLE w_ASSIGN w_DEASSIGN w_GRANT w_REVOKE w_ACTIVATE w_DEACTIVATE w_ENABLE_CONSTRAINT w_DISABLE_CONSTRAINT hS a1 (5 : Int32) h0 O0 FC) 0 (by decide) (by decide) (by decide) (by decide) (g := (mkF m 1 #[.val (.ref a1)] [(.ref a1)])) rfl (by rw [hml]; rfl) [] [] rfl (lenOf pd_428473 rfl) rfl (by show 2 * 0 + _ ≤ _; exact Nat.le_of_eq rfl) (hb hby d3_1)
    have N27 := Fr.app N0 Nq27
    refine Go.st (S' := T27.setTop (mkF m 4 #[.val (.ref a1)] [(.int (5 : Int32))])) st27 ?_
    refine Go.st (S' := T27.setTop (mkF m 74 #[.val (.ref a1)] [])) (fun _ k => XS.tswIn X27.here hx rfl (pc0 := 4) (pc' := 74) (o := 70) rfl (hb hby d3_4) rfl (by decide) (by decide) (by decide) (by decide) k) ?_
    refine Go.st (S' := T27.setTop (mkF m 75 #[.val (.ref a1)] [(.int (1 : Int32))])) (fun _ k => XS.iconst X27.here hx rfl (hb hby d3_74) k) ?_
    exact own_retN X27 hx hlk hret (by simp) (hb hby d3_75) eq27 ⟨rfl, N27, rfl⟩ (by decide) (by decide)
  · refine Go.st (S' := T0.setTop (mkF m 1 #[.val (.ref a1)] [(.ref a1)])) (fun _ k => XS.aloadN X0.here hx rfl (hb hby d3_0) rfl rfl k) ?_
    obtain ⟨_, T28, L28, X28, ⟨rfl, Nq28, eq28⟩, st28⟩ := own_callVU X0 hx hZ hown (ww hw 30 rfl) (ww hw 31 rfl) (ww hw 32 rfl) (by decide) (ww hw 34 rfl) (ww hw 33 rfl) (ww hw 35 rfl) (ww hw 36 rfl) e0 EA (rm2 l Z a0 hw [] w_ENABLE w_DISABLE w_ASSIGN w_DEASSIGN w_GRANT w_REVOKE w_ACTIVATE w_DEACTIVATE w_ENABLE_CONSTRAINT w_DISABLE_CONSTRAINT hS a1 (6 : Int32) h0 O0 FC) 0 (by decide) (by decide) (by decide) (by decide) (g := (mkF m 1 #[.val (.ref a1)] [(.ref a1)])) rfl (by rw [hml]; rfl) [] [] rfl (lenOf pd_428473 rfl) rfl (by show 2 * 0 + _ ≤ _; exact Nat.le_of_eq rfl) (hb hby d3_1)
    have N28 := Fr.app N0 Nq28
    refine Go.st (S' := T28.setTop (mkF m 4 #[.val (.ref a1)] [(.int (6 : Int32))])) st28 ?_
    refine Go.st (S' := T28.setTop (mkF m 70 #[.val (.ref a1)] [])) (fun _ k => XS.tswIn X28.here hx rfl (pc0 := 4) (pc' := 70) (o := 66) rfl (hb hby d3_4) rfl (by decide) (by decide) (by decide) (by decide) k) ?_
    refine Go.st (S' := T28.setTop (mkF m 71 #[.val (.ref a1)] [(.int (0 : Int32))])) (fun _ k => XS.iconst X28.here hx rfl (hb hby d3_70) k) ?_
    refine Go.st (S' := T28.setTop (mkF m 75 #[.val (.ref a1)] [(.int (0 : Int32))])) (fun _ k => XS.goto X28.here hx rfl (pc0 := 71) (pc' := 75) rfl (hb hby d3_71) (by decide) (by decide) k) ?_
    exact own_retN X28 hx hlk hret (by simp) (hb hby d3_75) eq28 ⟨rfl, N28, rfl⟩ (by decide) (by decide)
  · refine Go.st (S' := T0.setTop (mkF m 1 #[.val (.ref a1)] [(.ref a1)])) (fun _ k => XS.aloadN X0.here hx rfl (hb hby d3_0) rfl rfl k) ?_
    obtain ⟨_, T29, L29, X29, ⟨rfl, Nq29, eq29⟩, st29⟩ := own_callVU X0 hx hZ hown (ww hw 30 rfl) (ww hw 31 rfl) (ww hw 32 rfl) (by decide) (ww hw 34 rfl) (ww hw 33 rfl) (ww hw 35 rfl) (ww hw 36 rfl) e0 EA (rm2 l Z a0 hw [] w_ENABLE w_DISABLE w_ASSIGN w_DEASSIGN w_GRANT w_REVOKE w_ACTIVATE w_DEACTIVATE w_ENABLE_CONSTRAINT w_DISABLE_CONSTRAINT hS a1 (7 : Int32) h0 O0 FC) 0 (by decide) (by decide) (by decide) (by decide) (g := (mkF m 1 #[.val (.ref a1)] [(.ref a1)])) rfl (by rw [hml]; rfl) [] [] rfl (lenOf pd_428473 rfl) rfl (by show 2 * 0 + _ ≤ _; exact Nat.le_of_eq rfl) (hb hby d3_1)
    have N29 := Fr.app N0 Nq29
    refine Go.st (S' := T29.setTop (mkF m 4 #[.val (.ref a1)] [(.int (7 : Int32))])) st29 ?_
    refine Go.st (S' := T29.setTop (mkF m 74 #[.val (.ref a1)] [])) (fun _ k => XS.tswIn X29.here hx rfl (pc0 := 4) (pc' := 74) (o := 70) rfl (hb hby d3_4) rfl (by decide) (by decide) (by decide) (by decide) k) ?_
    refine Go.st (S' := T29.setTop (mkF m 75 #[.val (.ref a1)] [(.int (1 : Int32))])) (fun _ k => XS.iconst X29.here hx rfl (hb hby d3_74) k) ?_
    exact own_retN X29 hx hlk hret (by simp) (hb hby d3_75) eq29 ⟨rfl, N29, rfl⟩ (by decide) (by decide)
  · refine Go.st (S' := T0.setTop (mkF m 1 #[.val (.ref a1)] [(.ref a1)])) (fun _ k => XS.aloadN X0.here hx rfl (hb hby d3_0) rfl rfl k) ?_
    obtain ⟨_, T30, L30, X30, ⟨rfl, Nq30, eq30⟩, st30⟩ := own_callVU X0 hx hZ hown (ww hw 30 rfl) (ww hw 31 rfl) (ww hw 32 rfl) (by decide) (ww hw 34 rfl) (ww hw 33 rfl) (ww hw 35 rfl) (ww hw 36 rfl) e0 EA (rm2 l Z a0 hw [] w_ENABLE w_DISABLE w_ASSIGN w_DEASSIGN w_GRANT w_REVOKE w_ACTIVATE w_DEACTIVATE w_ENABLE_CONSTRAINT w_DISABLE_CONSTRAINT hS a1 (8 : Int32) h0 O0 FC) 0 (by decide) (by decide) (by decide) (by decide) (g := (mkF m 1 #[.val (.ref a1)] [(.ref a1)])) rfl (by rw [hml]; rfl) [] [] rfl (lenOf pd_428473 rfl) rfl (by show 2 * 0 + _ ≤ _; exact Nat.le_of_eq rfl) (hb hby d3_1)
    have N30 := Fr.app N0 Nq30
    refine Go.st (S' := T30.setTop (mkF m 4 #[.val (.ref a1)] [(.int (8 : Int32))])) st30 ?_
    refine Go.st (S' := T30.setTop (mkF m 70 #[.val (.ref a1)] [])) (fun _ k => XS.tswIn X30.here hx rfl (pc0 := 4) (pc' := 70) (o := 66) rfl (hb hby d3_4) rfl (by decide) (by decide) (by decide) (by decide) k) ?_
    refine Go.st (S' := T30.setTop (mkF m 71 #[.val (.ref a1)] [(.int (0 : Int32))])) (fun _ k => XS.iconst X30.here hx rfl (hb hby d3_70) k) ?_
    refine Go.st (S' := T30.setTop (mkF m 75 #[.val (.ref a1)] [(.int (0 : Int32))])) (fun _ k => XS.goto X30.here hx rfl (pc0 := 71) (pc' := 75) rfl (hb hby d3_71) (by decide) (by decide) k) ?_
    exact own_retN X30 hx hlk hret (by simp) (hb hby d3_75) eq30 ⟨rfl, N30, rfl⟩ (by decide) (by decide)
  · refine Go.st (S' := T0.setTop (mkF m 1 #[.val (.ref a1)] [(.ref a1)])) (fun _ k => XS.aloadN X0.here hx rfl (hb hby d3_0) rfl rfl k) ?_
    obtain ⟨_, T31, L31, X31, ⟨rfl, Nq31, eq31⟩, st31⟩ := own_callVU X0 hx hZ hown (ww hw 30 rfl) (ww hw 31 rfl) (ww hw 32 rfl) (by decide) (ww hw 34 rfl) (ww hw 33 rfl) (ww hw 35 rfl) (ww hw 36 rfl) e0 EA (rm2 l Z a0 hw [] w_ENABLE w_DISABLE w_ASSIGN w_DEASSIGN w_GRANT w_REVOKE w_ACTIVATE w_DEACTIVATE w_ENABLE_CONSTRAINT w_DISABLE_CONSTRAINT hS a1 (9 : Int32) h0 O0 FC) 0 (by decide) (by decide) (by decide) (by decide) (g := (mkF m 1 #[.val (.ref a1)] [(.ref a1)])) rfl (by rw [hml]; rfl) [] [] rfl (lenOf pd_428473 rfl) rfl (by show 2 * 0 + _ ≤ _; exact Nat.le_of_eq rfl) (hb hby d3_1)
    have N31 := Fr.app N0 Nq31
    refine Go.st (S' := T31.setTop (mkF m 4 #[.val (.ref a1)] [(.int (9 : Int32))])) st31 ?_
    refine Go.st (S' := T31.setTop (mkF m 74 #[.val (.ref a1)] [])) (fun _ k => XS.tswIn X31.here hx rfl (pc0 := 4) (pc' := 74) (o := 70) rfl (hb hby d3_4) rfl (by decide) (by decide) (by decide) (by decide) k) ?_
    refine Go.st (S' := T31.setTop (mkF m 75 #[.val (.ref a1)] [(.int (1 : Int32))])) (fun _ k => XS.iconst X31.here hx rfl (hb hby d3_74) k) ?_
    exact own_retN X31 hx hlk hret (by simp) (hb hby d3_75) eq31 ⟨rfl, N31, rfl⟩ (by decide) (by decide)
theorem pd_28917 : parseMethodDescriptor "()Lcom/example/timed_rbac/timedrbac/policy/Action;" = some ⟨[], some (.object "com/example/timed_rbac/timedrbac/policy/Action")⟩ := by decide +kernel
theorem pd_428490 : parseMethodDescriptor "()Z" = some ⟨[], some .boolean⟩ := by decide +kernel
theorem pn_891277 : plainName "com/example/timed_rbac/timedrbac/policy/ActionOppositePinLaw" = true := by first | (simp [plainName, overriddenIn]; done) | decide +kernel
theorem ef_rm0 (m : MethodId) (x0 : Int32) : entryFrame m #[(.int x0)] maxLocals = mkF m 0 #[.val (.int x0), .unset, .unset, .unset, .unset, .unset] [] := by first | (simp [entryFrame, mkF, argsToLocals, Value.category, maxLocals]; done) | rfl
set_option maxRecDepth 65536 in
set_option maxHeartbeats 400000000 in
theorem rm0 (l : Launch) (Z : State) (a0 : Array Value) (hw : ∀ d ∈ tables_1, d.before a0 Z = true) (ws : List Jvm.Cond) (w_ENABLE : Addr) (w_DISABLE : Addr) (w_ASSIGN : Addr) (w_DEASSIGN : Addr) (w_GRANT : Addr) (w_REVOKE : Addr) (w_ACTIVATE : Addr) (w_DEACTIVATE : Addr) (w_ENABLE_CONSTRAINT : Addr) (w_DISABLE_CONSTRAINT : Addr) (hS : SF Z w_ENABLE w_DISABLE w_ASSIGN w_DEASSIGN w_GRANT w_REVOKE w_ACTIVATE w_DEACTIVATE w_ENABLE_CONSTRAINT w_DISABLE_CONSTRAINT) (p1 : Int32) (h0 : Heap) (O0 : Ext Z.heap h0)  :
    Con l Z h0 x code maxLocals ret ws room_1 #[(.int p1)] (fun v h L => v = some (.int 1) ∧ Fr Z.heap.size L) := by
  obtain ⟨S_ENABLE, E_ENABLE, S_DISABLE, E_DISABLE, S_ASSIGN, E_ASSIGN, S_DEASSIGN, E_DEASSIGN, S_GRANT, E_GRANT, S_REVOKE, E_REVOKE, S_ACTIVATE, E_ACTIVATE, S_DEACTIVATE, E_DEACTIVATE, S_ENABLE_CONSTRAINT, E_ENABLE_CONSTRAINT, S_DISABLE_CONSTRAINT, E_DISABLE_CONSTRAINT, F_ENABLE_ordinal, F_DISABLE_ordinal, F_DEASSIGN_ordinal, F_ASSIGN_ordinal, F_GRANT_ordinal, F_REVOKE_ordinal, F_DEACTIVATE_ordinal, F_ACTIVATE_ordinal, F_ENABLE_CONSTRAINT_ordinal, F_DISABLE_CONSTRAINT_ordinal⟩ := id hS
  refine own_con (plainFor_of_name pn_891277) ?_
  intro p e s m below meth c T0 X0 hx hby hml hown hnm hret hlk hZ e0
  have hown : s.vm.findClass "com/example/timed_rbac/timedrbac/policy/ActionOppositePinLaw" = some m.cls := hown
  have N0 := Fr.nil Z.heap.size
  refine Go.st (S' := T0.setTop (mkF m 0 #[.val (.int p1), .unset, .unset, .unset, .unset, .unset] [])) (fun _ k => castTop (ef_rm0 m p1) k) ?_
  refine Go.st (S' := T0.setTop (mkF m 2 #[.val (.int p1), .unset, .unset, .unset, .unset, .unset] [(.int (10 : Int32))])) (fun _ k => XS.bipush X0.here hx rfl (hb hby at_0) k) ?_
  obtain ⟨T32, h32, k32, X32, e32, E32, A32, Ov32, st32⟩ := newR X0 hx hZ hown (ww hw 0 rfl) (ww hw 1 rfl) e0 (g := (mkF m 2 #[.val (.int p1), .unset, .unset, .unset, .unset, .unset] [(.int (10 : Int32))])) rfl (hb hby at_2) rfl (by decide) (cap := 10) (by decide) (by decide) (by decide) (by decide)
  obtain ⟨b32, g32⟩ : ∃ z, z = h0.size := ⟨_, rfl⟩
  rw [← g32] at A32 st32
  have gz32 : Z.heap.size ≤ b32 := Nat.le_trans O0.1 (Nat.le_of_eq g32.symm)
  have O32 : Ext Z.heap h32 := own_Ext.trans O0 E32
  have V32 : Arv Z h32 b32 k32 (.object "com/example/timed_rbac/timedrbac/policy/Action") (10 : Int32) [.null, .null, .null, .null, .null, .null, .null, .null, .null, .null] .null := (Arv.new A32 (by decide)).pad (pad_rep [] .null 10)
  refine Go.st (S' := T32.setTop (mkF m 5 #[.val (.int p1), .unset, .unset, .unset, .unset, .unset] [(.ref b32)])) st32 ?_
  refine Go.st (S' := T32.setTop (mkF m 6 #[.val (.int p1), .unset, .unset, .unset, .unset, .unset] [(.ref b32), (.ref b32)])) (fun _ k => XS.dup X32.here hx rfl (hb hby at_5) rfl rfl k) ?_
  refine Go.st (S' := T32.setTop (mkF m 7 #[.val (.int p1), .unset, .unset, .unset, .unset, .unset] [(.int (0 : Int32)), (.ref b32), (.ref b32)])) (fun _ k => XS.iconst X32.here hx rfl (hb hby at_6) k) ?_
  obtain ⟨T33, X33, e33, st33⟩ := getS2 X32 hx hZ hown (host := "") (Or.inl (ww hw 2 rfl)) Via.refl e32 (S_ENABLE.ext O32) (g := (mkF m 7 #[.val (.int p1), .unset, .unset, .unset, .unset, .unset] [(.int (0 : Int32)), (.ref b32), (.ref b32)])) rfl (hb hby at_7)
  refine Go.st (S' := T33.setTop (mkF m 10 #[.val (.int p1), .unset, .unset, .unset, .unset, .unset] [(.ref w_ENABLE), (.int (0 : Int32)), (.ref b32), (.ref b32)])) st33 ?_
  obtain ⟨T34, h34, X34, e34, W34, V34, st34⟩ := own_stR X33 hx hZ e33 V32 Ov32 (Ins.self (E_ENABLE.ext O32)) (j := (0 : Int32)) ⟨by decide, by decide⟩ 0 rfl (Nat.le_of_ble_eq_true rfl) (g := (mkF m 10 #[.val (.int p1), .unset, .unset, .unset, .unset, .unset] [(.ref w_ENABLE), (.int (0 : Int32)), (.ref b32), (.ref b32)])) rfl rfl (hb hby at_10)
  have N34 := Fr.snoc X34 N0 gz32
  have V34 : Arv Z h34 b32 k32 (.object "com/example/timed_rbac/timedrbac/policy/Action") (10 : Int32) [(.ref w_ENABLE), .null, .null, .null, .null, .null, .null, .null, .null, .null] .null := V34
  have O34 : Ext Z.heap h34 := own_Ext.wr O32 W34 gz32
  refine Go.st (S' := T34.setTop (mkF m 11 #[.val (.int p1), .unset, .unset, .unset, .unset, .unset] [(.ref b32)])) st34 ?_
  refine Go.st (S' := T34.setTop (mkF m 12 #[.val (.int p1), .unset, .unset, .unset, .unset, .unset] [(.ref b32), (.ref b32)])) (fun _ k => XS.dup X34.here hx rfl (hb hby at_11) rfl rfl k) ?_
  refine Go.st (S' := T34.setTop (mkF m 13 #[.val (.int p1), .unset, .unset, .unset, .unset, .unset] [(.int (1 : Int32)), (.ref b32), (.ref b32)])) (fun _ k => XS.iconst X34.here hx rfl (hb hby at_12) k) ?_
  obtain ⟨T35, X35, e35, st35⟩ := getS2 X34 hx hZ hown (host := "") (Or.inl (ww hw 6 rfl)) Via.refl e34 (S_DISABLE.ext O34) (g := (mkF m 13 #[.val (.int p1), .unset, .unset, .unset, .unset, .unset] [(.int (1 : Int32)), (.ref b32), (.ref b32)])) rfl (hb hby at_13)
  refine Go.st (S' := T35.setTop (mkF m 16 #[.val (.int p1), .unset, .unset, .unset, .unset, .unset] [(.ref w_DISABLE), (.int (1 : Int32)), (.ref b32), (.ref b32)])) st35 ?_
  obtain ⟨T36, h36, X36, e36, W36, V36, st36⟩ := own_stR X35 hx hZ e35 V34 Ov32 (Ins.self (E_DISABLE.ext O34)) (j := (1 : Int32)) ⟨by decide, by decide⟩ 1 rfl (Nat.le_of_ble_eq_true rfl) (g := (mkF m 16 #[.val (.int p1), .unset, .unset, .unset, .unset, .unset] [(.ref w_DISABLE), (.int (1 : Int32)), (.ref b32), (.ref b32)])) rfl rfl (hb hby at_16)
  have N36 := Fr.snoc X36 N34 gz32
  have V36 : Arv Z h36 b32 k32 (.object "com/example/timed_rbac/timedrbac/policy/Action") (10 : Int32) [(.ref w_ENABLE), (.ref w_DISABLE), .null, .null, .null, .null, .null, .null, .null, .null] .null := V36
  have O36 : Ext Z.heap h36 := own_Ext.wr O34 W36 gz32
  refine Go.st (S' := T36.setTop (mkF m 17 #[.val (.int p1), .unset, .unset, .unset, .unset, .unset] [(.ref b32)])) st36 ?_
  refine Go.st (S' := T36.setTop (mkF m 18 #[.val (.int p1), .unset, .unset, .unset, .unset, .unset] [(.ref b32), (.ref b32)])) (fun _ k => XS.dup X36.here hx rfl (hb hby at_17) rfl rfl k) ?_
  refine Go.st (S' := T36.setTop (mkF m 19 #[.val (.int p1), .unset, .unset, .unset, .unset, .unset] [(.int (2 : Int32)), (.ref b32), (.ref b32)])) (fun _ k => XS.iconst X36.here hx rfl (hb hby at_18) k) ?_
  obtain ⟨T37, X37, e37, st37⟩ := getS2 X36 hx hZ hown (host := "") (Or.inl (ww hw 8 rfl)) Via.refl e36 (S_ASSIGN.ext O36) (g := (mkF m 19 #[.val (.int p1), .unset, .unset, .unset, .unset, .unset] [(.int (2 : Int32)), (.ref b32), (.ref b32)])) rfl (hb hby at_19)
  refine Go.st (S' := T37.setTop (mkF m 22 #[.val (.int p1), .unset, .unset, .unset, .unset, .unset] [(.ref w_ASSIGN), (.int (2 : Int32)), (.ref b32), (.ref b32)])) st37 ?_
  obtain ⟨T38, h38, X38, e38, W38, V38, st38⟩ := own_stR X37 hx hZ e37 V36 Ov32 (Ins.self (E_ASSIGN.ext O36)) (j := (2 : Int32)) ⟨by decide, by decide⟩ 2 rfl (Nat.le_of_ble_eq_true rfl) (g := (mkF m 22 #[.val (.int p1), .unset, .unset, .unset, .unset, .unset] [(.ref w_ASSIGN), (.int (2 : Int32)), (.ref b32), (.ref b32)])) rfl rfl (hb hby at_22)
  have N38 := Fr.snoc X38 N36 gz32
  have V38 : Arv Z h38 b32 k32 (.object "com/example/timed_rbac/timedrbac/policy/Action") (10 : Int32) [(.ref w_ENABLE), (.ref w_DISABLE), (.ref w_ASSIGN), .null, .null, .null, .null, .null, .null, .null] .null := V38
  have O38 : Ext Z.heap h38 := own_Ext.wr O36 W38 gz32
  refine Go.st (S' := T38.setTop (mkF m 23 #[.val (.int p1), .unset, .unset, .unset, .unset, .unset] [(.ref b32)])) st38 ?_
  refine Go.st (S' := T38.setTop (mkF m 24 #[.val (.int p1), .unset, .unset, .unset, .unset, .unset] [(.ref b32), (.ref b32)])) (fun _ k => XS.dup X38.here hx rfl (hb hby at_23) rfl rfl k) ?_
  refine Go.st (S' := T38.setTop (mkF m 25 #[.val (.int p1), .unset, .unset, .unset, .unset, .unset] [(.int (3 : Int32)), (.ref b32), (.ref b32)])) (fun _ k => XS.iconst X38.here hx rfl (hb hby at_24) k) ?_
  obtain ⟨T39, X39, e39, st39⟩ := getS2 X38 hx hZ hown (host := "") (Or.inl (ww hw 10 rfl)) Via.refl e38 (S_DEASSIGN.ext O38) (g := (mkF m 25 #[.val (.int p1), .unset, .unset, .unset, .unset, .unset] [(.int (3 : Int32)), (.ref b32), (.ref b32)])) rfl (hb hby at_25)
  refine Go.st (S' := T39.setTop (mkF m 28 #[.val (.int p1), .unset, .unset, .unset, .unset, .unset] [(.ref w_DEASSIGN), (.int (3 : Int32)), (.ref b32), (.ref b32)])) st39 ?_
  obtain ⟨T40, h40, X40, e40, W40, V40, st40⟩ := own_stR X39 hx hZ e39 V38 Ov32 (Ins.self (E_DEASSIGN.ext O38)) (j := (3 : Int32)) ⟨by decide, by decide⟩ 3 rfl (Nat.le_of_ble_eq_true rfl) (g := (mkF m 28 #[.val (.int p1), .unset, .unset, .unset, .unset, .unset] [(.ref w_DEASSIGN), (.int (3 : Int32)), (.ref b32), (.ref b32)])) rfl rfl (hb hby at_28)
  have N40 := Fr.snoc X40 N38 gz32
  have V40 : Arv Z h40 b32 k32 (.object "com/example/timed_rbac/timedrbac/policy/Action") (10 : Int32) [(.ref w_ENABLE), (.ref w_DISABLE), (.ref w_ASSIGN), (.ref w_DEASSIGN), .null, .null, .null, .null, .null, .null] .null := V40
  have O40 : Ext Z.heap h40 := own_Ext.wr O38 W40 gz32
  refine Go.st (S' := T40.setTop (mkF m 29 #[.val (.int p1), .unset, .unset, .unset, .unset, .unset] [(.ref b32)])) st40 ?_
  refine Go.st (S' := T40.setTop (mkF m 30 #[.val (.int p1), .unset, .unset, .unset, .unset, .unset] [(.ref b32), (.ref b32)])) (fun _ k => XS.dup X40.here hx rfl (hb hby at_29) rfl rfl k) ?_
  refine Go.st (S' := T40.setTop (mkF m 31 #[.val (.int p1), .unset, .unset, .unset, .unset, .unset] [(.int (4 : Int32)), (.ref b32), (.ref b32)])) (fun _ k => XS.iconst X40.here hx rfl (hb hby at_30) k) ?_
  obtain ⟨T41, X41, e41, st41⟩ := getS2 X40 hx hZ hown (host := "") (Or.inl (ww hw 12 rfl)) Via.refl e40 (S_GRANT.ext O40) (g := (mkF m 31 #[.val (.int p1), .unset, .unset, .unset, .unset, .unset] [(.int (4 : Int32)), (.ref b32), (.ref b32)])) rfl (hb hby at_31)
  refine Go.st (S' := T41.setTop (mkF m 34 #[.val (.int p1), .unset, .unset, .unset, .unset, .unset] [(.ref w_GRANT), (.int (4 : Int32)), (.ref b32), (.ref b32)])) st41 ?_
  obtain ⟨T42, h42, X42, e42, W42, V42, st42⟩ := own_stR X41 hx hZ e41 V40 Ov32 (Ins.self (E_GRANT.ext O40)) (j := (4 : Int32)) ⟨by decide, by decide⟩ 4 rfl (Nat.le_of_ble_eq_true rfl) (g := (mkF m 34 #[.val (.int p1), .unset, .unset, .unset, .unset, .unset] [(.ref w_GRANT), (.int (4 : Int32)), (.ref b32), (.ref b32)])) rfl rfl (hb hby at_34)
  have N42 := Fr.snoc X42 N40 gz32
  have V42 : Arv Z h42 b32 k32 (.object "com/example/timed_rbac/timedrbac/policy/Action") (10 : Int32) [(.ref w_ENABLE), (.ref w_DISABLE), (.ref w_ASSIGN), (.ref w_DEASSIGN), (.ref w_GRANT), .null, .null, .null, .null, .null] .null := V42
  have O42 : Ext Z.heap h42 := own_Ext.wr O40 W42 gz32
  refine Go.st (S' := T42.setTop (mkF m 35 #[.val (.int p1), .unset, .unset, .unset, .unset, .unset] [(.ref b32)])) st42 ?_
  refine Go.st (S' := T42.setTop (mkF m 36 #[.val (.int p1), .unset, .unset, .unset, .unset, .unset] [(.ref b32), (.ref b32)])) (fun _ k => XS.dup X42.here hx rfl (hb hby at_35) rfl rfl k) ?_
  refine Go.st (S' := T42.setTop (mkF m 37 #[.val (.int p1), .unset, .unset, .unset, .unset, .unset] [(.int (5 : Int32)), (.ref b32), (.ref b32)])) (fun _ k => XS.iconst X42.here hx rfl (hb hby at_36) k) ?_
  obtain ⟨T43, X43, e43, st43⟩ := getS2 X42 hx hZ hown (host := "") (Or.inl (ww hw 14 rfl)) Via.refl e42 (S_REVOKE.ext O42) (g := (mkF m 37 #[.val (.int p1), .unset, .unset, .unset, .unset, .unset] [(.int (5 : Int32)), (.ref b32), (.ref b32)])) rfl (hb hby at_37)
  refine Go.st (S' := T43.setTop (mkF m 40 #[.val (.int p1), .unset, .unset, .unset, .unset, .unset] [(.ref w_REVOKE), (.int (5 : Int32)), (.ref b32), (.ref b32)])) st43 ?_
  obtain ⟨T44, h44, X44, e44, W44, V44, st44⟩ := own_stR X43 hx hZ e43 V42 Ov32 (Ins.self (E_REVOKE.ext O42)) (j := (5 : Int32)) ⟨by decide, by decide⟩ 5 rfl (Nat.le_of_ble_eq_true rfl) (g := (mkF m 40 #[.val (.int p1), .unset, .unset, .unset, .unset, .unset] [(.ref w_REVOKE), (.int (5 : Int32)), (.ref b32), (.ref b32)])) rfl rfl (hb hby at_40)
  have N44 := Fr.snoc X44 N42 gz32
  have V44 : Arv Z h44 b32 k32 (.object "com/example/timed_rbac/timedrbac/policy/Action") (10 : Int32) [(.ref w_ENABLE), (.ref w_DISABLE), (.ref w_ASSIGN), (.ref w_DEASSIGN), (.ref w_GRANT), (.ref w_REVOKE), .null, .null, .null, .null] .null := V44
  have O44 : Ext Z.heap h44 := own_Ext.wr O42 W44 gz32
  refine Go.st (S' := T44.setTop (mkF m 41 #[.val (.int p1), .unset, .unset, .unset, .unset, .unset] [(.ref b32)])) st44 ?_
  refine Go.st (S' := T44.setTop (mkF m 42 #[.val (.int p1), .unset, .unset, .unset, .unset, .unset] [(.ref b32), (.ref b32)])) (fun _ k => XS.dup X44.here hx rfl (hb hby at_41) rfl rfl k) ?_
  refine Go.st (S' := T44.setTop (mkF m 44 #[.val (.int p1), .unset, .unset, .unset, .unset, .unset] [(.int (6 : Int32)), (.ref b32), (.ref b32)])) (fun _ k => XS.bipush X44.here hx rfl (hb hby at_42) k) ?_
  obtain ⟨T45, X45, e45, st45⟩ := getS2 X44 hx hZ hown (host := "") (Or.inl (ww hw 16 rfl)) Via.refl e44 (S_ACTIVATE.ext O44) (g := (mkF m 44 #[.val (.int p1), .unset, .unset, .unset, .unset, .unset] [(.int (6 : Int32)), (.ref b32), (.ref b32)])) rfl (hb hby at_44)
  refine Go.st (S' := T45.setTop (mkF m 47 #[.val (.int p1), .unset, .unset, .unset, .unset, .unset] [(.ref w_ACTIVATE), (.int (6 : Int32)), (.ref b32), (.ref b32)])) st45 ?_
  obtain ⟨T46, h46, X46, e46, W46, V46, st46⟩ := own_stR X45 hx hZ e45 V44 Ov32 (Ins.self (E_ACTIVATE.ext O44)) (j := (6 : Int32)) ⟨by decide, by decide⟩ 6 rfl (Nat.le_of_ble_eq_true rfl) (g := (mkF m 47 #[.val (.int p1), .unset, .unset, .unset, .unset, .unset] [(.ref w_ACTIVATE), (.int (6 : Int32)), (.ref b32), (.ref b32)])) rfl rfl (hb hby at_47)
  have N46 := Fr.snoc X46 N44 gz32
  have V46 : Arv Z h46 b32 k32 (.object "com/example/timed_rbac/timedrbac/policy/Action") (10 : Int32) [(.ref w_ENABLE), (.ref w_DISABLE), (.ref w_ASSIGN), (.ref w_DEASSIGN), (.ref w_GRANT), (.ref w_REVOKE), (.ref w_ACTIVATE), .null, .null, .null] .null := V46
  have O46 : Ext Z.heap h46 := own_Ext.wr O44 W46 gz32
  refine Go.st (S' := T46.setTop (mkF m 48 #[.val (.int p1), .unset, .unset, .unset, .unset, .unset] [(.ref b32)])) st46 ?_
  refine Go.st (S' := T46.setTop (mkF m 49 #[.val (.int p1), .unset, .unset, .unset, .unset, .unset] [(.ref b32), (.ref b32)])) (fun _ k => XS.dup X46.here hx rfl (hb hby at_48) rfl rfl k) ?_
  refine Go.st (S' := T46.setTop (mkF m 51 #[.val (.int p1), .unset, .unset, .unset, .unset, .unset] [(.int (7 : Int32)), (.ref b32), (.ref b32)])) (fun _ k => XS.bipush X46.here hx rfl (hb hby at_49) k) ?_
  obtain ⟨T47, X47, e47, st47⟩ := getS2 X46 hx hZ hown (host := "") (Or.inl (ww hw 18 rfl)) Via.refl e46 (S_DEACTIVATE.ext O46) (g := (mkF m 51 #[.val (.int p1), .unset, .unset, .unset, .unset, .unset] [(.int (7 : Int32)), (.ref b32), (.ref b32)])) rfl (hb hby at_51)
  refine Go.st (S' := T47.setTop (mkF m 54 #[.val (.int p1), .unset, .unset, .unset, .unset, .unset] [(.ref w_DEACTIVATE), (.int (7 : Int32)), (.ref b32), (.ref b32)])) st47 ?_
  obtain ⟨T48, h48, X48, e48, W48, V48, st48⟩ := own_stR X47 hx hZ e47 V46 Ov32 (Ins.self (E_DEACTIVATE.ext O46)) (j := (7 : Int32)) ⟨by decide, by decide⟩ 7 rfl (Nat.le_of_ble_eq_true rfl) (g := (mkF m 54 #[.val (.int p1), .unset, .unset, .unset, .unset, .unset] [(.ref w_DEACTIVATE), (.int (7 : Int32)), (.ref b32), (.ref b32)])) rfl rfl (hb hby at_54)
  have N48 := Fr.snoc X48 N46 gz32
  have V48 : Arv Z h48 b32 k32 (.object "com/example/timed_rbac/timedrbac/policy/Action") (10 : Int32) [(.ref w_ENABLE), (.ref w_DISABLE), (.ref w_ASSIGN), (.ref w_DEASSIGN), (.ref w_GRANT), (.ref w_REVOKE), (.ref w_ACTIVATE), (.ref w_DEACTIVATE), .null, .null] .null := V48
  have O48 : Ext Z.heap h48 := own_Ext.wr O46 W48 gz32
  refine Go.st (S' := T48.setTop (mkF m 55 #[.val (.int p1), .unset, .unset, .unset, .unset, .unset] [(.ref b32)])) st48 ?_
  refine Go.st (S' := T48.setTop (mkF m 56 #[.val (.int p1), .unset, .unset, .unset, .unset, .unset] [(.ref b32), (.ref b32)])) (fun _ k => XS.dup X48.here hx rfl (hb hby at_55) rfl rfl k) ?_
  refine Go.st (S' := T48.setTop (mkF m 58 #[.val (.int p1), .unset, .unset, .unset, .unset, .unset] [(.int (8 : Int32)), (.ref b32), (.ref b32)])) (fun _ k => XS.bipush X48.here hx rfl (hb hby at_56) k) ?_
  obtain ⟨T49, X49, e49, st49⟩ := getS2 X48 hx hZ hown (host := "") (Or.inl (ww hw 20 rfl)) Via.refl e48 (S_ENABLE_CONSTRAINT.ext O48) (g := (mkF m 58 #[.val (.int p1), .unset, .unset, .unset, .unset, .unset] [(.int (8 : Int32)), (.ref b32), (.ref b32)])) rfl (hb hby at_58)
  refine Go.st (S' := T49.setTop (mkF m 61 #[.val (.int p1), .unset, .unset, .unset, .unset, .unset] [(.ref w_ENABLE_CONSTRAINT), (.int (8 : Int32)), (.ref b32), (.ref b32)])) st49 ?_
  obtain ⟨T50, h50, X50, e50, W50, V50, st50⟩ := own_stR X49 hx hZ e49 V48 Ov32 (Ins.self (E_ENABLE_CONSTRAINT.ext O48)) (j := (8 : Int32)) ⟨by decide, by decide⟩ 8 rfl (Nat.le_of_ble_eq_true rfl) (g := (mkF m 61 #[.val (.int p1), .unset, .unset, .unset, .unset, .unset] [(.ref w_ENABLE_CONSTRAINT), (.int (8 : Int32)), (.ref b32), (.ref b32)])) rfl rfl (hb hby at_61)
  have N50 := Fr.snoc X50 N48 gz32
  have V50 : Arv Z h50 b32 k32 (.object "com/example/timed_rbac/timedrbac/policy/Action") (10 : Int32) [(.ref w_ENABLE), (.ref w_DISABLE), (.ref w_ASSIGN), (.ref w_DEASSIGN), (.ref w_GRANT), (.ref w_REVOKE), (.ref w_ACTIVATE), (.ref w_DEACTIVATE), (.ref w_ENABLE_CONSTRAINT), .null] .null := V50
  have O50 : Ext Z.heap h50 := own_Ext.wr O48 W50 gz32
  refine Go.st (S' := T50.setTop (mkF m 62 #[.val (.int p1), .unset, .unset, .unset, .unset, .unset] [(.ref b32)])) st50 ?_
  refine Go.st (S' := T50.setTop (mkF m 63 #[.val (.int p1), .unset, .unset, .unset, .unset, .unset] [(.ref b32), (.ref b32)])) (fun _ k => XS.dup X50.here hx rfl (hb hby at_62) rfl rfl k) ?_
  refine Go.st (S' := T50.setTop (mkF m 65 #[.val (.int p1), .unset, .unset, .unset, .unset, .unset] [(.int (9 : Int32)), (.ref b32), (.ref b32)])) (fun _ k => XS.bipush X50.here hx rfl (hb hby at_63) k) ?_
  obtain ⟨T51, X51, e51, st51⟩ := getS2 X50 hx hZ hown (host := "") (Or.inl (ww hw 22 rfl)) Via.refl e50 (S_DISABLE_CONSTRAINT.ext O50) (g := (mkF m 65 #[.val (.int p1), .unset, .unset, .unset, .unset, .unset] [(.int (9 : Int32)), (.ref b32), (.ref b32)])) rfl (hb hby at_65)
  refine Go.st (S' := T51.setTop (mkF m 68 #[.val (.int p1), .unset, .unset, .unset, .unset, .unset] [(.ref w_DISABLE_CONSTRAINT), (.int (9 : Int32)), (.ref b32), (.ref b32)])) st51 ?_
  obtain ⟨T52, h52, X52, e52, W52, V52, st52⟩ := own_stR X51 hx hZ e51 V50 Ov32 (Ins.self (E_DISABLE_CONSTRAINT.ext O50)) (j := (9 : Int32)) ⟨by decide, by decide⟩ 9 rfl (Nat.le_of_ble_eq_true rfl) (g := (mkF m 68 #[.val (.int p1), .unset, .unset, .unset, .unset, .unset] [(.ref w_DISABLE_CONSTRAINT), (.int (9 : Int32)), (.ref b32), (.ref b32)])) rfl rfl (hb hby at_68)
  have N52 := Fr.snoc X52 N50 gz32
  have V52 : Arv Z h52 b32 k32 (.object "com/example/timed_rbac/timedrbac/policy/Action") (10 : Int32) [(.ref w_ENABLE), (.ref w_DISABLE), (.ref w_ASSIGN), (.ref w_DEASSIGN), (.ref w_GRANT), (.ref w_REVOKE), (.ref w_ACTIVATE), (.ref w_DEACTIVATE), (.ref w_ENABLE_CONSTRAINT), (.ref w_DISABLE_CONSTRAINT)] .null := V52
  have O52 : Ext Z.heap h52 := own_Ext.wr O50 W52 gz32
  refine Go.st (S' := T52.setTop (mkF m 69 #[.val (.int p1), .unset, .unset, .unset, .unset, .unset] [(.ref b32)])) st52 ?_
  refine Go.st (S' := T52.setTop (mkF m 70 #[.val (.int p1), .val (.ref b32), .unset, .unset, .unset, .unset] [])) (fun _ k => XS.astoreN X52.here hx rfl (hb hby at_69) rfl rfl (l' := #[.val (.int p1), .val (.ref b32), .unset, .unset, .unset, .unset]) rfl k) ?_
  refine Go.st (S' := T52.setTop (mkF m 71 #[.val (.int p1), .val (.ref b32), .unset, .unset, .unset, .unset] [(.int p1)])) (fun _ k => XS.iloadN X52.here hx rfl (hb hby at_70) rfl k) ?_
  refine Go.st (S' := T52.setTop (mkF m 73 #[.val (.int p1), .val (.ref b32), .unset, .unset, .unset, .unset] [(.int (2147483647 : Int32)), (.int p1)])) (X52.ldcInt hx hown (mvT hZ (ww hw 24 rfl)) (g := (mkF m 71 #[.val (.int p1), .val (.ref b32), .unset, .unset, .unset, .unset] [(.int p1)])) rfl (hb hby at_71)) ?_
  refine Go.st (S' := T52.setTop (mkF m 74 #[.val (.int p1), .val (.ref b32), .unset, .unset, .unset, .unset] [(.int (p1 &&& (2147483647 : Int32)))])) (fun _ k => XS.iand X52.here hx rfl (hb hby at_73) rfl k) ?_
  refine Go.st (S' := T52.setTop (mkF m 76 #[.val (.int p1), .val (.ref b32), .unset, .unset, .unset, .unset] [(.int (10 : Int32)), (.int (p1 &&& (2147483647 : Int32)))])) (fun _ k => XS.bipush X52.here hx rfl (hb hby at_74) k) ?_
  refine Go.st (S' := T52.setTop (mkF m 77 #[.val (.int p1), .val (.ref b32), .unset, .unset, .unset, .unset] [(.int ((p1 &&& (2147483647 : Int32)) % (10 : Int32)))])) (fun _ k => iremM X52 hx rfl (hb hby at_76) rfl (by decide) k) ?_
  rcases own_rem10 p1 with hk | hk | hk | hk | hk | hk | hk | hk | hk | hk
  · refine Go.st (S' := T52.setTop (mkF m 77 #[.val (.int p1), .val (.ref b32), .unset, .unset, .unset, .unset] [(.int (0 : Int32))])) (fun _ k => by rw [hk]; exact k) ?_
    refine Go.st (S' := T52.setTop (mkF m 78 #[.val (.int p1), .val (.ref b32), .val (.int (0 : Int32)), .unset, .unset, .unset] [])) (fun _ k => XS.istoreN X52.here hx rfl (hb hby at_77) rfl (l' := #[.val (.int p1), .val (.ref b32), .val (.int (0 : Int32)), .unset, .unset, .unset]) rfl k) ?_
    refine Go.st (S' := T52.setTop (mkF m 79 #[.val (.int p1), .val (.ref b32), .val (.int (0 : Int32)), .unset, .unset, .unset] [(.ref b32)])) (fun _ k => XS.aloadN X52.here hx rfl (hb hby at_78) rfl rfl k) ?_
    refine Go.st (S' := T52.setTop (mkF m 80 #[.val (.int p1), .val (.ref b32), .val (.int (0 : Int32)), .unset, .unset, .unset] [(.int (0 : Int32)), (.ref b32)])) (fun _ k => XS.iloadN X52.here hx rfl (hb hby at_79) rfl k) ?_
    refine Go.st (S' := T52.setTop (mkF m 81 #[.val (.int p1), .val (.ref b32), .val (.int (0 : Int32)), .unset, .unset, .unset] [(.ref w_ENABLE)])) (own_ldR X52 hx hZ e52 V52 rfl ⟨by decide, by decide⟩ rfl (g := (mkF m 80 #[.val (.int p1), .val (.ref b32), .val (.int (0 : Int32)), .unset, .unset, .unset] [(.int (0 : Int32)), (.ref b32)])) rfl rfl (hb hby at_80)) ?_
    refine Go.st (S' := T52.setTop (mkF m 82 #[.val (.int p1), .val (.ref b32), .val (.int (0 : Int32)), .val (.ref w_ENABLE), .unset, .unset] [])) (fun _ k => XS.astoreN X52.here hx rfl (hb hby at_81) rfl rfl (l' := #[.val (.int p1), .val (.ref b32), .val (.int (0 : Int32)), .val (.ref w_ENABLE), .unset, .unset]) rfl k) ?_
    refine Go.st (S' := T52.setTop (mkF m 83 #[.val (.int p1), .val (.ref b32), .val (.int (0 : Int32)), .val (.ref w_ENABLE), .unset, .unset] [(.ref b32)])) (fun _ k => XS.aloadN X52.here hx rfl (hb hby at_82) rfl rfl k) ?_
    refine Go.st (S' := T52.setTop (mkF m 84 #[.val (.int p1), .val (.ref b32), .val (.int (0 : Int32)), .val (.ref w_ENABLE), .unset, .unset] [(.int (0 : Int32)), (.ref b32)])) (fun _ k => XS.iloadN X52.here hx rfl (hb hby at_83) rfl k) ?_
    refine Go.st (S' := T52.setTop (mkF m 85 #[.val (.int p1), .val (.ref b32), .val (.int (0 : Int32)), .val (.ref w_ENABLE), .unset, .unset] [(.int (1 : Int32)), (.int (0 : Int32)), (.ref b32)])) (fun _ k => XS.iconst X52.here hx rfl (hb hby at_84) k) ?_
    refine Go.st (S' := T52.setTop (mkF m 86 #[.val (.int p1), .val (.ref b32), .val (.int (0 : Int32)), .val (.ref w_ENABLE), .unset, .unset] [(.int (1 : Int32)), (.ref b32)])) (fun _ k => XS.ixor X52.here hx rfl (hb hby at_85) rfl k) ?_
    refine Go.st (S' := T52.setTop (mkF m 87 #[.val (.int p1), .val (.ref b32), .val (.int (0 : Int32)), .val (.ref w_ENABLE), .unset, .unset] [(.ref w_DISABLE)])) (own_ldR X52 hx hZ e52 V52 rfl ⟨by decide, by decide⟩ rfl (g := (mkF m 86 #[.val (.int p1), .val (.ref b32), .val (.int (0 : Int32)), .val (.ref w_ENABLE), .unset, .unset] [(.int (1 : Int32)), (.ref b32)])) rfl rfl (hb hby at_86)) ?_
    refine Go.st (S' := T52.setTop (mkF m 89 #[.val (.int p1), .val (.ref b32), .val (.int (0 : Int32)), .val (.ref w_ENABLE), .val (.ref w_DISABLE), .unset] [])) (fun _ k => XS.astore X52.here hx rfl (hb hby at_87) rfl rfl (l' := #[.val (.int p1), .val (.ref b32), .val (.int (0 : Int32)), .val (.ref w_ENABLE), .val (.ref w_DISABLE), .unset]) rfl k) ?_
    refine Go.st (S' := T52.setTop (mkF m 90 #[.val (.int p1), .val (.ref b32), .val (.int (0 : Int32)), .val (.ref w_ENABLE), .val (.ref w_DISABLE), .unset] [(.ref w_ENABLE)])) (fun _ k => XS.aloadN X52.here hx rfl (hb hby at_89) rfl rfl k) ?_
    obtain ⟨_, T55, L55, X55, ⟨rfl, Nq55, eq55⟩, st55⟩ := own_callV X52 hx hZ hown (ww hw 25 rfl) (ww hw 26 rfl) (notFace_of_selects (args := #[]) (mvT hZ (ww hw 28 rfl))) (ww hw 28 rfl) (ww hw 27 rfl) (ww hw 3 rfl) (ww hw 29 rfl) (by decide) e52 (E_ENABLE.ext O52) (rm1 l Z a0 hw [] w_ENABLE w_DISABLE w_ASSIGN w_DEASSIGN w_GRANT w_REVOKE w_ACTIVATE w_DEACTIVATE w_ENABLE_CONSTRAINT w_DISABLE_CONSTRAINT hS w_ENABLE 0 w_DISABLE (Or.inl ⟨rfl, rfl⟩) h52 O52 (E_ENABLE.ext O52) (F_ENABLE_ordinal.ext O52)) 0 (by decide) (by decide) (by decide) (by decide) (g := (mkF m 90 #[.val (.int p1), .val (.ref b32), .val (.int (0 : Int32)), .val (.ref w_ENABLE), .val (.ref w_DISABLE), .unset] [(.ref w_ENABLE)])) rfl (by rw [hml]; rfl) [] [] rfl (lenOf pd_28917 rfl) rfl (by show 2 * 0 + _ ≤ _; exact Nat.le_of_eq rfl) (hb hby at_90)
    have N55 := Fr.app N52 Nq55
    refine Go.st (S' := T55.setTop (mkF m 93 #[.val (.int p1), .val (.ref b32), .val (.int (0 : Int32)), .val (.ref w_ENABLE), .val (.ref w_DISABLE), .unset] [(.ref w_DISABLE)])) st55 ?_
    refine Go.st (S' := T55.setTop (mkF m 95 #[.val (.int p1), .val (.ref b32), .val (.int (0 : Int32)), .val (.ref w_ENABLE), .val (.ref w_DISABLE), .val (.ref w_DISABLE)] [])) (fun _ k => XS.astore X55.here hx rfl (hb hby at_93) rfl rfl (l' := #[.val (.int p1), .val (.ref b32), .val (.int (0 : Int32)), .val (.ref w_ENABLE), .val (.ref w_DISABLE), .val (.ref w_DISABLE)]) rfl k) ?_
    refine Go.st (S' := T55.setTop (mkF m 97 #[.val (.int p1), .val (.ref b32), .val (.int (0 : Int32)), .val (.ref w_ENABLE), .val (.ref w_DISABLE), .val (.ref w_DISABLE)] [(.ref w_DISABLE)])) (fun _ k => XS.aload X55.here hx rfl (hb hby at_95) rfl rfl k) ?_
    refine Go.st (S' := T55.setTop (mkF m 99 #[.val (.int p1), .val (.ref b32), .val (.int (0 : Int32)), .val (.ref w_ENABLE), .val (.ref w_DISABLE), .val (.ref w_DISABLE)] [(.ref w_DISABLE), (.ref w_DISABLE)])) (fun _ k => XS.aload X55.here hx rfl (hb hby at_97) rfl rfl k) ?_
    refine Go.st (S' := T55.setTop (mkF m 104 #[.val (.int p1), .val (.ref b32), .val (.int (0 : Int32)), .val (.ref w_ENABLE), .val (.ref w_DISABLE), .val (.ref w_DISABLE)] [])) (fun _ k => Jvm.RoadKit.acmp (g := (mkF m 99 #[.val (.int p1), .val (.ref b32), .val (.int (0 : Int32)), .val (.ref w_ENABLE), .val (.ref w_DISABLE), .val (.ref w_DISABLE)] [(.ref w_DISABLE), (.ref w_DISABLE)])) X55 hx rfl rfl rfl (pc0 := 99) (pc' := 104) (same := true) rfl (hb hby at_99) rfl (decide_eq_true rfl) (by decide) (by decide) k) ?_
    refine Go.st (S' := T55.setTop (mkF m 106 #[.val (.int p1), .val (.ref b32), .val (.int (0 : Int32)), .val (.ref w_ENABLE), .val (.ref w_DISABLE), .val (.ref w_DISABLE)] [(.ref w_DISABLE)])) (fun _ k => XS.aload X55.here hx rfl (hb hby at_104) rfl rfl k) ?_
    obtain ⟨_, T56, L56, X56, ⟨rfl, Nq56, eq56⟩, st56⟩ := own_callV X55 hx hZ hown (ww hw 25 rfl) (ww hw 26 rfl) (notFace_of_selects (args := #[]) (mvT hZ (ww hw 28 rfl))) (ww hw 28 rfl) (ww hw 27 rfl) (ww hw 3 rfl) (ww hw 29 rfl) (by decide) eq55 (E_DISABLE.ext O52) (rm1 l Z a0 hw [] w_ENABLE w_DISABLE w_ASSIGN w_DEASSIGN w_GRANT w_REVOKE w_ACTIVATE w_DEACTIVATE w_ENABLE_CONSTRAINT w_DISABLE_CONSTRAINT hS w_DISABLE 1 w_ENABLE (Or.inr (Or.inl ⟨rfl, rfl⟩)) h52 O52 (E_DISABLE.ext O52) (F_DISABLE_ordinal.ext O52)) 0 (by decide) (by decide) (by decide) (by decide) (g := (mkF m 106 #[.val (.int p1), .val (.ref b32), .val (.int (0 : Int32)), .val (.ref w_ENABLE), .val (.ref w_DISABLE), .val (.ref w_DISABLE)] [(.ref w_DISABLE)])) rfl (by rw [hml]; rfl) [] [] rfl (lenOf pd_28917 rfl) rfl (by show 2 * 0 + _ ≤ _; exact Nat.le_of_eq rfl) (hb hby at_106)
    have N56 := Fr.app N55 Nq56
    refine Go.st (S' := T56.setTop (mkF m 109 #[.val (.int p1), .val (.ref b32), .val (.int (0 : Int32)), .val (.ref w_ENABLE), .val (.ref w_DISABLE), .val (.ref w_DISABLE)] [(.ref w_ENABLE)])) st56 ?_
    refine Go.st (S' := T56.setTop (mkF m 110 #[.val (.int p1), .val (.ref b32), .val (.int (0 : Int32)), .val (.ref w_ENABLE), .val (.ref w_DISABLE), .val (.ref w_DISABLE)] [(.ref w_ENABLE), (.ref w_ENABLE)])) (fun _ k => XS.aloadN X56.here hx rfl (hb hby at_109) rfl rfl k) ?_
    refine Go.st (S' := T56.setTop (mkF m 115 #[.val (.int p1), .val (.ref b32), .val (.int (0 : Int32)), .val (.ref w_ENABLE), .val (.ref w_DISABLE), .val (.ref w_DISABLE)] [])) (fun _ k => Jvm.RoadKit.acmp (g := (mkF m 110 #[.val (.int p1), .val (.ref b32), .val (.int (0 : Int32)), .val (.ref w_ENABLE), .val (.ref w_DISABLE), .val (.ref w_DISABLE)] [(.ref w_ENABLE), (.ref w_ENABLE)])) X56 hx rfl rfl rfl (pc0 := 110) (pc' := 115) (same := true) rfl (hb hby at_110) rfl (decide_eq_true rfl) (by decide) (by decide) k) ?_
    refine Go.st (S' := T56.setTop (mkF m 117 #[.val (.int p1), .val (.ref b32), .val (.int (0 : Int32)), .val (.ref w_ENABLE), .val (.ref w_DISABLE), .val (.ref w_DISABLE)] [(.ref w_DISABLE)])) (fun _ k => XS.aload X56.here hx rfl (hb hby at_115) rfl rfl k) ?_
    obtain ⟨_, T57, L57, X57, ⟨rfl, Nq57, eq57⟩, st57⟩ := own_callV X56 hx hZ hown (ww hw 41 rfl) (ww hw 42 rfl) (notFace_of_selects (args := #[]) (mvT hZ (ww hw 44 rfl))) (ww hw 44 rfl) (ww hw 43 rfl) (ww hw 3 rfl) (ww hw 45 rfl) (by decide) eq56 (E_DISABLE.ext O52) (rm3 l Z a0 hw [] w_ENABLE w_DISABLE w_ASSIGN w_DEASSIGN w_GRANT w_REVOKE w_ACTIVATE w_DEACTIVATE w_ENABLE_CONSTRAINT w_DISABLE_CONSTRAINT hS w_DISABLE 1 1 (Or.inr (Or.inl ⟨rfl, rfl⟩)) h52 O52 (E_DISABLE.ext O52) (F_DISABLE_ordinal.ext O52)) 0 (by decide) (by decide) (by decide) (by decide) (g := (mkF m 117 #[.val (.int p1), .val (.ref b32), .val (.int (0 : Int32)), .val (.ref w_ENABLE), .val (.ref w_DISABLE), .val (.ref w_DISABLE)] [(.ref w_DISABLE)])) rfl (by rw [hml]; rfl) [] [] rfl (lenOf pd_428490 rfl) rfl (by show 2 * 0 + _ ≤ _; exact Nat.le_of_eq rfl) (hb hby at_117)
    have N57 := Fr.app N56 Nq57
    refine Go.st (S' := T57.setTop (mkF m 120 #[.val (.int p1), .val (.ref b32), .val (.int (0 : Int32)), .val (.ref w_ENABLE), .val (.ref w_DISABLE), .val (.ref w_DISABLE)] [(.int (1 : Int32))])) st57 ?_
    refine Go.st (S' := T57.setTop (mkF m 121 #[.val (.int p1), .val (.ref b32), .val (.int (0 : Int32)), .val (.ref w_ENABLE), .val (.ref w_DISABLE), .val (.ref w_DISABLE)] [(.ref w_ENABLE), (.int (1 : Int32))])) (fun _ k => XS.aloadN X57.here hx rfl (hb hby at_120) rfl rfl k) ?_
    obtain ⟨_, T58, L58, X58, ⟨rfl, Nq58, eq58⟩, st58⟩ := own_callV X57 hx hZ hown (ww hw 41 rfl) (ww hw 42 rfl) (notFace_of_selects (args := #[]) (mvT hZ (ww hw 44 rfl))) (ww hw 44 rfl) (ww hw 43 rfl) (ww hw 3 rfl) (ww hw 45 rfl) (by decide) eq57 (E_ENABLE.ext O52) (rm3 l Z a0 hw [] w_ENABLE w_DISABLE w_ASSIGN w_DEASSIGN w_GRANT w_REVOKE w_ACTIVATE w_DEACTIVATE w_ENABLE_CONSTRAINT w_DISABLE_CONSTRAINT hS w_ENABLE 0 0 (Or.inl ⟨rfl, rfl⟩) h52 O52 (E_ENABLE.ext O52) (F_ENABLE_ordinal.ext O52)) 1 (by decide) (by decide) (by decide) (by decide) (g := (mkF m 121 #[.val (.int p1), .val (.ref b32), .val (.int (0 : Int32)), .val (.ref w_ENABLE), .val (.ref w_DISABLE), .val (.ref w_DISABLE)] [(.ref w_ENABLE), (.int (1 : Int32))])) rfl (by rw [hml]; rfl) [] [(.int (1 : Int32))] rfl (lenOf pd_428490 rfl) rfl (by show 2 * 0 + _ ≤ _; exact Nat.le_of_eq rfl) (hb hby at_121)
    have N58 := Fr.app N57 Nq58
    refine Go.st (S' := T58.setTop (mkF m 124 #[.val (.int p1), .val (.ref b32), .val (.int (0 : Int32)), .val (.ref w_ENABLE), .val (.ref w_DISABLE), .val (.ref w_DISABLE)] [(.int (0 : Int32)), (.int (1 : Int32))])) st58 ?_
    refine Go.st (S' := T58.setTop (mkF m 127 #[.val (.int p1), .val (.ref b32), .val (.int (0 : Int32)), .val (.ref w_ENABLE), .val (.ref w_DISABLE), .val (.ref w_DISABLE)] [])) (fun _ k => XS.icmpNo X58.here hx rfl (hb hby at_124) rfl (feq (by decide)).1 k) ?_
    refine Go.st (S' := T58.setTop (mkF m 128 #[.val (.int p1), .val (.ref b32), .val (.int (0 : Int32)), .val (.ref w_ENABLE), .val (.ref w_DISABLE), .val (.ref w_DISABLE)] [(.int (1 : Int32))])) (fun _ k => XS.iconst X58.here hx rfl (hb hby at_127) k) ?_
    refine Go.st (S' := T58.setTop (mkF m 132 #[.val (.int p1), .val (.ref b32), .val (.int (0 : Int32)), .val (.ref w_ENABLE), .val (.ref w_DISABLE), .val (.ref w_DISABLE)] [(.int (1 : Int32))])) (fun _ k => XS.goto X58.here hx rfl (pc0 := 128) (pc' := 132) rfl (hb hby at_128) (by decide) (by decide) k) ?_
    exact own_retN X58 hx hlk hret (by simp) (hb hby at_132) eq58 ⟨rfl, N58⟩ (by decide) (by decide)
  · refine Go.st (S' := T52.setTop (mkF m 77 #[.val (.int p1), .val (.ref b32), .unset, .unset, .unset, .unset] [(.int (1 : Int32))])) (fun _ k => by rw [hk]; exact k) ?_
    refine Go.st (S' := T52.setTop (mkF m 78 #[.val (.int p1), .val (.ref b32), .val (.int (1 : Int32)), .unset, .unset, .unset] [])) (fun _ k => XS.istoreN X52.here hx rfl (hb hby at_77) rfl (l' := #[.val (.int p1), .val (.ref b32), .val (.int (1 : Int32)), .unset, .unset, .unset]) rfl k) ?_
    refine Go.st (S' := T52.setTop (mkF m 79 #[.val (.int p1), .val (.ref b32), .val (.int (1 : Int32)), .unset, .unset, .unset] [(.ref b32)])) (fun _ k => XS.aloadN X52.here hx rfl (hb hby at_78) rfl rfl k) ?_
    refine Go.st (S' := T52.setTop (mkF m 80 #[.val (.int p1), .val (.ref b32), .val (.int (1 : Int32)), .unset, .unset, .unset] [(.int (1 : Int32)), (.ref b32)])) (fun _ k => XS.iloadN X52.here hx rfl (hb hby at_79) rfl k) ?_
    refine Go.st (S' := T52.setTop (mkF m 81 #[.val (.int p1), .val (.ref b32), .val (.int (1 : Int32)), .unset, .unset, .unset] [(.ref w_DISABLE)])) (own_ldR X52 hx hZ e52 V52 rfl ⟨by decide, by decide⟩ rfl (g := (mkF m 80 #[.val (.int p1), .val (.ref b32), .val (.int (1 : Int32)), .unset, .unset, .unset] [(.int (1 : Int32)), (.ref b32)])) rfl rfl (hb hby at_80)) ?_
    refine Go.st (S' := T52.setTop (mkF m 82 #[.val (.int p1), .val (.ref b32), .val (.int (1 : Int32)), .val (.ref w_DISABLE), .unset, .unset] [])) (fun _ k => XS.astoreN X52.here hx rfl (hb hby at_81) rfl rfl (l' := #[.val (.int p1), .val (.ref b32), .val (.int (1 : Int32)), .val (.ref w_DISABLE), .unset, .unset]) rfl k) ?_
    refine Go.st (S' := T52.setTop (mkF m 83 #[.val (.int p1), .val (.ref b32), .val (.int (1 : Int32)), .val (.ref w_DISABLE), .unset, .unset] [(.ref b32)])) (fun _ k => XS.aloadN X52.here hx rfl (hb hby at_82) rfl rfl k) ?_
    refine Go.st (S' := T52.setTop (mkF m 84 #[.val (.int p1), .val (.ref b32), .val (.int (1 : Int32)), .val (.ref w_DISABLE), .unset, .unset] [(.int (1 : Int32)), (.ref b32)])) (fun _ k => XS.iloadN X52.here hx rfl (hb hby at_83) rfl k) ?_
    refine Go.st (S' := T52.setTop (mkF m 85 #[.val (.int p1), .val (.ref b32), .val (.int (1 : Int32)), .val (.ref w_DISABLE), .unset, .unset] [(.int (1 : Int32)), (.int (1 : Int32)), (.ref b32)])) (fun _ k => XS.iconst X52.here hx rfl (hb hby at_84) k) ?_
    refine Go.st (S' := T52.setTop (mkF m 86 #[.val (.int p1), .val (.ref b32), .val (.int (1 : Int32)), .val (.ref w_DISABLE), .unset, .unset] [(.int (0 : Int32)), (.ref b32)])) (fun _ k => XS.ixor X52.here hx rfl (hb hby at_85) rfl k) ?_
    refine Go.st (S' := T52.setTop (mkF m 87 #[.val (.int p1), .val (.ref b32), .val (.int (1 : Int32)), .val (.ref w_DISABLE), .unset, .unset] [(.ref w_ENABLE)])) (own_ldR X52 hx hZ e52 V52 rfl ⟨by decide, by decide⟩ rfl (g := (mkF m 86 #[.val (.int p1), .val (.ref b32), .val (.int (1 : Int32)), .val (.ref w_DISABLE), .unset, .unset] [(.int (0 : Int32)), (.ref b32)])) rfl rfl (hb hby at_86)) ?_
    refine Go.st (S' := T52.setTop (mkF m 89 #[.val (.int p1), .val (.ref b32), .val (.int (1 : Int32)), .val (.ref w_DISABLE), .val (.ref w_ENABLE), .unset] [])) (fun _ k => XS.astore X52.here hx rfl (hb hby at_87) rfl rfl (l' := #[.val (.int p1), .val (.ref b32), .val (.int (1 : Int32)), .val (.ref w_DISABLE), .val (.ref w_ENABLE), .unset]) rfl k) ?_
    refine Go.st (S' := T52.setTop (mkF m 90 #[.val (.int p1), .val (.ref b32), .val (.int (1 : Int32)), .val (.ref w_DISABLE), .val (.ref w_ENABLE), .unset] [(.ref w_DISABLE)])) (fun _ k => XS.aloadN X52.here hx rfl (hb hby at_89) rfl rfl k) ?_
    obtain ⟨_, T61, L61, X61, ⟨rfl, Nq61, eq61⟩, st61⟩ := own_callV X52 hx hZ hown (ww hw 25 rfl) (ww hw 26 rfl) (notFace_of_selects (args := #[]) (mvT hZ (ww hw 28 rfl))) (ww hw 28 rfl) (ww hw 27 rfl) (ww hw 3 rfl) (ww hw 29 rfl) (by decide) e52 (E_DISABLE.ext O52) (rm1 l Z a0 hw [] w_ENABLE w_DISABLE w_ASSIGN w_DEASSIGN w_GRANT w_REVOKE w_ACTIVATE w_DEACTIVATE w_ENABLE_CONSTRAINT w_DISABLE_CONSTRAINT hS w_DISABLE 1 w_ENABLE (Or.inr (Or.inl ⟨rfl, rfl⟩)) h52 O52 (E_DISABLE.ext O52) (F_DISABLE_ordinal.ext O52)) 0 (by decide) (by decide) (by decide) (by decide) (g := (mkF m 90 #[.val (.int p1), .val (.ref b32), .val (.int (1 : Int32)), .val (.ref w_DISABLE), .val (.ref w_ENABLE), .unset] [(.ref w_DISABLE)])) rfl (by rw [hml]; rfl) [] [] rfl (lenOf pd_28917 rfl) rfl (by show 2 * 0 + _ ≤ _; exact Nat.le_of_eq rfl) (hb hby at_90)
    have N61 := Fr.app N52 Nq61
    refine Go.st (S' := T61.setTop (mkF m 93 #[.val (.int p1), .val (.ref b32), .val (.int (1 : Int32)), .val (.ref w_DISABLE), .val (.ref w_ENABLE), .unset] [(.ref w_ENABLE)])) st61 ?_
    refine Go.st (S' := T61.setTop (mkF m 95 #[.val (.int p1), .val (.ref b32), .val (.int (1 : Int32)), .val (.ref w_DISABLE), .val (.ref w_ENABLE), .val (.ref w_ENABLE)] [])) (fun _ k => XS.astore X61.here hx rfl (hb hby at_93) rfl rfl (l' := #[.val (.int p1), .val (.ref b32), .val (.int (1 : Int32)), .val (.ref w_DISABLE), .val (.ref w_ENABLE), .val (.ref w_ENABLE)]) rfl k) ?_
    refine Go.st (S' := T61.setTop (mkF m 97 #[.val (.int p1), .val (.ref b32), .val (.int (1 : Int32)), .val (.ref w_DISABLE), .val (.ref w_ENABLE), .val (.ref w_ENABLE)] [(.ref w_ENABLE)])) (fun _ k => XS.aload X61.here hx rfl (hb hby at_95) rfl rfl k) ?_
    refine Go.st (S' := T61.setTop (mkF m 99 #[.val (.int p1), .val (.ref b32), .val (.int (1 : Int32)), .val (.ref w_DISABLE), .val (.ref w_ENABLE), .val (.ref w_ENABLE)] [(.ref w_ENABLE), (.ref w_ENABLE)])) (fun _ k => XS.aload X61.here hx rfl (hb hby at_97) rfl rfl k) ?_
    refine Go.st (S' := T61.setTop (mkF m 104 #[.val (.int p1), .val (.ref b32), .val (.int (1 : Int32)), .val (.ref w_DISABLE), .val (.ref w_ENABLE), .val (.ref w_ENABLE)] [])) (fun _ k => Jvm.RoadKit.acmp (g := (mkF m 99 #[.val (.int p1), .val (.ref b32), .val (.int (1 : Int32)), .val (.ref w_DISABLE), .val (.ref w_ENABLE), .val (.ref w_ENABLE)] [(.ref w_ENABLE), (.ref w_ENABLE)])) X61 hx rfl rfl rfl (pc0 := 99) (pc' := 104) (same := true) rfl (hb hby at_99) rfl (decide_eq_true rfl) (by decide) (by decide) k) ?_
    refine Go.st (S' := T61.setTop (mkF m 106 #[.val (.int p1), .val (.ref b32), .val (.int (1 : Int32)), .val (.ref w_DISABLE), .val (.ref w_ENABLE), .val (.ref w_ENABLE)] [(.ref w_ENABLE)])) (fun _ k => XS.aload X61.here hx rfl (hb hby at_104) rfl rfl k) ?_
    obtain ⟨_, T62, L62, X62, ⟨rfl, Nq62, eq62⟩, st62⟩ := own_callV X61 hx hZ hown (ww hw 25 rfl) (ww hw 26 rfl) (notFace_of_selects (args := #[]) (mvT hZ (ww hw 28 rfl))) (ww hw 28 rfl) (ww hw 27 rfl) (ww hw 3 rfl) (ww hw 29 rfl) (by decide) eq61 (E_ENABLE.ext O52) (rm1 l Z a0 hw [] w_ENABLE w_DISABLE w_ASSIGN w_DEASSIGN w_GRANT w_REVOKE w_ACTIVATE w_DEACTIVATE w_ENABLE_CONSTRAINT w_DISABLE_CONSTRAINT hS w_ENABLE 0 w_DISABLE (Or.inl ⟨rfl, rfl⟩) h52 O52 (E_ENABLE.ext O52) (F_ENABLE_ordinal.ext O52)) 0 (by decide) (by decide) (by decide) (by decide) (g := (mkF m 106 #[.val (.int p1), .val (.ref b32), .val (.int (1 : Int32)), .val (.ref w_DISABLE), .val (.ref w_ENABLE), .val (.ref w_ENABLE)] [(.ref w_ENABLE)])) rfl (by rw [hml]; rfl) [] [] rfl (lenOf pd_28917 rfl) rfl (by show 2 * 0 + _ ≤ _; exact Nat.le_of_eq rfl) (hb hby at_106)
    have N62 := Fr.app N61 Nq62
    refine Go.st (S' := T62.setTop (mkF m 109 #[.val (.int p1), .val (.ref b32), .val (.int (1 : Int32)), .val (.ref w_DISABLE), .val (.ref w_ENABLE), .val (.ref w_ENABLE)] [(.ref w_DISABLE)])) st62 ?_
    refine Go.st (S' := T62.setTop (mkF m 110 #[.val (.int p1), .val (.ref b32), .val (.int (1 : Int32)), .val (.ref w_DISABLE), .val (.ref w_ENABLE), .val (.ref w_ENABLE)] [(.ref w_DISABLE), (.ref w_DISABLE)])) (fun _ k => XS.aloadN X62.here hx rfl (hb hby at_109) rfl rfl k) ?_
    refine Go.st (S' := T62.setTop (mkF m 115 #[.val (.int p1), .val (.ref b32), .val (.int (1 : Int32)), .val (.ref w_DISABLE), .val (.ref w_ENABLE), .val (.ref w_ENABLE)] [])) (fun _ k => Jvm.RoadKit.acmp (g := (mkF m 110 #[.val (.int p1), .val (.ref b32), .val (.int (1 : Int32)), .val (.ref w_DISABLE), .val (.ref w_ENABLE), .val (.ref w_ENABLE)] [(.ref w_DISABLE), (.ref w_DISABLE)])) X62 hx rfl rfl rfl (pc0 := 110) (pc' := 115) (same := true) rfl (hb hby at_110) rfl (decide_eq_true rfl) (by decide) (by decide) k) ?_
    refine Go.st (S' := T62.setTop (mkF m 117 #[.val (.int p1), .val (.ref b32), .val (.int (1 : Int32)), .val (.ref w_DISABLE), .val (.ref w_ENABLE), .val (.ref w_ENABLE)] [(.ref w_ENABLE)])) (fun _ k => XS.aload X62.here hx rfl (hb hby at_115) rfl rfl k) ?_
    obtain ⟨_, T63, L63, X63, ⟨rfl, Nq63, eq63⟩, st63⟩ := own_callV X62 hx hZ hown (ww hw 41 rfl) (ww hw 42 rfl) (notFace_of_selects (args := #[]) (mvT hZ (ww hw 44 rfl))) (ww hw 44 rfl) (ww hw 43 rfl) (ww hw 3 rfl) (ww hw 45 rfl) (by decide) eq62 (E_ENABLE.ext O52) (rm3 l Z a0 hw [] w_ENABLE w_DISABLE w_ASSIGN w_DEASSIGN w_GRANT w_REVOKE w_ACTIVATE w_DEACTIVATE w_ENABLE_CONSTRAINT w_DISABLE_CONSTRAINT hS w_ENABLE 0 0 (Or.inl ⟨rfl, rfl⟩) h52 O52 (E_ENABLE.ext O52) (F_ENABLE_ordinal.ext O52)) 0 (by decide) (by decide) (by decide) (by decide) (g := (mkF m 117 #[.val (.int p1), .val (.ref b32), .val (.int (1 : Int32)), .val (.ref w_DISABLE), .val (.ref w_ENABLE), .val (.ref w_ENABLE)] [(.ref w_ENABLE)])) rfl (by rw [hml]; rfl) [] [] rfl (lenOf pd_428490 rfl) rfl (by show 2 * 0 + _ ≤ _; exact Nat.le_of_eq rfl) (hb hby at_117)
    have N63 := Fr.app N62 Nq63
    refine Go.st (S' := T63.setTop (mkF m 120 #[.val (.int p1), .val (.ref b32), .val (.int (1 : Int32)), .val (.ref w_DISABLE), .val (.ref w_ENABLE), .val (.ref w_ENABLE)] [(.int (0 : Int32))])) st63 ?_
    refine Go.st (S' := T63.setTop (mkF m 121 #[.val (.int p1), .val (.ref b32), .val (.int (1 : Int32)), .val (.ref w_DISABLE), .val (.ref w_ENABLE), .val (.ref w_ENABLE)] [(.ref w_DISABLE), (.int (0 : Int32))])) (fun _ k => XS.aloadN X63.here hx rfl (hb hby at_120) rfl rfl k) ?_
    obtain ⟨_, T64, L64, X64, ⟨rfl, Nq64, eq64⟩, st64⟩ := own_callV X63 hx hZ hown (ww hw 41 rfl) (ww hw 42 rfl) (notFace_of_selects (args := #[]) (mvT hZ (ww hw 44 rfl))) (ww hw 44 rfl) (ww hw 43 rfl) (ww hw 3 rfl) (ww hw 45 rfl) (by decide) eq63 (E_DISABLE.ext O52) (rm3 l Z a0 hw [] w_ENABLE w_DISABLE w_ASSIGN w_DEASSIGN w_GRANT w_REVOKE w_ACTIVATE w_DEACTIVATE w_ENABLE_CONSTRAINT w_DISABLE_CONSTRAINT hS w_DISABLE 1 1 (Or.inr (Or.inl ⟨rfl, rfl⟩)) h52 O52 (E_DISABLE.ext O52) (F_DISABLE_ordinal.ext O52)) 1 (by decide) (by decide) (by decide) (by decide) (g := (mkF m 121 #[.val (.int p1), .val (.ref b32), .val (.int (1 : Int32)), .val (.ref w_DISABLE), .val (.ref w_ENABLE), .val (.ref w_ENABLE)] [(.ref w_DISABLE), (.int (0 : Int32))])) rfl (by rw [hml]; rfl) [] [(.int (0 : Int32))] rfl (lenOf pd_428490 rfl) rfl (by show 2 * 0 + _ ≤ _; exact Nat.le_of_eq rfl) (hb hby at_121)
    have N64 := Fr.app N63 Nq64
    refine Go.st (S' := T64.setTop (mkF m 124 #[.val (.int p1), .val (.ref b32), .val (.int (1 : Int32)), .val (.ref w_DISABLE), .val (.ref w_ENABLE), .val (.ref w_ENABLE)] [(.int (1 : Int32)), (.int (0 : Int32))])) st64 ?_
    refine Go.st (S' := T64.setTop (mkF m 127 #[.val (.int p1), .val (.ref b32), .val (.int (1 : Int32)), .val (.ref w_DISABLE), .val (.ref w_ENABLE), .val (.ref w_ENABLE)] [])) (fun _ k => XS.icmpNo X64.here hx rfl (hb hby at_124) rfl (feq (by decide)).1 k) ?_
    refine Go.st (S' := T64.setTop (mkF m 128 #[.val (.int p1), .val (.ref b32), .val (.int (1 : Int32)), .val (.ref w_DISABLE), .val (.ref w_ENABLE), .val (.ref w_ENABLE)] [(.int (1 : Int32))])) (fun _ k => XS.iconst X64.here hx rfl (hb hby at_127) k) ?_
    refine Go.st (S' := T64.setTop (mkF m 132 #[.val (.int p1), .val (.ref b32), .val (.int (1 : Int32)), .val (.ref w_DISABLE), .val (.ref w_ENABLE), .val (.ref w_ENABLE)] [(.int (1 : Int32))])) (fun _ k => XS.goto X64.here hx rfl (pc0 := 128) (pc' := 132) rfl (hb hby at_128) (by decide) (by decide) k) ?_
    exact own_retN X64 hx hlk hret (by simp) (hb hby at_132) eq64 ⟨rfl, N64⟩ (by decide) (by decide)
  · refine Go.st (S' := T52.setTop (mkF m 77 #[.val (.int p1), .val (.ref b32), .unset, .unset, .unset, .unset] [(.int (2 : Int32))])) (fun _ k => by rw [hk]; exact k) ?_
    refine Go.st (S' := T52.setTop (mkF m 78 #[.val (.int p1), .val (.ref b32), .val (.int (2 : Int32)), .unset, .unset, .unset] [])) (fun _ k => XS.istoreN X52.here hx rfl (hb hby at_77) rfl (l' := #[.val (.int p1), .val (.ref b32), .val (.int (2 : Int32)), .unset, .unset, .unset]) rfl k) ?_
    refine Go.st (S' := T52.setTop (mkF m 79 #[.val (.int p1), .val (.ref b32), .val (.int (2 : Int32)), .unset, .unset, .unset] [(.ref b32)])) (fun _ k => XS.aloadN X52.here hx rfl (hb hby at_78) rfl rfl k) ?_
    refine Go.st (S' := T52.setTop (mkF m 80 #[.val (.int p1), .val (.ref b32), .val (.int (2 : Int32)), .unset, .unset, .unset] [(.int (2 : Int32)), (.ref b32)])) (fun _ k => XS.iloadN X52.here hx rfl (hb hby at_79) rfl k) ?_
    refine Go.st (S' := T52.setTop (mkF m 81 #[.val (.int p1), .val (.ref b32), .val (.int (2 : Int32)), .unset, .unset, .unset] [(.ref w_ASSIGN)])) (own_ldR X52 hx hZ e52 V52 rfl ⟨by decide, by decide⟩ rfl (g := (mkF m 80 #[.val (.int p1), .val (.ref b32), .val (.int (2 : Int32)), .unset, .unset, .unset] [(.int (2 : Int32)), (.ref b32)])) rfl rfl (hb hby at_80)) ?_
    refine Go.st (S' := T52.setTop (mkF m 82 #[.val (.int p1), .val (.ref b32), .val (.int (2 : Int32)), .val (.ref w_ASSIGN), .unset, .unset] [])) (fun _ k => XS.astoreN X52.here hx rfl (hb hby at_81) rfl rfl (l' := #[.val (.int p1), .val (.ref b32), .val (.int (2 : Int32)), .val (.ref w_ASSIGN), .unset, .unset]) rfl k) ?_
    refine Go.st (S' := T52.setTop (mkF m 83 #[.val (.int p1), .val (.ref b32), .val (.int (2 : Int32)), .val (.ref w_ASSIGN), .unset, .unset] [(.ref b32)])) (fun _ k => XS.aloadN X52.here hx rfl (hb hby at_82) rfl rfl k) ?_
    refine Go.st (S' := T52.setTop (mkF m 84 #[.val (.int p1), .val (.ref b32), .val (.int (2 : Int32)), .val (.ref w_ASSIGN), .unset, .unset] [(.int (2 : Int32)), (.ref b32)])) (fun _ k => XS.iloadN X52.here hx rfl (hb hby at_83) rfl k) ?_
    refine Go.st (S' := T52.setTop (mkF m 85 #[.val (.int p1), .val (.ref b32), .val (.int (2 : Int32)), .val (.ref w_ASSIGN), .unset, .unset] [(.int (1 : Int32)), (.int (2 : Int32)), (.ref b32)])) (fun _ k => XS.iconst X52.here hx rfl (hb hby at_84) k) ?_
    refine Go.st (S' := T52.setTop (mkF m 86 #[.val (.int p1), .val (.ref b32), .val (.int (2 : Int32)), .val (.ref w_ASSIGN), .unset, .unset] [(.int (3 : Int32)), (.ref b32)])) (fun _ k => XS.ixor X52.here hx rfl (hb hby at_85) rfl k) ?_
    refine Go.st (S' := T52.setTop (mkF m 87 #[.val (.int p1), .val (.ref b32), .val (.int (2 : Int32)), .val (.ref w_ASSIGN), .unset, .unset] [(.ref w_DEASSIGN)])) (own_ldR X52 hx hZ e52 V52 rfl ⟨by decide, by decide⟩ rfl (g := (mkF m 86 #[.val (.int p1), .val (.ref b32), .val (.int (2 : Int32)), .val (.ref w_ASSIGN), .unset, .unset] [(.int (3 : Int32)), (.ref b32)])) rfl rfl (hb hby at_86)) ?_
    refine Go.st (S' := T52.setTop (mkF m 89 #[.val (.int p1), .val (.ref b32), .val (.int (2 : Int32)), .val (.ref w_ASSIGN), .val (.ref w_DEASSIGN), .unset] [])) (fun _ k => XS.astore X52.here hx rfl (hb hby at_87) rfl rfl (l' := #[.val (.int p1), .val (.ref b32), .val (.int (2 : Int32)), .val (.ref w_ASSIGN), .val (.ref w_DEASSIGN), .unset]) rfl k) ?_
    refine Go.st (S' := T52.setTop (mkF m 90 #[.val (.int p1), .val (.ref b32), .val (.int (2 : Int32)), .val (.ref w_ASSIGN), .val (.ref w_DEASSIGN), .unset] [(.ref w_ASSIGN)])) (fun _ k => XS.aloadN X52.here hx rfl (hb hby at_89) rfl rfl k) ?_
    obtain ⟨_, T67, L67, X67, ⟨rfl, Nq67, eq67⟩, st67⟩ := own_callV X52 hx hZ hown (ww hw 25 rfl) (ww hw 26 rfl) (notFace_of_selects (args := #[]) (mvT hZ (ww hw 28 rfl))) (ww hw 28 rfl) (ww hw 27 rfl) (ww hw 3 rfl) (ww hw 29 rfl) (by decide) e52 (E_ASSIGN.ext O52) (rm1 l Z a0 hw [] w_ENABLE w_DISABLE w_ASSIGN w_DEASSIGN w_GRANT w_REVOKE w_ACTIVATE w_DEACTIVATE w_ENABLE_CONSTRAINT w_DISABLE_CONSTRAINT hS w_ASSIGN 2 w_DEASSIGN (Or.inr (Or.inr (Or.inl ⟨rfl, rfl⟩))) h52 O52 (E_ASSIGN.ext O52) (F_ASSIGN_ordinal.ext O52)) 0 (by decide) (by decide) (by decide) (by decide) (g := (mkF m 90 #[.val (.int p1), .val (.ref b32), .val (.int (2 : Int32)), .val (.ref w_ASSIGN), .val (.ref w_DEASSIGN), .unset] [(.ref w_ASSIGN)])) rfl (by rw [hml]; rfl) [] [] rfl (lenOf pd_28917 rfl) rfl (by show 2 * 0 + _ ≤ _; exact Nat.le_of_eq rfl) (hb hby at_90)
    have N67 := Fr.app N52 Nq67
    refine Go.st (S' := T67.setTop (mkF m 93 #[.val (.int p1), .val (.ref b32), .val (.int (2 : Int32)), .val (.ref w_ASSIGN), .val (.ref w_DEASSIGN), .unset] [(.ref w_DEASSIGN)])) st67 ?_
    refine Go.st (S' := T67.setTop (mkF m 95 #[.val (.int p1), .val (.ref b32), .val (.int (2 : Int32)), .val (.ref w_ASSIGN), .val (.ref w_DEASSIGN), .val (.ref w_DEASSIGN)] [])) (fun _ k => XS.astore X67.here hx rfl (hb hby at_93) rfl rfl (l' := #[.val (.int p1), .val (.ref b32), .val (.int (2 : Int32)), .val (.ref w_ASSIGN), .val (.ref w_DEASSIGN), .val (.ref w_DEASSIGN)]) rfl k) ?_
    refine Go.st (S' := T67.setTop (mkF m 97 #[.val (.int p1), .val (.ref b32), .val (.int (2 : Int32)), .val (.ref w_ASSIGN), .val (.ref w_DEASSIGN), .val (.ref w_DEASSIGN)] [(.ref w_DEASSIGN)])) (fun _ k => XS.aload X67.here hx rfl (hb hby at_95) rfl rfl k) ?_
    refine Go.st (S' := T67.setTop (mkF m 99 #[.val (.int p1), .val (.ref b32), .val (.int (2 : Int32)), .val (.ref w_ASSIGN), .val (.ref w_DEASSIGN), .val (.ref w_DEASSIGN)] [(.ref w_DEASSIGN), (.ref w_DEASSIGN)])) (fun _ k => XS.aload X67.here hx rfl (hb hby at_97) rfl rfl k) ?_
    refine Go.st (S' := T67.setTop (mkF m 104 #[.val (.int p1), .val (.ref b32), .val (.int (2 : Int32)), .val (.ref w_ASSIGN), .val (.ref w_DEASSIGN), .val (.ref w_DEASSIGN)] [])) (fun _ k => Jvm.RoadKit.acmp (g := (mkF m 99 #[.val (.int p1), .val (.ref b32), .val (.int (2 : Int32)), .val (.ref w_ASSIGN), .val (.ref w_DEASSIGN), .val (.ref w_DEASSIGN)] [(.ref w_DEASSIGN), (.ref w_DEASSIGN)])) X67 hx rfl rfl rfl (pc0 := 99) (pc' := 104) (same := true) rfl (hb hby at_99) rfl (decide_eq_true rfl) (by decide) (by decide) k) ?_
    refine Go.st (S' := T67.setTop (mkF m 106 #[.val (.int p1), .val (.ref b32), .val (.int (2 : Int32)), .val (.ref w_ASSIGN), .val (.ref w_DEASSIGN), .val (.ref w_DEASSIGN)] [(.ref w_DEASSIGN)])) (fun _ k => XS.aload X67.here hx rfl (hb hby at_104) rfl rfl k) ?_
    obtain ⟨_, T68, L68, X68, ⟨rfl, Nq68, eq68⟩, st68⟩ := own_callV X67 hx hZ hown (ww hw 25 rfl) (ww hw 26 rfl) (notFace_of_selects (args := #[]) (mvT hZ (ww hw 28 rfl))) (ww hw 28 rfl) (ww hw 27 rfl) (ww hw 3 rfl) (ww hw 29 rfl) (by decide) eq67 (E_DEASSIGN.ext O52) (rm1 l Z a0 hw [] w_ENABLE w_DISABLE w_ASSIGN w_DEASSIGN w_GRANT w_REVOKE w_ACTIVATE w_DEACTIVATE w_ENABLE_CONSTRAINT w_DISABLE_CONSTRAINT hS w_DEASSIGN 3 w_ASSIGN (Or.inr (Or.inr (Or.inr (Or.inl ⟨rfl, rfl⟩)))) h52 O52 (E_DEASSIGN.ext O52) (F_DEASSIGN_ordinal.ext O52)) 0 (by decide) (by decide) (by decide) (by decide) (g := (mkF m 106 #[.val (.int p1), .val (.ref b32), .val (.int (2 : Int32)), .val (.ref w_ASSIGN), .val (.ref w_DEASSIGN), .val (.ref w_DEASSIGN)] [(.ref w_DEASSIGN)])) rfl (by rw [hml]; rfl) [] [] rfl (lenOf pd_28917 rfl) rfl (by show 2 * 0 + _ ≤ _; exact Nat.le_of_eq rfl) (hb hby at_106)
    have N68 := Fr.app N67 Nq68
    refine Go.st (S' := T68.setTop (mkF m 109 #[.val (.int p1), .val (.ref b32), .val (.int (2 : Int32)), .val (.ref w_ASSIGN), .val (.ref w_DEASSIGN), .val (.ref w_DEASSIGN)] [(.ref w_ASSIGN)])) st68 ?_
    refine Go.st (S' := T68.setTop (mkF m 110 #[.val (.int p1), .val (.ref b32), .val (.int (2 : Int32)), .val (.ref w_ASSIGN), .val (.ref w_DEASSIGN), .val (.ref w_DEASSIGN)] [(.ref w_ASSIGN), (.ref w_ASSIGN)])) (fun _ k => XS.aloadN X68.here hx rfl (hb hby at_109) rfl rfl k) ?_
    refine Go.st (S' := T68.setTop (mkF m 115 #[.val (.int p1), .val (.ref b32), .val (.int (2 : Int32)), .val (.ref w_ASSIGN), .val (.ref w_DEASSIGN), .val (.ref w_DEASSIGN)] [])) (fun _ k => Jvm.RoadKit.acmp (g := (mkF m 110 #[.val (.int p1), .val (.ref b32), .val (.int (2 : Int32)), .val (.ref w_ASSIGN), .val (.ref w_DEASSIGN), .val (.ref w_DEASSIGN)] [(.ref w_ASSIGN), (.ref w_ASSIGN)])) X68 hx rfl rfl rfl (pc0 := 110) (pc' := 115) (same := true) rfl (hb hby at_110) rfl (decide_eq_true rfl) (by decide) (by decide) k) ?_
    refine Go.st (S' := T68.setTop (mkF m 117 #[.val (.int p1), .val (.ref b32), .val (.int (2 : Int32)), .val (.ref w_ASSIGN), .val (.ref w_DEASSIGN), .val (.ref w_DEASSIGN)] [(.ref w_DEASSIGN)])) (fun _ k => XS.aload X68.here hx rfl (hb hby at_115) rfl rfl k) ?_
    obtain ⟨_, T69, L69, X69, ⟨rfl, Nq69, eq69⟩, st69⟩ := own_callV X68 hx hZ hown (ww hw 41 rfl) (ww hw 42 rfl) (notFace_of_selects (args := #[]) (mvT hZ (ww hw 44 rfl))) (ww hw 44 rfl) (ww hw 43 rfl) (ww hw 3 rfl) (ww hw 45 rfl) (by decide) eq68 (E_DEASSIGN.ext O52) (rm3 l Z a0 hw [] w_ENABLE w_DISABLE w_ASSIGN w_DEASSIGN w_GRANT w_REVOKE w_ACTIVATE w_DEACTIVATE w_ENABLE_CONSTRAINT w_DISABLE_CONSTRAINT hS w_DEASSIGN 3 1 (Or.inr (Or.inr (Or.inr (Or.inl ⟨rfl, rfl⟩)))) h52 O52 (E_DEASSIGN.ext O52) (F_DEASSIGN_ordinal.ext O52)) 0 (by decide) (by decide) (by decide) (by decide) (g := (mkF m 117 #[.val (.int p1), .val (.ref b32), .val (.int (2 : Int32)), .val (.ref w_ASSIGN), .val (.ref w_DEASSIGN), .val (.ref w_DEASSIGN)] [(.ref w_DEASSIGN)])) rfl (by rw [hml]; rfl) [] [] rfl (lenOf pd_428490 rfl) rfl (by show 2 * 0 + _ ≤ _; exact Nat.le_of_eq rfl) (hb hby at_117)
    have N69 := Fr.app N68 Nq69
    refine Go.st (S' := T69.setTop (mkF m 120 #[.val (.int p1), .val (.ref b32), .val (.int (2 : Int32)), .val (.ref w_ASSIGN), .val (.ref w_DEASSIGN), .val (.ref w_DEASSIGN)] [(.int (1 : Int32))])) st69 ?_
    refine Go.st (S' := T69.setTop (mkF m 121 #[.val (.int p1), .val (.ref b32), .val (.int (2 : Int32)), .val (.ref w_ASSIGN), .val (.ref w_DEASSIGN), .val (.ref w_DEASSIGN)] [(.ref w_ASSIGN), (.int (1 : Int32))])) (fun _ k => XS.aloadN X69.here hx rfl (hb hby at_120) rfl rfl k) ?_
    obtain ⟨_, T70, L70, X70, ⟨rfl, Nq70, eq70⟩, st70⟩ := own_callV X69 hx hZ hown (ww hw 41 rfl) (ww hw 42 rfl) (notFace_of_selects (args := #[]) (mvT hZ (ww hw 44 rfl))) (ww hw 44 rfl) (ww hw 43 rfl) (ww hw 3 rfl) (ww hw 45 rfl) (by decide) eq69 (E_ASSIGN.ext O52) (rm3 l Z a0 hw [] w_ENABLE w_DISABLE w_ASSIGN w_DEASSIGN w_GRANT w_REVOKE w_ACTIVATE w_DEACTIVATE w_ENABLE_CONSTRAINT w_DISABLE_CONSTRAINT hS w_ASSIGN 2 0 (Or.inr (Or.inr (Or.inl ⟨rfl, rfl⟩))) h52 O52 (E_ASSIGN.ext O52) (F_ASSIGN_ordinal.ext O52)) 1 (by decide) (by decide) (by decide) (by decide) (g := (mkF m 121 #[.val (.int p1), .val (.ref b32), .val (.int (2 : Int32)), .val (.ref w_ASSIGN), .val (.ref w_DEASSIGN), .val (.ref w_DEASSIGN)] [(.ref w_ASSIGN), (.int (1 : Int32))])) rfl (by rw [hml]; rfl) [] [(.int (1 : Int32))] rfl (lenOf pd_428490 rfl) rfl (by show 2 * 0 + _ ≤ _; exact Nat.le_of_eq rfl) (hb hby at_121)
    have N70 := Fr.app N69 Nq70
    refine Go.st (S' := T70.setTop (mkF m 124 #[.val (.int p1), .val (.ref b32), .val (.int (2 : Int32)), .val (.ref w_ASSIGN), .val (.ref w_DEASSIGN), .val (.ref w_DEASSIGN)] [(.int (0 : Int32)), (.int (1 : Int32))])) st70 ?_
    refine Go.st (S' := T70.setTop (mkF m 127 #[.val (.int p1), .val (.ref b32), .val (.int (2 : Int32)), .val (.ref w_ASSIGN), .val (.ref w_DEASSIGN), .val (.ref w_DEASSIGN)] [])) (fun _ k => XS.icmpNo X70.here hx rfl (hb hby at_124) rfl (feq (by decide)).1 k) ?_
    refine Go.st (S' := T70.setTop (mkF m 128 #[.val (.int p1), .val (.ref b32), .val (.int (2 : Int32)), .val (.ref w_ASSIGN), .val (.ref w_DEASSIGN), .val (.ref w_DEASSIGN)] [(.int (1 : Int32))])) (fun _ k => XS.iconst X70.here hx rfl (hb hby at_127) k) ?_
    refine Go.st (S' := T70.setTop (mkF m 132 #[.val (.int p1), .val (.ref b32), .val (.int (2 : Int32)), .val (.ref w_ASSIGN), .val (.ref w_DEASSIGN), .val (.ref w_DEASSIGN)] [(.int (1 : Int32))])) (fun _ k => XS.goto X70.here hx rfl (pc0 := 128) (pc' := 132) rfl (hb hby at_128) (by decide) (by decide) k) ?_
    exact own_retN X70 hx hlk hret (by simp) (hb hby at_132) eq70 ⟨rfl, N70⟩ (by decide) (by decide)
  · refine Go.st (S' := T52.setTop (mkF m 77 #[.val (.int p1), .val (.ref b32), .unset, .unset, .unset, .unset] [(.int (3 : Int32))])) (fun _ k => by rw [hk]; exact k) ?_
    refine Go.st (S' := T52.setTop (mkF m 78 #[.val (.int p1), .val (.ref b32), .val (.int (3 : Int32)), .unset, .unset, .unset] [])) (fun _ k => XS.istoreN X52.here hx rfl (hb hby at_77) rfl (l' := #[.val (.int p1), .val (.ref b32), .val (.int (3 : Int32)), .unset, .unset, .unset]) rfl k) ?_
    refine Go.st (S' := T52.setTop (mkF m 79 #[.val (.int p1), .val (.ref b32), .val (.int (3 : Int32)), .unset, .unset, .unset] [(.ref b32)])) (fun _ k => XS.aloadN X52.here hx rfl (hb hby at_78) rfl rfl k) ?_
    refine Go.st (S' := T52.setTop (mkF m 80 #[.val (.int p1), .val (.ref b32), .val (.int (3 : Int32)), .unset, .unset, .unset] [(.int (3 : Int32)), (.ref b32)])) (fun _ k => XS.iloadN X52.here hx rfl (hb hby at_79) rfl k) ?_
    refine Go.st (S' := T52.setTop (mkF m 81 #[.val (.int p1), .val (.ref b32), .val (.int (3 : Int32)), .unset, .unset, .unset] [(.ref w_DEASSIGN)])) (own_ldR X52 hx hZ e52 V52 rfl ⟨by decide, by decide⟩ rfl (g := (mkF m 80 #[.val (.int p1), .val (.ref b32), .val (.int (3 : Int32)), .unset, .unset, .unset] [(.int (3 : Int32)), (.ref b32)])) rfl rfl (hb hby at_80)) ?_
    refine Go.st (S' := T52.setTop (mkF m 82 #[.val (.int p1), .val (.ref b32), .val (.int (3 : Int32)), .val (.ref w_DEASSIGN), .unset, .unset] [])) (fun _ k => XS.astoreN X52.here hx rfl (hb hby at_81) rfl rfl (l' := #[.val (.int p1), .val (.ref b32), .val (.int (3 : Int32)), .val (.ref w_DEASSIGN), .unset, .unset]) rfl k) ?_
    refine Go.st (S' := T52.setTop (mkF m 83 #[.val (.int p1), .val (.ref b32), .val (.int (3 : Int32)), .val (.ref w_DEASSIGN), .unset, .unset] [(.ref b32)])) (fun _ k => XS.aloadN X52.here hx rfl (hb hby at_82) rfl rfl k) ?_
    refine Go.st (S' := T52.setTop (mkF m 84 #[.val (.int p1), .val (.ref b32), .val (.int (3 : Int32)), .val (.ref w_DEASSIGN), .unset, .unset] [(.int (3 : Int32)), (.ref b32)])) (fun _ k => XS.iloadN X52.here hx rfl (hb hby at_83) rfl k) ?_
    refine Go.st (S' := T52.setTop (mkF m 85 #[.val (.int p1), .val (.ref b32), .val (.int (3 : Int32)), .val (.ref w_DEASSIGN), .unset, .unset] [(.int (1 : Int32)), (.int (3 : Int32)), (.ref b32)])) (fun _ k => XS.iconst X52.here hx rfl (hb hby at_84) k) ?_
    refine Go.st (S' := T52.setTop (mkF m 86 #[.val (.int p1), .val (.ref b32), .val (.int (3 : Int32)), .val (.ref w_DEASSIGN), .unset, .unset] [(.int (2 : Int32)), (.ref b32)])) (fun _ k => XS.ixor X52.here hx rfl (hb hby at_85) rfl k) ?_
    refine Go.st (S' := T52.setTop (mkF m 87 #[.val (.int p1), .val (.ref b32), .val (.int (3 : Int32)), .val (.ref w_DEASSIGN), .unset, .unset] [(.ref w_ASSIGN)])) (own_ldR X52 hx hZ e52 V52 rfl ⟨by decide, by decide⟩ rfl (g := (mkF m 86 #[.val (.int p1), .val (.ref b32), .val (.int (3 : Int32)), .val (.ref w_DEASSIGN), .unset, .unset] [(.int (2 : Int32)), (.ref b32)])) rfl rfl (hb hby at_86)) ?_
    refine Go.st (S' := T52.setTop (mkF m 89 #[.val (.int p1), .val (.ref b32), .val (.int (3 : Int32)), .val (.ref w_DEASSIGN), .val (.ref w_ASSIGN), .unset] [])) (fun _ k => XS.astore X52.here hx rfl (hb hby at_87) rfl rfl (l' := #[.val (.int p1), .val (.ref b32), .val (.int (3 : Int32)), .val (.ref w_DEASSIGN), .val (.ref w_ASSIGN), .unset]) rfl k) ?_
    refine Go.st (S' := T52.setTop (mkF m 90 #[.val (.int p1), .val (.ref b32), .val (.int (3 : Int32)), .val (.ref w_DEASSIGN), .val (.ref w_ASSIGN), .unset] [(.ref w_DEASSIGN)])) (fun _ k => XS.aloadN X52.here hx rfl (hb hby at_89) rfl rfl k) ?_
    obtain ⟨_, T73, L73, X73, ⟨rfl, Nq73, eq73⟩, st73⟩ := own_callV X52 hx hZ hown (ww hw 25 rfl) (ww hw 26 rfl) (notFace_of_selects (args := #[]) (mvT hZ (ww hw 28 rfl))) (ww hw 28 rfl) (ww hw 27 rfl) (ww hw 3 rfl) (ww hw 29 rfl) (by decide) e52 (E_DEASSIGN.ext O52) (rm1 l Z a0 hw [] w_ENABLE w_DISABLE w_ASSIGN w_DEASSIGN w_GRANT w_REVOKE w_ACTIVATE w_DEACTIVATE w_ENABLE_CONSTRAINT w_DISABLE_CONSTRAINT hS w_DEASSIGN 3 w_ASSIGN (Or.inr (Or.inr (Or.inr (Or.inl ⟨rfl, rfl⟩)))) h52 O52 (E_DEASSIGN.ext O52) (F_DEASSIGN_ordinal.ext O52)) 0 (by decide) (by decide) (by decide) (by decide) (g := (mkF m 90 #[.val (.int p1), .val (.ref b32), .val (.int (3 : Int32)), .val (.ref w_DEASSIGN), .val (.ref w_ASSIGN), .unset] [(.ref w_DEASSIGN)])) rfl (by rw [hml]; rfl) [] [] rfl (lenOf pd_28917 rfl) rfl (by show 2 * 0 + _ ≤ _; exact Nat.le_of_eq rfl) (hb hby at_90)
    have N73 := Fr.app N52 Nq73
    refine Go.st (S' := T73.setTop (mkF m 93 #[.val (.int p1), .val (.ref b32), .val (.int (3 : Int32)), .val (.ref w_DEASSIGN), .val (.ref w_ASSIGN), .unset] [(.ref w_ASSIGN)])) st73 ?_
    refine Go.st (S' := T73.setTop (mkF m 95 #[.val (.int p1), .val (.ref b32), .val (.int (3 : Int32)), .val (.ref w_DEASSIGN), .val (.ref w_ASSIGN), .val (.ref w_ASSIGN)] [])) (fun _ k => XS.astore X73.here hx rfl (hb hby at_93) rfl rfl (l' := #[.val (.int p1), .val (.ref b32), .val (.int (3 : Int32)), .val (.ref w_DEASSIGN), .val (.ref w_ASSIGN), .val (.ref w_ASSIGN)]) rfl k) ?_
    refine Go.st (S' := T73.setTop (mkF m 97 #[.val (.int p1), .val (.ref b32), .val (.int (3 : Int32)), .val (.ref w_DEASSIGN), .val (.ref w_ASSIGN), .val (.ref w_ASSIGN)] [(.ref w_ASSIGN)])) (fun _ k => XS.aload X73.here hx rfl (hb hby at_95) rfl rfl k) ?_
    refine Go.st (S' := T73.setTop (mkF m 99 #[.val (.int p1), .val (.ref b32), .val (.int (3 : Int32)), .val (.ref w_DEASSIGN), .val (.ref w_ASSIGN), .val (.ref w_ASSIGN)] [(.ref w_ASSIGN), (.ref w_ASSIGN)])) (fun _ k => XS.aload X73.here hx rfl (hb hby at_97) rfl rfl k) ?_
    refine Go.st (S' := T73.setTop (mkF m 104 #[.val (.int p1), .val (.ref b32), .val (.int (3 : Int32)), .val (.ref w_DEASSIGN), .val (.ref w_ASSIGN), .val (.ref w_ASSIGN)] [])) (fun _ k => Jvm.RoadKit.acmp (g := (mkF m 99 #[.val (.int p1), .val (.ref b32), .val (.int (3 : Int32)), .val (.ref w_DEASSIGN), .val (.ref w_ASSIGN), .val (.ref w_ASSIGN)] [(.ref w_ASSIGN), (.ref w_ASSIGN)])) X73 hx rfl rfl rfl (pc0 := 99) (pc' := 104) (same := true) rfl (hb hby at_99) rfl (decide_eq_true rfl) (by decide) (by decide) k) ?_
    refine Go.st (S' := T73.setTop (mkF m 106 #[.val (.int p1), .val (.ref b32), .val (.int (3 : Int32)), .val (.ref w_DEASSIGN), .val (.ref w_ASSIGN), .val (.ref w_ASSIGN)] [(.ref w_ASSIGN)])) (fun _ k => XS.aload X73.here hx rfl (hb hby at_104) rfl rfl k) ?_
    obtain ⟨_, T74, L74, X74, ⟨rfl, Nq74, eq74⟩, st74⟩ := own_callV X73 hx hZ hown (ww hw 25 rfl) (ww hw 26 rfl) (notFace_of_selects (args := #[]) (mvT hZ (ww hw 28 rfl))) (ww hw 28 rfl) (ww hw 27 rfl) (ww hw 3 rfl) (ww hw 29 rfl) (by decide) eq73 (E_ASSIGN.ext O52) (rm1 l Z a0 hw [] w_ENABLE w_DISABLE w_ASSIGN w_DEASSIGN w_GRANT w_REVOKE w_ACTIVATE w_DEACTIVATE w_ENABLE_CONSTRAINT w_DISABLE_CONSTRAINT hS w_ASSIGN 2 w_DEASSIGN (Or.inr (Or.inr (Or.inl ⟨rfl, rfl⟩))) h52 O52 (E_ASSIGN.ext O52) (F_ASSIGN_ordinal.ext O52)) 0 (by decide) (by decide) (by decide) (by decide) (g := (mkF m 106 #[.val (.int p1), .val (.ref b32), .val (.int (3 : Int32)), .val (.ref w_DEASSIGN), .val (.ref w_ASSIGN), .val (.ref w_ASSIGN)] [(.ref w_ASSIGN)])) rfl (by rw [hml]; rfl) [] [] rfl (lenOf pd_28917 rfl) rfl (by show 2 * 0 + _ ≤ _; exact Nat.le_of_eq rfl) (hb hby at_106)
    have N74 := Fr.app N73 Nq74
    refine Go.st (S' := T74.setTop (mkF m 109 #[.val (.int p1), .val (.ref b32), .val (.int (3 : Int32)), .val (.ref w_DEASSIGN), .val (.ref w_ASSIGN), .val (.ref w_ASSIGN)] [(.ref w_DEASSIGN)])) st74 ?_
    refine Go.st (S' := T74.setTop (mkF m 110 #[.val (.int p1), .val (.ref b32), .val (.int (3 : Int32)), .val (.ref w_DEASSIGN), .val (.ref w_ASSIGN), .val (.ref w_ASSIGN)] [(.ref w_DEASSIGN), (.ref w_DEASSIGN)])) (fun _ k => XS.aloadN X74.here hx rfl (hb hby at_109) rfl rfl k) ?_
    refine Go.st (S' := T74.setTop (mkF m 115 #[.val (.int p1), .val (.ref b32), .val (.int (3 : Int32)), .val (.ref w_DEASSIGN), .val (.ref w_ASSIGN), .val (.ref w_ASSIGN)] [])) (fun _ k => Jvm.RoadKit.acmp (g := (mkF m 110 #[.val (.int p1), .val (.ref b32), .val (.int (3 : Int32)), .val (.ref w_DEASSIGN), .val (.ref w_ASSIGN), .val (.ref w_ASSIGN)] [(.ref w_DEASSIGN), (.ref w_DEASSIGN)])) X74 hx rfl rfl rfl (pc0 := 110) (pc' := 115) (same := true) rfl (hb hby at_110) rfl (decide_eq_true rfl) (by decide) (by decide) k) ?_
    refine Go.st (S' := T74.setTop (mkF m 117 #[.val (.int p1), .val (.ref b32), .val (.int (3 : Int32)), .val (.ref w_DEASSIGN), .val (.ref w_ASSIGN), .val (.ref w_ASSIGN)] [(.ref w_ASSIGN)])) (fun _ k => XS.aload X74.here hx rfl (hb hby at_115) rfl rfl k) ?_
    obtain ⟨_, T75, L75, X75, ⟨rfl, Nq75, eq75⟩, st75⟩ := own_callV X74 hx hZ hown (ww hw 41 rfl) (ww hw 42 rfl) (notFace_of_selects (args := #[]) (mvT hZ (ww hw 44 rfl))) (ww hw 44 rfl) (ww hw 43 rfl) (ww hw 3 rfl) (ww hw 45 rfl) (by decide) eq74 (E_ASSIGN.ext O52) (rm3 l Z a0 hw [] w_ENABLE w_DISABLE w_ASSIGN w_DEASSIGN w_GRANT w_REVOKE w_ACTIVATE w_DEACTIVATE w_ENABLE_CONSTRAINT w_DISABLE_CONSTRAINT hS w_ASSIGN 2 0 (Or.inr (Or.inr (Or.inl ⟨rfl, rfl⟩))) h52 O52 (E_ASSIGN.ext O52) (F_ASSIGN_ordinal.ext O52)) 0 (by decide) (by decide) (by decide) (by decide) (g := (mkF m 117 #[.val (.int p1), .val (.ref b32), .val (.int (3 : Int32)), .val (.ref w_DEASSIGN), .val (.ref w_ASSIGN), .val (.ref w_ASSIGN)] [(.ref w_ASSIGN)])) rfl (by rw [hml]; rfl) [] [] rfl (lenOf pd_428490 rfl) rfl (by show 2 * 0 + _ ≤ _; exact Nat.le_of_eq rfl) (hb hby at_117)
    have N75 := Fr.app N74 Nq75
    refine Go.st (S' := T75.setTop (mkF m 120 #[.val (.int p1), .val (.ref b32), .val (.int (3 : Int32)), .val (.ref w_DEASSIGN), .val (.ref w_ASSIGN), .val (.ref w_ASSIGN)] [(.int (0 : Int32))])) st75 ?_
    refine Go.st (S' := T75.setTop (mkF m 121 #[.val (.int p1), .val (.ref b32), .val (.int (3 : Int32)), .val (.ref w_DEASSIGN), .val (.ref w_ASSIGN), .val (.ref w_ASSIGN)] [(.ref w_DEASSIGN), (.int (0 : Int32))])) (fun _ k => XS.aloadN X75.here hx rfl (hb hby at_120) rfl rfl k) ?_
    obtain ⟨_, T76, L76, X76, ⟨rfl, Nq76, eq76⟩, st76⟩ := own_callV X75 hx hZ hown (ww hw 41 rfl) (ww hw 42 rfl) (notFace_of_selects (args := #[]) (mvT hZ (ww hw 44 rfl))) (ww hw 44 rfl) (ww hw 43 rfl) (ww hw 3 rfl) (ww hw 45 rfl) (by decide) eq75 (E_DEASSIGN.ext O52) (rm3 l Z a0 hw [] w_ENABLE w_DISABLE w_ASSIGN w_DEASSIGN w_GRANT w_REVOKE w_ACTIVATE w_DEACTIVATE w_ENABLE_CONSTRAINT w_DISABLE_CONSTRAINT hS w_DEASSIGN 3 1 (Or.inr (Or.inr (Or.inr (Or.inl ⟨rfl, rfl⟩)))) h52 O52 (E_DEASSIGN.ext O52) (F_DEASSIGN_ordinal.ext O52)) 1 (by decide) (by decide) (by decide) (by decide) (g := (mkF m 121 #[.val (.int p1), .val (.ref b32), .val (.int (3 : Int32)), .val (.ref w_DEASSIGN), .val (.ref w_ASSIGN), .val (.ref w_ASSIGN)] [(.ref w_DEASSIGN), (.int (0 : Int32))])) rfl (by rw [hml]; rfl) [] [(.int (0 : Int32))] rfl (lenOf pd_428490 rfl) rfl (by show 2 * 0 + _ ≤ _; exact Nat.le_of_eq rfl) (hb hby at_121)
    have N76 := Fr.app N75 Nq76
    refine Go.st (S' := T76.setTop (mkF m 124 #[.val (.int p1), .val (.ref b32), .val (.int (3 : Int32)), .val (.ref w_DEASSIGN), .val (.ref w_ASSIGN), .val (.ref w_ASSIGN)] [(.int (1 : Int32)), (.int (0 : Int32))])) st76 ?_
    refine Go.st (S' := T76.setTop (mkF m 127 #[.val (.int p1), .val (.ref b32), .val (.int (3 : Int32)), .val (.ref w_DEASSIGN), .val (.ref w_ASSIGN), .val (.ref w_ASSIGN)] [])) (fun _ k => XS.icmpNo X76.here hx rfl (hb hby at_124) rfl (feq (by decide)).1 k) ?_
    refine Go.st (S' := T76.setTop (mkF m 128 #[.val (.int p1), .val (.ref b32), .val (.int (3 : Int32)), .val (.ref w_DEASSIGN), .val (.ref w_ASSIGN), .val (.ref w_ASSIGN)] [(.int (1 : Int32))])) (fun _ k => XS.iconst X76.here hx rfl (hb hby at_127) k) ?_
    refine Go.st (S' := T76.setTop (mkF m 132 #[.val (.int p1), .val (.ref b32), .val (.int (3 : Int32)), .val (.ref w_DEASSIGN), .val (.ref w_ASSIGN), .val (.ref w_ASSIGN)] [(.int (1 : Int32))])) (fun _ k => XS.goto X76.here hx rfl (pc0 := 128) (pc' := 132) rfl (hb hby at_128) (by decide) (by decide) k) ?_
    exact own_retN X76 hx hlk hret (by simp) (hb hby at_132) eq76 ⟨rfl, N76⟩ (by decide) (by decide)
  · refine Go.st (S' := T52.setTop (mkF m 77 #[.val (.int p1), .val (.ref b32), .unset, .unset, .unset, .unset] [(.int (4 : Int32))])) (fun _ k => by rw [hk]; exact k) ?_
    refine Go.st (S' := T52.setTop (mkF m 78 #[.val (.int p1), .val (.ref b32), .val (.int (4 : Int32)), .unset, .unset, .unset] [])) (fun _ k => XS.istoreN X52.here hx rfl (hb hby at_77) rfl (l' := #[.val (.int p1), .val (.ref b32), .val (.int (4 : Int32)), .unset, .unset, .unset]) rfl k) ?_
    refine Go.st (S' := T52.setTop (mkF m 79 #[.val (.int p1), .val (.ref b32), .val (.int (4 : Int32)), .unset, .unset, .unset] [(.ref b32)])) (fun _ k => XS.aloadN X52.here hx rfl (hb hby at_78) rfl rfl k) ?_
    refine Go.st (S' := T52.setTop (mkF m 80 #[.val (.int p1), .val (.ref b32), .val (.int (4 : Int32)), .unset, .unset, .unset] [(.int (4 : Int32)), (.ref b32)])) (fun _ k => XS.iloadN X52.here hx rfl (hb hby at_79) rfl k) ?_
    refine Go.st (S' := T52.setTop (mkF m 81 #[.val (.int p1), .val (.ref b32), .val (.int (4 : Int32)), .unset, .unset, .unset] [(.ref w_GRANT)])) (own_ldR X52 hx hZ e52 V52 rfl ⟨by decide, by decide⟩ rfl (g := (mkF m 80 #[.val (.int p1), .val (.ref b32), .val (.int (4 : Int32)), .unset, .unset, .unset] [(.int (4 : Int32)), (.ref b32)])) rfl rfl (hb hby at_80)) ?_
    refine Go.st (S' := T52.setTop (mkF m 82 #[.val (.int p1), .val (.ref b32), .val (.int (4 : Int32)), .val (.ref w_GRANT), .unset, .unset] [])) (fun _ k => XS.astoreN X52.here hx rfl (hb hby at_81) rfl rfl (l' := #[.val (.int p1), .val (.ref b32), .val (.int (4 : Int32)), .val (.ref w_GRANT), .unset, .unset]) rfl k) ?_
    refine Go.st (S' := T52.setTop (mkF m 83 #[.val (.int p1), .val (.ref b32), .val (.int (4 : Int32)), .val (.ref w_GRANT), .unset, .unset] [(.ref b32)])) (fun _ k => XS.aloadN X52.here hx rfl (hb hby at_82) rfl rfl k) ?_
    refine Go.st (S' := T52.setTop (mkF m 84 #[.val (.int p1), .val (.ref b32), .val (.int (4 : Int32)), .val (.ref w_GRANT), .unset, .unset] [(.int (4 : Int32)), (.ref b32)])) (fun _ k => XS.iloadN X52.here hx rfl (hb hby at_83) rfl k) ?_
    refine Go.st (S' := T52.setTop (mkF m 85 #[.val (.int p1), .val (.ref b32), .val (.int (4 : Int32)), .val (.ref w_GRANT), .unset, .unset] [(.int (1 : Int32)), (.int (4 : Int32)), (.ref b32)])) (fun _ k => XS.iconst X52.here hx rfl (hb hby at_84) k) ?_
    refine Go.st (S' := T52.setTop (mkF m 86 #[.val (.int p1), .val (.ref b32), .val (.int (4 : Int32)), .val (.ref w_GRANT), .unset, .unset] [(.int (5 : Int32)), (.ref b32)])) (fun _ k => XS.ixor X52.here hx rfl (hb hby at_85) rfl k) ?_
    refine Go.st (S' := T52.setTop (mkF m 87 #[.val (.int p1), .val (.ref b32), .val (.int (4 : Int32)), .val (.ref w_GRANT), .unset, .unset] [(.ref w_REVOKE)])) (own_ldR X52 hx hZ e52 V52 rfl ⟨by decide, by decide⟩ rfl (g := (mkF m 86 #[.val (.int p1), .val (.ref b32), .val (.int (4 : Int32)), .val (.ref w_GRANT), .unset, .unset] [(.int (5 : Int32)), (.ref b32)])) rfl rfl (hb hby at_86)) ?_
    refine Go.st (S' := T52.setTop (mkF m 89 #[.val (.int p1), .val (.ref b32), .val (.int (4 : Int32)), .val (.ref w_GRANT), .val (.ref w_REVOKE), .unset] [])) (fun _ k => XS.astore X52.here hx rfl (hb hby at_87) rfl rfl (l' := #[.val (.int p1), .val (.ref b32), .val (.int (4 : Int32)), .val (.ref w_GRANT), .val (.ref w_REVOKE), .unset]) rfl k) ?_
    refine Go.st (S' := T52.setTop (mkF m 90 #[.val (.int p1), .val (.ref b32), .val (.int (4 : Int32)), .val (.ref w_GRANT), .val (.ref w_REVOKE), .unset] [(.ref w_GRANT)])) (fun _ k => XS.aloadN X52.here hx rfl (hb hby at_89) rfl rfl k) ?_
    obtain ⟨_, T79, L79, X79, ⟨rfl, Nq79, eq79⟩, st79⟩ := own_callV X52 hx hZ hown (ww hw 25 rfl) (ww hw 26 rfl) (notFace_of_selects (args := #[]) (mvT hZ (ww hw 28 rfl))) (ww hw 28 rfl) (ww hw 27 rfl) (ww hw 3 rfl) (ww hw 29 rfl) (by decide) e52 (E_GRANT.ext O52) (rm1 l Z a0 hw [] w_ENABLE w_DISABLE w_ASSIGN w_DEASSIGN w_GRANT w_REVOKE w_ACTIVATE w_DEACTIVATE w_ENABLE_CONSTRAINT w_DISABLE_CONSTRAINT hS w_GRANT 4 w_REVOKE (Or.inr (Or.inr (Or.inr (Or.inr (Or.inl ⟨rfl, rfl⟩))))) h52 O52 (E_GRANT.ext O52) (F_GRANT_ordinal.ext O52)) 0 (by decide) (by decide) (by decide) (by decide) (g := (mkF m 90 #[.val (.int p1), .val (.ref b32), .val (.int (4 : Int32)), .val (.ref w_GRANT), .val (.ref w_REVOKE), .unset] [(.ref w_GRANT)])) rfl (by rw [hml]; rfl) [] [] rfl (lenOf pd_28917 rfl) rfl (by show 2 * 0 + _ ≤ _; exact Nat.le_of_eq rfl) (hb hby at_90)
    have N79 := Fr.app N52 Nq79
    refine Go.st (S' := T79.setTop (mkF m 93 #[.val (.int p1), .val (.ref b32), .val (.int (4 : Int32)), .val (.ref w_GRANT), .val (.ref w_REVOKE), .unset] [(.ref w_REVOKE)])) st79 ?_
    refine Go.st (S' := T79.setTop (mkF m 95 #[.val (.int p1), .val (.ref b32), .val (.int (4 : Int32)), .val (.ref w_GRANT), .val (.ref w_REVOKE), .val (.ref w_REVOKE)] [])) (fun _ k => XS.astore X79.here hx rfl (hb hby at_93) rfl rfl (l' := #[.val (.int p1), .val (.ref b32), .val (.int (4 : Int32)), .val (.ref w_GRANT), .val (.ref w_REVOKE), .val (.ref w_REVOKE)]) rfl k) ?_
    refine Go.st (S' := T79.setTop (mkF m 97 #[.val (.int p1), .val (.ref b32), .val (.int (4 : Int32)), .val (.ref w_GRANT), .val (.ref w_REVOKE), .val (.ref w_REVOKE)] [(.ref w_REVOKE)])) (fun _ k => XS.aload X79.here hx rfl (hb hby at_95) rfl rfl k) ?_
    refine Go.st (S' := T79.setTop (mkF m 99 #[.val (.int p1), .val (.ref b32), .val (.int (4 : Int32)), .val (.ref w_GRANT), .val (.ref w_REVOKE), .val (.ref w_REVOKE)] [(.ref w_REVOKE), (.ref w_REVOKE)])) (fun _ k => XS.aload X79.here hx rfl (hb hby at_97) rfl rfl k) ?_
    refine Go.st (S' := T79.setTop (mkF m 104 #[.val (.int p1), .val (.ref b32), .val (.int (4 : Int32)), .val (.ref w_GRANT), .val (.ref w_REVOKE), .val (.ref w_REVOKE)] [])) (fun _ k => Jvm.RoadKit.acmp (g := (mkF m 99 #[.val (.int p1), .val (.ref b32), .val (.int (4 : Int32)), .val (.ref w_GRANT), .val (.ref w_REVOKE), .val (.ref w_REVOKE)] [(.ref w_REVOKE), (.ref w_REVOKE)])) X79 hx rfl rfl rfl (pc0 := 99) (pc' := 104) (same := true) rfl (hb hby at_99) rfl (decide_eq_true rfl) (by decide) (by decide) k) ?_
    refine Go.st (S' := T79.setTop (mkF m 106 #[.val (.int p1), .val (.ref b32), .val (.int (4 : Int32)), .val (.ref w_GRANT), .val (.ref w_REVOKE), .val (.ref w_REVOKE)] [(.ref w_REVOKE)])) (fun _ k => XS.aload X79.here hx rfl (hb hby at_104) rfl rfl k) ?_
    obtain ⟨_, T80, L80, X80, ⟨rfl, Nq80, eq80⟩, st80⟩ := own_callV X79 hx hZ hown (ww hw 25 rfl) (ww hw 26 rfl) (notFace_of_selects (args := #[]) (mvT hZ (ww hw 28 rfl))) (ww hw 28 rfl) (ww hw 27 rfl) (ww hw 3 rfl) (ww hw 29 rfl) (by decide) eq79 (E_REVOKE.ext O52) (rm1 l Z a0 hw [] w_ENABLE w_DISABLE w_ASSIGN w_DEASSIGN w_GRANT w_REVOKE w_ACTIVATE w_DEACTIVATE w_ENABLE_CONSTRAINT w_DISABLE_CONSTRAINT hS w_REVOKE 5 w_GRANT (Or.inr (Or.inr (Or.inr (Or.inr (Or.inr (Or.inl ⟨rfl, rfl⟩)))))) h52 O52 (E_REVOKE.ext O52) (F_REVOKE_ordinal.ext O52)) 0 (by decide) (by decide) (by decide) (by decide) (g := (mkF m 106 #[.val (.int p1), .val (.ref b32), .val (.int (4 : Int32)), .val (.ref w_GRANT), .val (.ref w_REVOKE), .val (.ref w_REVOKE)] [(.ref w_REVOKE)])) rfl (by rw [hml]; rfl) [] [] rfl (lenOf pd_28917 rfl) rfl (by show 2 * 0 + _ ≤ _; exact Nat.le_of_eq rfl) (hb hby at_106)
    have N80 := Fr.app N79 Nq80
    refine Go.st (S' := T80.setTop (mkF m 109 #[.val (.int p1), .val (.ref b32), .val (.int (4 : Int32)), .val (.ref w_GRANT), .val (.ref w_REVOKE), .val (.ref w_REVOKE)] [(.ref w_GRANT)])) st80 ?_
    refine Go.st (S' := T80.setTop (mkF m 110 #[.val (.int p1), .val (.ref b32), .val (.int (4 : Int32)), .val (.ref w_GRANT), .val (.ref w_REVOKE), .val (.ref w_REVOKE)] [(.ref w_GRANT), (.ref w_GRANT)])) (fun _ k => XS.aloadN X80.here hx rfl (hb hby at_109) rfl rfl k) ?_
    refine Go.st (S' := T80.setTop (mkF m 115 #[.val (.int p1), .val (.ref b32), .val (.int (4 : Int32)), .val (.ref w_GRANT), .val (.ref w_REVOKE), .val (.ref w_REVOKE)] [])) (fun _ k => Jvm.RoadKit.acmp (g := (mkF m 110 #[.val (.int p1), .val (.ref b32), .val (.int (4 : Int32)), .val (.ref w_GRANT), .val (.ref w_REVOKE), .val (.ref w_REVOKE)] [(.ref w_GRANT), (.ref w_GRANT)])) X80 hx rfl rfl rfl (pc0 := 110) (pc' := 115) (same := true) rfl (hb hby at_110) rfl (decide_eq_true rfl) (by decide) (by decide) k) ?_
    refine Go.st (S' := T80.setTop (mkF m 117 #[.val (.int p1), .val (.ref b32), .val (.int (4 : Int32)), .val (.ref w_GRANT), .val (.ref w_REVOKE), .val (.ref w_REVOKE)] [(.ref w_REVOKE)])) (fun _ k => XS.aload X80.here hx rfl (hb hby at_115) rfl rfl k) ?_
    obtain ⟨_, T81, L81, X81, ⟨rfl, Nq81, eq81⟩, st81⟩ := own_callV X80 hx hZ hown (ww hw 41 rfl) (ww hw 42 rfl) (notFace_of_selects (args := #[]) (mvT hZ (ww hw 44 rfl))) (ww hw 44 rfl) (ww hw 43 rfl) (ww hw 3 rfl) (ww hw 45 rfl) (by decide) eq80 (E_REVOKE.ext O52) (rm3 l Z a0 hw [] w_ENABLE w_DISABLE w_ASSIGN w_DEASSIGN w_GRANT w_REVOKE w_ACTIVATE w_DEACTIVATE w_ENABLE_CONSTRAINT w_DISABLE_CONSTRAINT hS w_REVOKE 5 1 (Or.inr (Or.inr (Or.inr (Or.inr (Or.inr (Or.inl ⟨rfl, rfl⟩)))))) h52 O52 (E_REVOKE.ext O52) (F_REVOKE_ordinal.ext O52)) 0 (by decide) (by decide) (by decide) (by decide) (g := (mkF m 117 #[.val (.int p1), .val (.ref b32), .val (.int (4 : Int32)), .val (.ref w_GRANT), .val (.ref w_REVOKE), .val (.ref w_REVOKE)] [(.ref w_REVOKE)])) rfl (by rw [hml]; rfl) [] [] rfl (lenOf pd_428490 rfl) rfl (by show 2 * 0 + _ ≤ _; exact Nat.le_of_eq rfl) (hb hby at_117)
    have N81 := Fr.app N80 Nq81
    refine Go.st (S' := T81.setTop (mkF m 120 #[.val (.int p1), .val (.ref b32), .val (.int (4 : Int32)), .val (.ref w_GRANT), .val (.ref w_REVOKE), .val (.ref w_REVOKE)] [(.int (1 : Int32))])) st81 ?_
    refine Go.st (S' := T81.setTop (mkF m 121 #[.val (.int p1), .val (.ref b32), .val (.int (4 : Int32)), .val (.ref w_GRANT), .val (.ref w_REVOKE), .val (.ref w_REVOKE)] [(.ref w_GRANT), (.int (1 : Int32))])) (fun _ k => XS.aloadN X81.here hx rfl (hb hby at_120) rfl rfl k) ?_
    obtain ⟨_, T82, L82, X82, ⟨rfl, Nq82, eq82⟩, st82⟩ := own_callV X81 hx hZ hown (ww hw 41 rfl) (ww hw 42 rfl) (notFace_of_selects (args := #[]) (mvT hZ (ww hw 44 rfl))) (ww hw 44 rfl) (ww hw 43 rfl) (ww hw 3 rfl) (ww hw 45 rfl) (by decide) eq81 (E_GRANT.ext O52) (rm3 l Z a0 hw [] w_ENABLE w_DISABLE w_ASSIGN w_DEASSIGN w_GRANT w_REVOKE w_ACTIVATE w_DEACTIVATE w_ENABLE_CONSTRAINT w_DISABLE_CONSTRAINT hS w_GRANT 4 0 (Or.inr (Or.inr (Or.inr (Or.inr (Or.inl ⟨rfl, rfl⟩))))) h52 O52 (E_GRANT.ext O52) (F_GRANT_ordinal.ext O52)) 1 (by decide) (by decide) (by decide) (by decide) (g := (mkF m 121 #[.val (.int p1), .val (.ref b32), .val (.int (4 : Int32)), .val (.ref w_GRANT), .val (.ref w_REVOKE), .val (.ref w_REVOKE)] [(.ref w_GRANT), (.int (1 : Int32))])) rfl (by rw [hml]; rfl) [] [(.int (1 : Int32))] rfl (lenOf pd_428490 rfl) rfl (by show 2 * 0 + _ ≤ _; exact Nat.le_of_eq rfl) (hb hby at_121)
    have N82 := Fr.app N81 Nq82
    refine Go.st (S' := T82.setTop (mkF m 124 #[.val (.int p1), .val (.ref b32), .val (.int (4 : Int32)), .val (.ref w_GRANT), .val (.ref w_REVOKE), .val (.ref w_REVOKE)] [(.int (0 : Int32)), (.int (1 : Int32))])) st82 ?_
    refine Go.st (S' := T82.setTop (mkF m 127 #[.val (.int p1), .val (.ref b32), .val (.int (4 : Int32)), .val (.ref w_GRANT), .val (.ref w_REVOKE), .val (.ref w_REVOKE)] [])) (fun _ k => XS.icmpNo X82.here hx rfl (hb hby at_124) rfl (feq (by decide)).1 k) ?_
    refine Go.st (S' := T82.setTop (mkF m 128 #[.val (.int p1), .val (.ref b32), .val (.int (4 : Int32)), .val (.ref w_GRANT), .val (.ref w_REVOKE), .val (.ref w_REVOKE)] [(.int (1 : Int32))])) (fun _ k => XS.iconst X82.here hx rfl (hb hby at_127) k) ?_
    refine Go.st (S' := T82.setTop (mkF m 132 #[.val (.int p1), .val (.ref b32), .val (.int (4 : Int32)), .val (.ref w_GRANT), .val (.ref w_REVOKE), .val (.ref w_REVOKE)] [(.int (1 : Int32))])) (fun _ k => XS.goto X82.here hx rfl (pc0 := 128) (pc' := 132) rfl (hb hby at_128) (by decide) (by decide) k) ?_
    exact own_retN X82 hx hlk hret (by simp) (hb hby at_132) eq82 ⟨rfl, N82⟩ (by decide) (by decide)
  · refine Go.st (S' := T52.setTop (mkF m 77 #[.val (.int p1), .val (.ref b32), .unset, .unset, .unset, .unset] [(.int (5 : Int32))])) (fun _ k => by rw [hk]; exact k) ?_
    refine Go.st (S' := T52.setTop (mkF m 78 #[.val (.int p1), .val (.ref b32), .val (.int (5 : Int32)), .unset, .unset, .unset] [])) (fun _ k => XS.istoreN X52.here hx rfl (hb hby at_77) rfl (l' := #[.val (.int p1), .val (.ref b32), .val (.int (5 : Int32)), .unset, .unset, .unset]) rfl k) ?_
    refine Go.st (S' := T52.setTop (mkF m 79 #[.val (.int p1), .val (.ref b32), .val (.int (5 : Int32)), .unset, .unset, .unset] [(.ref b32)])) (fun _ k => XS.aloadN X52.here hx rfl (hb hby at_78) rfl rfl k) ?_
    refine Go.st (S' := T52.setTop (mkF m 80 #[.val (.int p1), .val (.ref b32), .val (.int (5 : Int32)), .unset, .unset, .unset] [(.int (5 : Int32)), (.ref b32)])) (fun _ k => XS.iloadN X52.here hx rfl (hb hby at_79) rfl k) ?_
    refine Go.st (S' := T52.setTop (mkF m 81 #[.val (.int p1), .val (.ref b32), .val (.int (5 : Int32)), .unset, .unset, .unset] [(.ref w_REVOKE)])) (own_ldR X52 hx hZ e52 V52 rfl ⟨by decide, by decide⟩ rfl (g := (mkF m 80 #[.val (.int p1), .val (.ref b32), .val (.int (5 : Int32)), .unset, .unset, .unset] [(.int (5 : Int32)), (.ref b32)])) rfl rfl (hb hby at_80)) ?_
    refine Go.st (S' := T52.setTop (mkF m 82 #[.val (.int p1), .val (.ref b32), .val (.int (5 : Int32)), .val (.ref w_REVOKE), .unset, .unset] [])) (fun _ k => XS.astoreN X52.here hx rfl (hb hby at_81) rfl rfl (l' := #[.val (.int p1), .val (.ref b32), .val (.int (5 : Int32)), .val (.ref w_REVOKE), .unset, .unset]) rfl k) ?_
    refine Go.st (S' := T52.setTop (mkF m 83 #[.val (.int p1), .val (.ref b32), .val (.int (5 : Int32)), .val (.ref w_REVOKE), .unset, .unset] [(.ref b32)])) (fun _ k => XS.aloadN X52.here hx rfl (hb hby at_82) rfl rfl k) ?_
    refine Go.st (S' := T52.setTop (mkF m 84 #[.val (.int p1), .val (.ref b32), .val (.int (5 : Int32)), .val (.ref w_REVOKE), .unset, .unset] [(.int (5 : Int32)), (.ref b32)])) (fun _ k => XS.iloadN X52.here hx rfl (hb hby at_83) rfl k) ?_
    refine Go.st (S' := T52.setTop (mkF m 85 #[.val (.int p1), .val (.ref b32), .val (.int (5 : Int32)), .val (.ref w_REVOKE), .unset, .unset] [(.int (1 : Int32)), (.int (5 : Int32)), (.ref b32)])) (fun _ k => XS.iconst X52.here hx rfl (hb hby at_84) k) ?_
    refine Go.st (S' := T52.setTop (mkF m 86 #[.val (.int p1), .val (.ref b32), .val (.int (5 : Int32)), .val (.ref w_REVOKE), .unset, .unset] [(.int (4 : Int32)), (.ref b32)])) (fun _ k => XS.ixor X52.here hx rfl (hb hby at_85) rfl k) ?_
    refine Go.st (S' := T52.setTop (mkF m 87 #[.val (.int p1), .val (.ref b32), .val (.int (5 : Int32)), .val (.ref w_REVOKE), .unset, .unset] [(.ref w_GRANT)])) (own_ldR X52 hx hZ e52 V52 rfl ⟨by decide, by decide⟩ rfl (g := (mkF m 86 #[.val (.int p1), .val (.ref b32), .val (.int (5 : Int32)), .val (.ref w_REVOKE), .unset, .unset] [(.int (4 : Int32)), (.ref b32)])) rfl rfl (hb hby at_86)) ?_
    refine Go.st (S' := T52.setTop (mkF m 89 #[.val (.int p1), .val (.ref b32), .val (.int (5 : Int32)), .val (.ref w_REVOKE), .val (.ref w_GRANT), .unset] [])) (fun _ k => XS.astore X52.here hx rfl (hb hby at_87) rfl rfl (l' := #[.val (.int p1), .val (.ref b32), .val (.int (5 : Int32)), .val (.ref w_REVOKE), .val (.ref w_GRANT), .unset]) rfl k) ?_
    refine Go.st (S' := T52.setTop (mkF m 90 #[.val (.int p1), .val (.ref b32), .val (.int (5 : Int32)), .val (.ref w_REVOKE), .val (.ref w_GRANT), .unset] [(.ref w_REVOKE)])) (fun _ k => XS.aloadN X52.here hx rfl (hb hby at_89) rfl rfl k) ?_
    obtain ⟨_, T85, L85, X85, ⟨rfl, Nq85, eq85⟩, st85⟩ := own_callV X52 hx hZ hown (ww hw 25 rfl) (ww hw 26 rfl) (notFace_of_selects (args := #[]) (mvT hZ (ww hw 28 rfl))) (ww hw 28 rfl) (ww hw 27 rfl) (ww hw 3 rfl) (ww hw 29 rfl) (by decide) e52 (E_REVOKE.ext O52) (rm1 l Z a0 hw [] w_ENABLE w_DISABLE w_ASSIGN w_DEASSIGN w_GRANT w_REVOKE w_ACTIVATE w_DEACTIVATE w_ENABLE_CONSTRAINT w_DISABLE_CONSTRAINT hS w_REVOKE 5 w_GRANT (Or.inr (Or.inr (Or.inr (Or.inr (Or.inr (Or.inl ⟨rfl, rfl⟩)))))) h52 O52 (E_REVOKE.ext O52) (F_REVOKE_ordinal.ext O52)) 0 (by decide) (by decide) (by decide) (by decide) (g := (mkF m 90 #[.val (.int p1), .val (.ref b32), .val (.int (5 : Int32)), .val (.ref w_REVOKE), .val (.ref w_GRANT), .unset] [(.ref w_REVOKE)])) rfl (by rw [hml]; rfl) [] [] rfl (lenOf pd_28917 rfl) rfl (by show 2 * 0 + _ ≤ _; exact Nat.le_of_eq rfl) (hb hby at_90)
    have N85 := Fr.app N52 Nq85
    refine Go.st (S' := T85.setTop (mkF m 93 #[.val (.int p1), .val (.ref b32), .val (.int (5 : Int32)), .val (.ref w_REVOKE), .val (.ref w_GRANT), .unset] [(.ref w_GRANT)])) st85 ?_
    refine Go.st (S' := T85.setTop (mkF m 95 #[.val (.int p1), .val (.ref b32), .val (.int (5 : Int32)), .val (.ref w_REVOKE), .val (.ref w_GRANT), .val (.ref w_GRANT)] [])) (fun _ k => XS.astore X85.here hx rfl (hb hby at_93) rfl rfl (l' := #[.val (.int p1), .val (.ref b32), .val (.int (5 : Int32)), .val (.ref w_REVOKE), .val (.ref w_GRANT), .val (.ref w_GRANT)]) rfl k) ?_
    refine Go.st (S' := T85.setTop (mkF m 97 #[.val (.int p1), .val (.ref b32), .val (.int (5 : Int32)), .val (.ref w_REVOKE), .val (.ref w_GRANT), .val (.ref w_GRANT)] [(.ref w_GRANT)])) (fun _ k => XS.aload X85.here hx rfl (hb hby at_95) rfl rfl k) ?_
    refine Go.st (S' := T85.setTop (mkF m 99 #[.val (.int p1), .val (.ref b32), .val (.int (5 : Int32)), .val (.ref w_REVOKE), .val (.ref w_GRANT), .val (.ref w_GRANT)] [(.ref w_GRANT), (.ref w_GRANT)])) (fun _ k => XS.aload X85.here hx rfl (hb hby at_97) rfl rfl k) ?_
    refine Go.st (S' := T85.setTop (mkF m 104 #[.val (.int p1), .val (.ref b32), .val (.int (5 : Int32)), .val (.ref w_REVOKE), .val (.ref w_GRANT), .val (.ref w_GRANT)] [])) (fun _ k => Jvm.RoadKit.acmp (g := (mkF m 99 #[.val (.int p1), .val (.ref b32), .val (.int (5 : Int32)), .val (.ref w_REVOKE), .val (.ref w_GRANT), .val (.ref w_GRANT)] [(.ref w_GRANT), (.ref w_GRANT)])) X85 hx rfl rfl rfl (pc0 := 99) (pc' := 104) (same := true) rfl (hb hby at_99) rfl (decide_eq_true rfl) (by decide) (by decide) k) ?_
    refine Go.st (S' := T85.setTop (mkF m 106 #[.val (.int p1), .val (.ref b32), .val (.int (5 : Int32)), .val (.ref w_REVOKE), .val (.ref w_GRANT), .val (.ref w_GRANT)] [(.ref w_GRANT)])) (fun _ k => XS.aload X85.here hx rfl (hb hby at_104) rfl rfl k) ?_
    obtain ⟨_, T86, L86, X86, ⟨rfl, Nq86, eq86⟩, st86⟩ := own_callV X85 hx hZ hown (ww hw 25 rfl) (ww hw 26 rfl) (notFace_of_selects (args := #[]) (mvT hZ (ww hw 28 rfl))) (ww hw 28 rfl) (ww hw 27 rfl) (ww hw 3 rfl) (ww hw 29 rfl) (by decide) eq85 (E_GRANT.ext O52) (rm1 l Z a0 hw [] w_ENABLE w_DISABLE w_ASSIGN w_DEASSIGN w_GRANT w_REVOKE w_ACTIVATE w_DEACTIVATE w_ENABLE_CONSTRAINT w_DISABLE_CONSTRAINT hS w_GRANT 4 w_REVOKE (Or.inr (Or.inr (Or.inr (Or.inr (Or.inl ⟨rfl, rfl⟩))))) h52 O52 (E_GRANT.ext O52) (F_GRANT_ordinal.ext O52)) 0 (by decide) (by decide) (by decide) (by decide) (g := (mkF m 106 #[.val (.int p1), .val (.ref b32), .val (.int (5 : Int32)), .val (.ref w_REVOKE), .val (.ref w_GRANT), .val (.ref w_GRANT)] [(.ref w_GRANT)])) rfl (by rw [hml]; rfl) [] [] rfl (lenOf pd_28917 rfl) rfl (by show 2 * 0 + _ ≤ _; exact Nat.le_of_eq rfl) (hb hby at_106)
    have N86 := Fr.app N85 Nq86
    refine Go.st (S' := T86.setTop (mkF m 109 #[.val (.int p1), .val (.ref b32), .val (.int (5 : Int32)), .val (.ref w_REVOKE), .val (.ref w_GRANT), .val (.ref w_GRANT)] [(.ref w_REVOKE)])) st86 ?_
    refine Go.st (S' := T86.setTop (mkF m 110 #[.val (.int p1), .val (.ref b32), .val (.int (5 : Int32)), .val (.ref w_REVOKE), .val (.ref w_GRANT), .val (.ref w_GRANT)] [(.ref w_REVOKE), (.ref w_REVOKE)])) (fun _ k => XS.aloadN X86.here hx rfl (hb hby at_109) rfl rfl k) ?_
    refine Go.st (S' := T86.setTop (mkF m 115 #[.val (.int p1), .val (.ref b32), .val (.int (5 : Int32)), .val (.ref w_REVOKE), .val (.ref w_GRANT), .val (.ref w_GRANT)] [])) (fun _ k => Jvm.RoadKit.acmp (g := (mkF m 110 #[.val (.int p1), .val (.ref b32), .val (.int (5 : Int32)), .val (.ref w_REVOKE), .val (.ref w_GRANT), .val (.ref w_GRANT)] [(.ref w_REVOKE), (.ref w_REVOKE)])) X86 hx rfl rfl rfl (pc0 := 110) (pc' := 115) (same := true) rfl (hb hby at_110) rfl (decide_eq_true rfl) (by decide) (by decide) k) ?_
    refine Go.st (S' := T86.setTop (mkF m 117 #[.val (.int p1), .val (.ref b32), .val (.int (5 : Int32)), .val (.ref w_REVOKE), .val (.ref w_GRANT), .val (.ref w_GRANT)] [(.ref w_GRANT)])) (fun _ k => XS.aload X86.here hx rfl (hb hby at_115) rfl rfl k) ?_
    obtain ⟨_, T87, L87, X87, ⟨rfl, Nq87, eq87⟩, st87⟩ := own_callV X86 hx hZ hown (ww hw 41 rfl) (ww hw 42 rfl) (notFace_of_selects (args := #[]) (mvT hZ (ww hw 44 rfl))) (ww hw 44 rfl) (ww hw 43 rfl) (ww hw 3 rfl) (ww hw 45 rfl) (by decide) eq86 (E_GRANT.ext O52) (rm3 l Z a0 hw [] w_ENABLE w_DISABLE w_ASSIGN w_DEASSIGN w_GRANT w_REVOKE w_ACTIVATE w_DEACTIVATE w_ENABLE_CONSTRAINT w_DISABLE_CONSTRAINT hS w_GRANT 4 0 (Or.inr (Or.inr (Or.inr (Or.inr (Or.inl ⟨rfl, rfl⟩))))) h52 O52 (E_GRANT.ext O52) (F_GRANT_ordinal.ext O52)) 0 (by decide) (by decide) (by decide) (by decide) (g := (mkF m 117 #[.val (.int p1), .val (.ref b32), .val (.int (5 : Int32)), .val (.ref w_REVOKE), .val (.ref w_GRANT), .val (.ref w_GRANT)] [(.ref w_GRANT)])) rfl (by rw [hml]; rfl) [] [] rfl (lenOf pd_428490 rfl) rfl (by show 2 * 0 + _ ≤ _; exact Nat.le_of_eq rfl) (hb hby at_117)
    have N87 := Fr.app N86 Nq87
    refine Go.st (S' := T87.setTop (mkF m 120 #[.val (.int p1), .val (.ref b32), .val (.int (5 : Int32)), .val (.ref w_REVOKE), .val (.ref w_GRANT), .val (.ref w_GRANT)] [(.int (0 : Int32))])) st87 ?_
    refine Go.st (S' := T87.setTop (mkF m 121 #[.val (.int p1), .val (.ref b32), .val (.int (5 : Int32)), .val (.ref w_REVOKE), .val (.ref w_GRANT), .val (.ref w_GRANT)] [(.ref w_REVOKE), (.int (0 : Int32))])) (fun _ k => XS.aloadN X87.here hx rfl (hb hby at_120) rfl rfl k) ?_
    obtain ⟨_, T88, L88, X88, ⟨rfl, Nq88, eq88⟩, st88⟩ := own_callV X87 hx hZ hown (ww hw 41 rfl) (ww hw 42 rfl) (notFace_of_selects (args := #[]) (mvT hZ (ww hw 44 rfl))) (ww hw 44 rfl) (ww hw 43 rfl) (ww hw 3 rfl) (ww hw 45 rfl) (by decide) eq87 (E_REVOKE.ext O52) (rm3 l Z a0 hw [] w_ENABLE w_DISABLE w_ASSIGN w_DEASSIGN w_GRANT w_REVOKE w_ACTIVATE w_DEACTIVATE w_ENABLE_CONSTRAINT w_DISABLE_CONSTRAINT hS w_REVOKE 5 1 (Or.inr (Or.inr (Or.inr (Or.inr (Or.inr (Or.inl ⟨rfl, rfl⟩)))))) h52 O52 (E_REVOKE.ext O52) (F_REVOKE_ordinal.ext O52)) 1 (by decide) (by decide) (by decide) (by decide) (g := (mkF m 121 #[.val (.int p1), .val (.ref b32), .val (.int (5 : Int32)), .val (.ref w_REVOKE), .val (.ref w_GRANT), .val (.ref w_GRANT)] [(.ref w_REVOKE), (.int (0 : Int32))])) rfl (by rw [hml]; rfl) [] [(.int (0 : Int32))] rfl (lenOf pd_428490 rfl) rfl (by show 2 * 0 + _ ≤ _; exact Nat.le_of_eq rfl) (hb hby at_121)
    have N88 := Fr.app N87 Nq88
    refine Go.st (S' := T88.setTop (mkF m 124 #[.val (.int p1), .val (.ref b32), .val (.int (5 : Int32)), .val (.ref w_REVOKE), .val (.ref w_GRANT), .val (.ref w_GRANT)] [(.int (1 : Int32)), (.int (0 : Int32))])) st88 ?_
    refine Go.st (S' := T88.setTop (mkF m 127 #[.val (.int p1), .val (.ref b32), .val (.int (5 : Int32)), .val (.ref w_REVOKE), .val (.ref w_GRANT), .val (.ref w_GRANT)] [])) (fun _ k => XS.icmpNo X88.here hx rfl (hb hby at_124) rfl (feq (by decide)).1 k) ?_
    refine Go.st (S' := T88.setTop (mkF m 128 #[.val (.int p1), .val (.ref b32), .val (.int (5 : Int32)), .val (.ref w_REVOKE), .val (.ref w_GRANT), .val (.ref w_GRANT)] [(.int (1 : Int32))])) (fun _ k => XS.iconst X88.here hx rfl (hb hby at_127) k) ?_
    refine Go.st (S' := T88.setTop (mkF m 132 #[.val (.int p1), .val (.ref b32), .val (.int (5 : Int32)), .val (.ref w_REVOKE), .val (.ref w_GRANT), .val (.ref w_GRANT)] [(.int (1 : Int32))])) (fun _ k => XS.goto X88.here hx rfl (pc0 := 128) (pc' := 132) rfl (hb hby at_128) (by decide) (by decide) k) ?_
    exact own_retN X88 hx hlk hret (by simp) (hb hby at_132) eq88 ⟨rfl, N88⟩ (by decide) (by decide)
  · refine Go.st (S' := T52.setTop (mkF m 77 #[.val (.int p1), .val (.ref b32), .unset, .unset, .unset, .unset] [(.int (6 : Int32))])) (fun _ k => by rw [hk]; exact k) ?_
    refine Go.st (S' := T52.setTop (mkF m 78 #[.val (.int p1), .val (.ref b32), .val (.int (6 : Int32)), .unset, .unset, .unset] [])) (fun _ k => XS.istoreN X52.here hx rfl (hb hby at_77) rfl (l' := #[.val (.int p1), .val (.ref b32), .val (.int (6 : Int32)), .unset, .unset, .unset]) rfl k) ?_
    refine Go.st (S' := T52.setTop (mkF m 79 #[.val (.int p1), .val (.ref b32), .val (.int (6 : Int32)), .unset, .unset, .unset] [(.ref b32)])) (fun _ k => XS.aloadN X52.here hx rfl (hb hby at_78) rfl rfl k) ?_
    refine Go.st (S' := T52.setTop (mkF m 80 #[.val (.int p1), .val (.ref b32), .val (.int (6 : Int32)), .unset, .unset, .unset] [(.int (6 : Int32)), (.ref b32)])) (fun _ k => XS.iloadN X52.here hx rfl (hb hby at_79) rfl k) ?_
    refine Go.st (S' := T52.setTop (mkF m 81 #[.val (.int p1), .val (.ref b32), .val (.int (6 : Int32)), .unset, .unset, .unset] [(.ref w_ACTIVATE)])) (own_ldR X52 hx hZ e52 V52 rfl ⟨by decide, by decide⟩ rfl (g := (mkF m 80 #[.val (.int p1), .val (.ref b32), .val (.int (6 : Int32)), .unset, .unset, .unset] [(.int (6 : Int32)), (.ref b32)])) rfl rfl (hb hby at_80)) ?_
    refine Go.st (S' := T52.setTop (mkF m 82 #[.val (.int p1), .val (.ref b32), .val (.int (6 : Int32)), .val (.ref w_ACTIVATE), .unset, .unset] [])) (fun _ k => XS.astoreN X52.here hx rfl (hb hby at_81) rfl rfl (l' := #[.val (.int p1), .val (.ref b32), .val (.int (6 : Int32)), .val (.ref w_ACTIVATE), .unset, .unset]) rfl k) ?_
    refine Go.st (S' := T52.setTop (mkF m 83 #[.val (.int p1), .val (.ref b32), .val (.int (6 : Int32)), .val (.ref w_ACTIVATE), .unset, .unset] [(.ref b32)])) (fun _ k => XS.aloadN X52.here hx rfl (hb hby at_82) rfl rfl k) ?_
    refine Go.st (S' := T52.setTop (mkF m 84 #[.val (.int p1), .val (.ref b32), .val (.int (6 : Int32)), .val (.ref w_ACTIVATE), .unset, .unset] [(.int (6 : Int32)), (.ref b32)])) (fun _ k => XS.iloadN X52.here hx rfl (hb hby at_83) rfl k) ?_
    refine Go.st (S' := T52.setTop (mkF m 85 #[.val (.int p1), .val (.ref b32), .val (.int (6 : Int32)), .val (.ref w_ACTIVATE), .unset, .unset] [(.int (1 : Int32)), (.int (6 : Int32)), (.ref b32)])) (fun _ k => XS.iconst X52.here hx rfl (hb hby at_84) k) ?_
    refine Go.st (S' := T52.setTop (mkF m 86 #[.val (.int p1), .val (.ref b32), .val (.int (6 : Int32)), .val (.ref w_ACTIVATE), .unset, .unset] [(.int (7 : Int32)), (.ref b32)])) (fun _ k => XS.ixor X52.here hx rfl (hb hby at_85) rfl k) ?_
    refine Go.st (S' := T52.setTop (mkF m 87 #[.val (.int p1), .val (.ref b32), .val (.int (6 : Int32)), .val (.ref w_ACTIVATE), .unset, .unset] [(.ref w_DEACTIVATE)])) (own_ldR X52 hx hZ e52 V52 rfl ⟨by decide, by decide⟩ rfl (g := (mkF m 86 #[.val (.int p1), .val (.ref b32), .val (.int (6 : Int32)), .val (.ref w_ACTIVATE), .unset, .unset] [(.int (7 : Int32)), (.ref b32)])) rfl rfl (hb hby at_86)) ?_
    refine Go.st (S' := T52.setTop (mkF m 89 #[.val (.int p1), .val (.ref b32), .val (.int (6 : Int32)), .val (.ref w_ACTIVATE), .val (.ref w_DEACTIVATE), .unset] [])) (fun _ k => XS.astore X52.here hx rfl (hb hby at_87) rfl rfl (l' := #[.val (.int p1), .val (.ref b32), .val (.int (6 : Int32)), .val (.ref w_ACTIVATE), .val (.ref w_DEACTIVATE), .unset]) rfl k) ?_
    refine Go.st (S' := T52.setTop (mkF m 90 #[.val (.int p1), .val (.ref b32), .val (.int (6 : Int32)), .val (.ref w_ACTIVATE), .val (.ref w_DEACTIVATE), .unset] [(.ref w_ACTIVATE)])) (fun _ k => XS.aloadN X52.here hx rfl (hb hby at_89) rfl rfl k) ?_
    obtain ⟨_, T91, L91, X91, ⟨rfl, Nq91, eq91⟩, st91⟩ := own_callV X52 hx hZ hown (ww hw 25 rfl) (ww hw 26 rfl) (notFace_of_selects (args := #[]) (mvT hZ (ww hw 28 rfl))) (ww hw 28 rfl) (ww hw 27 rfl) (ww hw 3 rfl) (ww hw 29 rfl) (by decide) e52 (E_ACTIVATE.ext O52) (rm1 l Z a0 hw [] w_ENABLE w_DISABLE w_ASSIGN w_DEASSIGN w_GRANT w_REVOKE w_ACTIVATE w_DEACTIVATE w_ENABLE_CONSTRAINT w_DISABLE_CONSTRAINT hS w_ACTIVATE 6 w_DEACTIVATE (Or.inr (Or.inr (Or.inr (Or.inr (Or.inr (Or.inr (Or.inl ⟨rfl, rfl⟩))))))) h52 O52 (E_ACTIVATE.ext O52) (F_ACTIVATE_ordinal.ext O52)) 0 (by decide) (by decide) (by decide) (by decide) (g := (mkF m 90 #[.val (.int p1), .val (.ref b32), .val (.int (6 : Int32)), .val (.ref w_ACTIVATE), .val (.ref w_DEACTIVATE), .unset] [(.ref w_ACTIVATE)])) rfl (by rw [hml]; rfl) [] [] rfl (lenOf pd_28917 rfl) rfl (by show 2 * 0 + _ ≤ _; exact Nat.le_of_eq rfl) (hb hby at_90)
    have N91 := Fr.app N52 Nq91
    refine Go.st (S' := T91.setTop (mkF m 93 #[.val (.int p1), .val (.ref b32), .val (.int (6 : Int32)), .val (.ref w_ACTIVATE), .val (.ref w_DEACTIVATE), .unset] [(.ref w_DEACTIVATE)])) st91 ?_
    refine Go.st (S' := T91.setTop (mkF m 95 #[.val (.int p1), .val (.ref b32), .val (.int (6 : Int32)), .val (.ref w_ACTIVATE), .val (.ref w_DEACTIVATE), .val (.ref w_DEACTIVATE)] [])) (fun _ k => XS.astore X91.here hx rfl (hb hby at_93) rfl rfl (l' := #[.val (.int p1), .val (.ref b32), .val (.int (6 : Int32)), .val (.ref w_ACTIVATE), .val (.ref w_DEACTIVATE), .val (.ref w_DEACTIVATE)]) rfl k) ?_
    refine Go.st (S' := T91.setTop (mkF m 97 #[.val (.int p1), .val (.ref b32), .val (.int (6 : Int32)), .val (.ref w_ACTIVATE), .val (.ref w_DEACTIVATE), .val (.ref w_DEACTIVATE)] [(.ref w_DEACTIVATE)])) (fun _ k => XS.aload X91.here hx rfl (hb hby at_95) rfl rfl k) ?_
    refine Go.st (S' := T91.setTop (mkF m 99 #[.val (.int p1), .val (.ref b32), .val (.int (6 : Int32)), .val (.ref w_ACTIVATE), .val (.ref w_DEACTIVATE), .val (.ref w_DEACTIVATE)] [(.ref w_DEACTIVATE), (.ref w_DEACTIVATE)])) (fun _ k => XS.aload X91.here hx rfl (hb hby at_97) rfl rfl k) ?_
    refine Go.st (S' := T91.setTop (mkF m 104 #[.val (.int p1), .val (.ref b32), .val (.int (6 : Int32)), .val (.ref w_ACTIVATE), .val (.ref w_DEACTIVATE), .val (.ref w_DEACTIVATE)] [])) (fun _ k => Jvm.RoadKit.acmp (g := (mkF m 99 #[.val (.int p1), .val (.ref b32), .val (.int (6 : Int32)), .val (.ref w_ACTIVATE), .val (.ref w_DEACTIVATE), .val (.ref w_DEACTIVATE)] [(.ref w_DEACTIVATE), (.ref w_DEACTIVATE)])) X91 hx rfl rfl rfl (pc0 := 99) (pc' := 104) (same := true) rfl (hb hby at_99) rfl (decide_eq_true rfl) (by decide) (by decide) k) ?_
    refine Go.st (S' := T91.setTop (mkF m 106 #[.val (.int p1), .val (.ref b32), .val (.int (6 : Int32)), .val (.ref w_ACTIVATE), .val (.ref w_DEACTIVATE), .val (.ref w_DEACTIVATE)] [(.ref w_DEACTIVATE)])) (fun _ k => XS.aload X91.here hx rfl (hb hby at_104) rfl rfl k) ?_
    obtain ⟨_, T92, L92, X92, ⟨rfl, Nq92, eq92⟩, st92⟩ := own_callV X91 hx hZ hown (ww hw 25 rfl) (ww hw 26 rfl) (notFace_of_selects (args := #[]) (mvT hZ (ww hw 28 rfl))) (ww hw 28 rfl) (ww hw 27 rfl) (ww hw 3 rfl) (ww hw 29 rfl) (by decide) eq91 (E_DEACTIVATE.ext O52) (rm1 l Z a0 hw [] w_ENABLE w_DISABLE w_ASSIGN w_DEASSIGN w_GRANT w_REVOKE w_ACTIVATE w_DEACTIVATE w_ENABLE_CONSTRAINT w_DISABLE_CONSTRAINT hS w_DEACTIVATE 7 w_ACTIVATE (Or.inr (Or.inr (Or.inr (Or.inr (Or.inr (Or.inr (Or.inr (Or.inl ⟨rfl, rfl⟩)))))))) h52 O52 (E_DEACTIVATE.ext O52) (F_DEACTIVATE_ordinal.ext O52)) 0 (by decide) (by decide) (by decide) (by decide) (g := (mkF m 106 #[.val (.int p1), .val (.ref b32), .val (.int (6 : Int32)), .val (.ref w_ACTIVATE), .val (.ref w_DEACTIVATE), .val (.ref w_DEACTIVATE)] [(.ref w_DEACTIVATE)])) rfl (by rw [hml]; rfl) [] [] rfl (lenOf pd_28917 rfl) rfl (by show 2 * 0 + _ ≤ _; exact Nat.le_of_eq rfl) (hb hby at_106)
    have N92 := Fr.app N91 Nq92
    refine Go.st (S' := T92.setTop (mkF m 109 #[.val (.int p1), .val (.ref b32), .val (.int (6 : Int32)), .val (.ref w_ACTIVATE), .val (.ref w_DEACTIVATE), .val (.ref w_DEACTIVATE)] [(.ref w_ACTIVATE)])) st92 ?_
    refine Go.st (S' := T92.setTop (mkF m 110 #[.val (.int p1), .val (.ref b32), .val (.int (6 : Int32)), .val (.ref w_ACTIVATE), .val (.ref w_DEACTIVATE), .val (.ref w_DEACTIVATE)] [(.ref w_ACTIVATE), (.ref w_ACTIVATE)])) (fun _ k => XS.aloadN X92.here hx rfl (hb hby at_109) rfl rfl k) ?_
    refine Go.st (S' := T92.setTop (mkF m 115 #[.val (.int p1), .val (.ref b32), .val (.int (6 : Int32)), .val (.ref w_ACTIVATE), .val (.ref w_DEACTIVATE), .val (.ref w_DEACTIVATE)] [])) (fun _ k => Jvm.RoadKit.acmp (g := (mkF m 110 #[.val (.int p1), .val (.ref b32), .val (.int (6 : Int32)), .val (.ref w_ACTIVATE), .val (.ref w_DEACTIVATE), .val (.ref w_DEACTIVATE)] [(.ref w_ACTIVATE), (.ref w_ACTIVATE)])) X92 hx rfl rfl rfl (pc0 := 110) (pc' := 115) (same := true) rfl (hb hby at_110) rfl (decide_eq_true rfl) (by decide) (by decide) k) ?_
    refine Go.st (S' := T92.setTop (mkF m 117 #[.val (.int p1), .val (.ref b32), .val (.int (6 : Int32)), .val (.ref w_ACTIVATE), .val (.ref w_DEACTIVATE), .val (.ref w_DEACTIVATE)] [(.ref w_DEACTIVATE)])) (fun _ k => XS.aload X92.here hx rfl (hb hby at_115) rfl rfl k) ?_
    obtain ⟨_, T93, L93, X93, ⟨rfl, Nq93, eq93⟩, st93⟩ := own_callV X92 hx hZ hown (ww hw 41 rfl) (ww hw 42 rfl) (notFace_of_selects (args := #[]) (mvT hZ (ww hw 44 rfl))) (ww hw 44 rfl) (ww hw 43 rfl) (ww hw 3 rfl) (ww hw 45 rfl) (by decide) eq92 (E_DEACTIVATE.ext O52) (rm3 l Z a0 hw [] w_ENABLE w_DISABLE w_ASSIGN w_DEASSIGN w_GRANT w_REVOKE w_ACTIVATE w_DEACTIVATE w_ENABLE_CONSTRAINT w_DISABLE_CONSTRAINT hS w_DEACTIVATE 7 1 (Or.inr (Or.inr (Or.inr (Or.inr (Or.inr (Or.inr (Or.inr (Or.inl ⟨rfl, rfl⟩)))))))) h52 O52 (E_DEACTIVATE.ext O52) (F_DEACTIVATE_ordinal.ext O52)) 0 (by decide) (by decide) (by decide) (by decide) (g := (mkF m 117 #[.val (.int p1), .val (.ref b32), .val (.int (6 : Int32)), .val (.ref w_ACTIVATE), .val (.ref w_DEACTIVATE), .val (.ref w_DEACTIVATE)] [(.ref w_DEACTIVATE)])) rfl (by rw [hml]; rfl) [] [] rfl (lenOf pd_428490 rfl) rfl (by show 2 * 0 + _ ≤ _; exact Nat.le_of_eq rfl) (hb hby at_117)
    have N93 := Fr.app N92 Nq93
    refine Go.st (S' := T93.setTop (mkF m 120 #[.val (.int p1), .val (.ref b32), .val (.int (6 : Int32)), .val (.ref w_ACTIVATE), .val (.ref w_DEACTIVATE), .val (.ref w_DEACTIVATE)] [(.int (1 : Int32))])) st93 ?_
    refine Go.st (S' := T93.setTop (mkF m 121 #[.val (.int p1), .val (.ref b32), .val (.int (6 : Int32)), .val (.ref w_ACTIVATE), .val (.ref w_DEACTIVATE), .val (.ref w_DEACTIVATE)] [(.ref w_ACTIVATE), (.int (1 : Int32))])) (fun _ k => XS.aloadN X93.here hx rfl (hb hby at_120) rfl rfl k) ?_
    obtain ⟨_, T94, L94, X94, ⟨rfl, Nq94, eq94⟩, st94⟩ := own_callV X93 hx hZ hown (ww hw 41 rfl) (ww hw 42 rfl) (notFace_of_selects (args := #[]) (mvT hZ (ww hw 44 rfl))) (ww hw 44 rfl) (ww hw 43 rfl) (ww hw 3 rfl) (ww hw 45 rfl) (by decide) eq93 (E_ACTIVATE.ext O52) (rm3 l Z a0 hw [] w_ENABLE w_DISABLE w_ASSIGN w_DEASSIGN w_GRANT w_REVOKE w_ACTIVATE w_DEACTIVATE w_ENABLE_CONSTRAINT w_DISABLE_CONSTRAINT hS w_ACTIVATE 6 0 (Or.inr (Or.inr (Or.inr (Or.inr (Or.inr (Or.inr (Or.inl ⟨rfl, rfl⟩))))))) h52 O52 (E_ACTIVATE.ext O52) (F_ACTIVATE_ordinal.ext O52)) 1 (by decide) (by decide) (by decide) (by decide) (g := (mkF m 121 #[.val (.int p1), .val (.ref b32), .val (.int (6 : Int32)), .val (.ref w_ACTIVATE), .val (.ref w_DEACTIVATE), .val (.ref w_DEACTIVATE)] [(.ref w_ACTIVATE), (.int (1 : Int32))])) rfl (by rw [hml]; rfl) [] [(.int (1 : Int32))] rfl (lenOf pd_428490 rfl) rfl (by show 2 * 0 + _ ≤ _; exact Nat.le_of_eq rfl) (hb hby at_121)
    have N94 := Fr.app N93 Nq94
    refine Go.st (S' := T94.setTop (mkF m 124 #[.val (.int p1), .val (.ref b32), .val (.int (6 : Int32)), .val (.ref w_ACTIVATE), .val (.ref w_DEACTIVATE), .val (.ref w_DEACTIVATE)] [(.int (0 : Int32)), (.int (1 : Int32))])) st94 ?_
    refine Go.st (S' := T94.setTop (mkF m 127 #[.val (.int p1), .val (.ref b32), .val (.int (6 : Int32)), .val (.ref w_ACTIVATE), .val (.ref w_DEACTIVATE), .val (.ref w_DEACTIVATE)] [])) (fun _ k => XS.icmpNo X94.here hx rfl (hb hby at_124) rfl (feq (by decide)).1 k) ?_
    refine Go.st (S' := T94.setTop (mkF m 128 #[.val (.int p1), .val (.ref b32), .val (.int (6 : Int32)), .val (.ref w_ACTIVATE), .val (.ref w_DEACTIVATE), .val (.ref w_DEACTIVATE)] [(.int (1 : Int32))])) (fun _ k => XS.iconst X94.here hx rfl (hb hby at_127) k) ?_
    refine Go.st (S' := T94.setTop (mkF m 132 #[.val (.int p1), .val (.ref b32), .val (.int (6 : Int32)), .val (.ref w_ACTIVATE), .val (.ref w_DEACTIVATE), .val (.ref w_DEACTIVATE)] [(.int (1 : Int32))])) (fun _ k => XS.goto X94.here hx rfl (pc0 := 128) (pc' := 132) rfl (hb hby at_128) (by decide) (by decide) k) ?_
    exact own_retN X94 hx hlk hret (by simp) (hb hby at_132) eq94 ⟨rfl, N94⟩ (by decide) (by decide)
  · refine Go.st (S' := T52.setTop (mkF m 77 #[.val (.int p1), .val (.ref b32), .unset, .unset, .unset, .unset] [(.int (7 : Int32))])) (fun _ k => by rw [hk]; exact k) ?_
    refine Go.st (S' := T52.setTop (mkF m 78 #[.val (.int p1), .val (.ref b32), .val (.int (7 : Int32)), .unset, .unset, .unset] [])) (fun _ k => XS.istoreN X52.here hx rfl (hb hby at_77) rfl (l' := #[.val (.int p1), .val (.ref b32), .val (.int (7 : Int32)), .unset, .unset, .unset]) rfl k) ?_
    refine Go.st (S' := T52.setTop (mkF m 79 #[.val (.int p1), .val (.ref b32), .val (.int (7 : Int32)), .unset, .unset, .unset] [(.ref b32)])) (fun _ k => XS.aloadN X52.here hx rfl (hb hby at_78) rfl rfl k) ?_
    refine Go.st (S' := T52.setTop (mkF m 80 #[.val (.int p1), .val (.ref b32), .val (.int (7 : Int32)), .unset, .unset, .unset] [(.int (7 : Int32)), (.ref b32)])) (fun _ k => XS.iloadN X52.here hx rfl (hb hby at_79) rfl k) ?_
    refine Go.st (S' := T52.setTop (mkF m 81 #[.val (.int p1), .val (.ref b32), .val (.int (7 : Int32)), .unset, .unset, .unset] [(.ref w_DEACTIVATE)])) (own_ldR X52 hx hZ e52 V52 rfl ⟨by decide, by decide⟩ rfl (g := (mkF m 80 #[.val (.int p1), .val (.ref b32), .val (.int (7 : Int32)), .unset, .unset, .unset] [(.int (7 : Int32)), (.ref b32)])) rfl rfl (hb hby at_80)) ?_
    refine Go.st (S' := T52.setTop (mkF m 82 #[.val (.int p1), .val (.ref b32), .val (.int (7 : Int32)), .val (.ref w_DEACTIVATE), .unset, .unset] [])) (fun _ k => XS.astoreN X52.here hx rfl (hb hby at_81) rfl rfl (l' := #[.val (.int p1), .val (.ref b32), .val (.int (7 : Int32)), .val (.ref w_DEACTIVATE), .unset, .unset]) rfl k) ?_
    refine Go.st (S' := T52.setTop (mkF m 83 #[.val (.int p1), .val (.ref b32), .val (.int (7 : Int32)), .val (.ref w_DEACTIVATE), .unset, .unset] [(.ref b32)])) (fun _ k => XS.aloadN X52.here hx rfl (hb hby at_82) rfl rfl k) ?_
    refine Go.st (S' := T52.setTop (mkF m 84 #[.val (.int p1), .val (.ref b32), .val (.int (7 : Int32)), .val (.ref w_DEACTIVATE), .unset, .unset] [(.int (7 : Int32)), (.ref b32)])) (fun _ k => XS.iloadN X52.here hx rfl (hb hby at_83) rfl k) ?_
    refine Go.st (S' := T52.setTop (mkF m 85 #[.val (.int p1), .val (.ref b32), .val (.int (7 : Int32)), .val (.ref w_DEACTIVATE), .unset, .unset] [(.int (1 : Int32)), (.int (7 : Int32)), (.ref b32)])) (fun _ k => XS.iconst X52.here hx rfl (hb hby at_84) k) ?_
    refine Go.st (S' := T52.setTop (mkF m 86 #[.val (.int p1), .val (.ref b32), .val (.int (7 : Int32)), .val (.ref w_DEACTIVATE), .unset, .unset] [(.int (6 : Int32)), (.ref b32)])) (fun _ k => XS.ixor X52.here hx rfl (hb hby at_85) rfl k) ?_
    refine Go.st (S' := T52.setTop (mkF m 87 #[.val (.int p1), .val (.ref b32), .val (.int (7 : Int32)), .val (.ref w_DEACTIVATE), .unset, .unset] [(.ref w_ACTIVATE)])) (own_ldR X52 hx hZ e52 V52 rfl ⟨by decide, by decide⟩ rfl (g := (mkF m 86 #[.val (.int p1), .val (.ref b32), .val (.int (7 : Int32)), .val (.ref w_DEACTIVATE), .unset, .unset] [(.int (6 : Int32)), (.ref b32)])) rfl rfl (hb hby at_86)) ?_
    refine Go.st (S' := T52.setTop (mkF m 89 #[.val (.int p1), .val (.ref b32), .val (.int (7 : Int32)), .val (.ref w_DEACTIVATE), .val (.ref w_ACTIVATE), .unset] [])) (fun _ k => XS.astore X52.here hx rfl (hb hby at_87) rfl rfl (l' := #[.val (.int p1), .val (.ref b32), .val (.int (7 : Int32)), .val (.ref w_DEACTIVATE), .val (.ref w_ACTIVATE), .unset]) rfl k) ?_
    refine Go.st (S' := T52.setTop (mkF m 90 #[.val (.int p1), .val (.ref b32), .val (.int (7 : Int32)), .val (.ref w_DEACTIVATE), .val (.ref w_ACTIVATE), .unset] [(.ref w_DEACTIVATE)])) (fun _ k => XS.aloadN X52.here hx rfl (hb hby at_89) rfl rfl k) ?_
    obtain ⟨_, T97, L97, X97, ⟨rfl, Nq97, eq97⟩, st97⟩ := own_callV X52 hx hZ hown (ww hw 25 rfl) (ww hw 26 rfl) (notFace_of_selects (args := #[]) (mvT hZ (ww hw 28 rfl))) (ww hw 28 rfl) (ww hw 27 rfl) (ww hw 3 rfl) (ww hw 29 rfl) (by decide) e52 (E_DEACTIVATE.ext O52) (rm1 l Z a0 hw [] w_ENABLE w_DISABLE w_ASSIGN w_DEASSIGN w_GRANT w_REVOKE w_ACTIVATE w_DEACTIVATE w_ENABLE_CONSTRAINT w_DISABLE_CONSTRAINT hS w_DEACTIVATE 7 w_ACTIVATE (Or.inr (Or.inr (Or.inr (Or.inr (Or.inr (Or.inr (Or.inr (Or.inl ⟨rfl, rfl⟩)))))))) h52 O52 (E_DEACTIVATE.ext O52) (F_DEACTIVATE_ordinal.ext O52)) 0 (by decide) (by decide) (by decide) (by decide) (g := (mkF m 90 #[.val (.int p1), .val (.ref b32), .val (.int (7 : Int32)), .val (.ref w_DEACTIVATE), .val (.ref w_ACTIVATE), .unset] [(.ref w_DEACTIVATE)])) rfl (by rw [hml]; rfl) [] [] rfl (lenOf pd_28917 rfl) rfl (by show 2 * 0 + _ ≤ _; exact Nat.le_of_eq rfl) (hb hby at_90)
    have N97 := Fr.app N52 Nq97
    refine Go.st (S' := T97.setTop (mkF m 93 #[.val (.int p1), .val (.ref b32), .val (.int (7 : Int32)), .val (.ref w_DEACTIVATE), .val (.ref w_ACTIVATE), .unset] [(.ref w_ACTIVATE)])) st97 ?_
    refine Go.st (S' := T97.setTop (mkF m 95 #[.val (.int p1), .val (.ref b32), .val (.int (7 : Int32)), .val (.ref w_DEACTIVATE), .val (.ref w_ACTIVATE), .val (.ref w_ACTIVATE)] [])) (fun _ k => XS.astore X97.here hx rfl (hb hby at_93) rfl rfl (l' := #[.val (.int p1), .val (.ref b32), .val (.int (7 : Int32)), .val (.ref w_DEACTIVATE), .val (.ref w_ACTIVATE), .val (.ref w_ACTIVATE)]) rfl k) ?_
    refine Go.st (S' := T97.setTop (mkF m 97 #[.val (.int p1), .val (.ref b32), .val (.int (7 : Int32)), .val (.ref w_DEACTIVATE), .val (.ref w_ACTIVATE), .val (.ref w_ACTIVATE)] [(.ref w_ACTIVATE)])) (fun _ k => XS.aload X97.here hx rfl (hb hby at_95) rfl rfl k) ?_
    refine Go.st (S' := T97.setTop (mkF m 99 #[.val (.int p1), .val (.ref b32), .val (.int (7 : Int32)), .val (.ref w_DEACTIVATE), .val (.ref w_ACTIVATE), .val (.ref w_ACTIVATE)] [(.ref w_ACTIVATE), (.ref w_ACTIVATE)])) (fun _ k => XS.aload X97.here hx rfl (hb hby at_97) rfl rfl k) ?_
    refine Go.st (S' := T97.setTop (mkF m 104 #[.val (.int p1), .val (.ref b32), .val (.int (7 : Int32)), .val (.ref w_DEACTIVATE), .val (.ref w_ACTIVATE), .val (.ref w_ACTIVATE)] [])) (fun _ k => Jvm.RoadKit.acmp (g := (mkF m 99 #[.val (.int p1), .val (.ref b32), .val (.int (7 : Int32)), .val (.ref w_DEACTIVATE), .val (.ref w_ACTIVATE), .val (.ref w_ACTIVATE)] [(.ref w_ACTIVATE), (.ref w_ACTIVATE)])) X97 hx rfl rfl rfl (pc0 := 99) (pc' := 104) (same := true) rfl (hb hby at_99) rfl (decide_eq_true rfl) (by decide) (by decide) k) ?_
    refine Go.st (S' := T97.setTop (mkF m 106 #[.val (.int p1), .val (.ref b32), .val (.int (7 : Int32)), .val (.ref w_DEACTIVATE), .val (.ref w_ACTIVATE), .val (.ref w_ACTIVATE)] [(.ref w_ACTIVATE)])) (fun _ k => XS.aload X97.here hx rfl (hb hby at_104) rfl rfl k) ?_
    obtain ⟨_, T98, L98, X98, ⟨rfl, Nq98, eq98⟩, st98⟩ := own_callV X97 hx hZ hown (ww hw 25 rfl) (ww hw 26 rfl) (notFace_of_selects (args := #[]) (mvT hZ (ww hw 28 rfl))) (ww hw 28 rfl) (ww hw 27 rfl) (ww hw 3 rfl) (ww hw 29 rfl) (by decide) eq97 (E_ACTIVATE.ext O52) (rm1 l Z a0 hw [] w_ENABLE w_DISABLE w_ASSIGN w_DEASSIGN w_GRANT w_REVOKE w_ACTIVATE w_DEACTIVATE w_ENABLE_CONSTRAINT w_DISABLE_CONSTRAINT hS w_ACTIVATE 6 w_DEACTIVATE (Or.inr (Or.inr (Or.inr (Or.inr (Or.inr (Or.inr (Or.inl ⟨rfl, rfl⟩))))))) h52 O52 (E_ACTIVATE.ext O52) (F_ACTIVATE_ordinal.ext O52)) 0 (by decide) (by decide) (by decide) (by decide) (g := (mkF m 106 #[.val (.int p1), .val (.ref b32), .val (.int (7 : Int32)), .val (.ref w_DEACTIVATE), .val (.ref w_ACTIVATE), .val (.ref w_ACTIVATE)] [(.ref w_ACTIVATE)])) rfl (by rw [hml]; rfl) [] [] rfl (lenOf pd_28917 rfl) rfl (by show 2 * 0 + _ ≤ _; exact Nat.le_of_eq rfl) (hb hby at_106)
    have N98 := Fr.app N97 Nq98
    refine Go.st (S' := T98.setTop (mkF m 109 #[.val (.int p1), .val (.ref b32), .val (.int (7 : Int32)), .val (.ref w_DEACTIVATE), .val (.ref w_ACTIVATE), .val (.ref w_ACTIVATE)] [(.ref w_DEACTIVATE)])) st98 ?_
    refine Go.st (S' := T98.setTop (mkF m 110 #[.val (.int p1), .val (.ref b32), .val (.int (7 : Int32)), .val (.ref w_DEACTIVATE), .val (.ref w_ACTIVATE), .val (.ref w_ACTIVATE)] [(.ref w_DEACTIVATE), (.ref w_DEACTIVATE)])) (fun _ k => XS.aloadN X98.here hx rfl (hb hby at_109) rfl rfl k) ?_
    refine Go.st (S' := T98.setTop (mkF m 115 #[.val (.int p1), .val (.ref b32), .val (.int (7 : Int32)), .val (.ref w_DEACTIVATE), .val (.ref w_ACTIVATE), .val (.ref w_ACTIVATE)] [])) (fun _ k => Jvm.RoadKit.acmp (g := (mkF m 110 #[.val (.int p1), .val (.ref b32), .val (.int (7 : Int32)), .val (.ref w_DEACTIVATE), .val (.ref w_ACTIVATE), .val (.ref w_ACTIVATE)] [(.ref w_DEACTIVATE), (.ref w_DEACTIVATE)])) X98 hx rfl rfl rfl (pc0 := 110) (pc' := 115) (same := true) rfl (hb hby at_110) rfl (decide_eq_true rfl) (by decide) (by decide) k) ?_
    refine Go.st (S' := T98.setTop (mkF m 117 #[.val (.int p1), .val (.ref b32), .val (.int (7 : Int32)), .val (.ref w_DEACTIVATE), .val (.ref w_ACTIVATE), .val (.ref w_ACTIVATE)] [(.ref w_ACTIVATE)])) (fun _ k => XS.aload X98.here hx rfl (hb hby at_115) rfl rfl k) ?_
    obtain ⟨_, T99, L99, X99, ⟨rfl, Nq99, eq99⟩, st99⟩ := own_callV X98 hx hZ hown (ww hw 41 rfl) (ww hw 42 rfl) (notFace_of_selects (args := #[]) (mvT hZ (ww hw 44 rfl))) (ww hw 44 rfl) (ww hw 43 rfl) (ww hw 3 rfl) (ww hw 45 rfl) (by decide) eq98 (E_ACTIVATE.ext O52) (rm3 l Z a0 hw [] w_ENABLE w_DISABLE w_ASSIGN w_DEASSIGN w_GRANT w_REVOKE w_ACTIVATE w_DEACTIVATE w_ENABLE_CONSTRAINT w_DISABLE_CONSTRAINT hS w_ACTIVATE 6 0 (Or.inr (Or.inr (Or.inr (Or.inr (Or.inr (Or.inr (Or.inl ⟨rfl, rfl⟩))))))) h52 O52 (E_ACTIVATE.ext O52) (F_ACTIVATE_ordinal.ext O52)) 0 (by decide) (by decide) (by decide) (by decide) (g := (mkF m 117 #[.val (.int p1), .val (.ref b32), .val (.int (7 : Int32)), .val (.ref w_DEACTIVATE), .val (.ref w_ACTIVATE), .val (.ref w_ACTIVATE)] [(.ref w_ACTIVATE)])) rfl (by rw [hml]; rfl) [] [] rfl (lenOf pd_428490 rfl) rfl (by show 2 * 0 + _ ≤ _; exact Nat.le_of_eq rfl) (hb hby at_117)
    have N99 := Fr.app N98 Nq99
    refine Go.st (S' := T99.setTop (mkF m 120 #[.val (.int p1), .val (.ref b32), .val (.int (7 : Int32)), .val (.ref w_DEACTIVATE), .val (.ref w_ACTIVATE), .val (.ref w_ACTIVATE)] [(.int (0 : Int32))])) st99 ?_
    refine Go.st (S' := T99.setTop (mkF m 121 #[.val (.int p1), .val (.ref b32), .val (.int (7 : Int32)), .val (.ref w_DEACTIVATE), .val (.ref w_ACTIVATE), .val (.ref w_ACTIVATE)] [(.ref w_DEACTIVATE), (.int (0 : Int32))])) (fun _ k => XS.aloadN X99.here hx rfl (hb hby at_120) rfl rfl k) ?_
    obtain ⟨_, T100, L100, X100, ⟨rfl, Nq100, eq100⟩, st100⟩ := own_callV X99 hx hZ hown (ww hw 41 rfl) (ww hw 42 rfl) (notFace_of_selects (args := #[]) (mvT hZ (ww hw 44 rfl))) (ww hw 44 rfl) (ww hw 43 rfl) (ww hw 3 rfl) (ww hw 45 rfl) (by decide) eq99 (E_DEACTIVATE.ext O52) (rm3 l Z a0 hw [] w_ENABLE w_DISABLE w_ASSIGN w_DEASSIGN w_GRANT w_REVOKE w_ACTIVATE w_DEACTIVATE w_ENABLE_CONSTRAINT w_DISABLE_CONSTRAINT hS w_DEACTIVATE 7 1 (Or.inr (Or.inr (Or.inr (Or.inr (Or.inr (Or.inr (Or.inr (Or.inl ⟨rfl, rfl⟩)))))))) h52 O52 (E_DEACTIVATE.ext O52) (F_DEACTIVATE_ordinal.ext O52)) 1 (by decide) (by decide) (by decide) (by decide) (g := (mkF m 121 #[.val (.int p1), .val (.ref b32), .val (.int (7 : Int32)), .val (.ref w_DEACTIVATE), .val (.ref w_ACTIVATE), .val (.ref w_ACTIVATE)] [(.ref w_DEACTIVATE), (.int (0 : Int32))])) rfl (by rw [hml]; rfl) [] [(.int (0 : Int32))] rfl (lenOf pd_428490 rfl) rfl (by show 2 * 0 + _ ≤ _; exact Nat.le_of_eq rfl) (hb hby at_121)
    have N100 := Fr.app N99 Nq100
    refine Go.st (S' := T100.setTop (mkF m 124 #[.val (.int p1), .val (.ref b32), .val (.int (7 : Int32)), .val (.ref w_DEACTIVATE), .val (.ref w_ACTIVATE), .val (.ref w_ACTIVATE)] [(.int (1 : Int32)), (.int (0 : Int32))])) st100 ?_
    refine Go.st (S' := T100.setTop (mkF m 127 #[.val (.int p1), .val (.ref b32), .val (.int (7 : Int32)), .val (.ref w_DEACTIVATE), .val (.ref w_ACTIVATE), .val (.ref w_ACTIVATE)] [])) (fun _ k => XS.icmpNo X100.here hx rfl (hb hby at_124) rfl (feq (by decide)).1 k) ?_
    refine Go.st (S' := T100.setTop (mkF m 128 #[.val (.int p1), .val (.ref b32), .val (.int (7 : Int32)), .val (.ref w_DEACTIVATE), .val (.ref w_ACTIVATE), .val (.ref w_ACTIVATE)] [(.int (1 : Int32))])) (fun _ k => XS.iconst X100.here hx rfl (hb hby at_127) k) ?_
    refine Go.st (S' := T100.setTop (mkF m 132 #[.val (.int p1), .val (.ref b32), .val (.int (7 : Int32)), .val (.ref w_DEACTIVATE), .val (.ref w_ACTIVATE), .val (.ref w_ACTIVATE)] [(.int (1 : Int32))])) (fun _ k => XS.goto X100.here hx rfl (pc0 := 128) (pc' := 132) rfl (hb hby at_128) (by decide) (by decide) k) ?_
    exact own_retN X100 hx hlk hret (by simp) (hb hby at_132) eq100 ⟨rfl, N100⟩ (by decide) (by decide)
  · refine Go.st (S' := T52.setTop (mkF m 77 #[.val (.int p1), .val (.ref b32), .unset, .unset, .unset, .unset] [(.int (8 : Int32))])) (fun _ k => by rw [hk]; exact k) ?_
    refine Go.st (S' := T52.setTop (mkF m 78 #[.val (.int p1), .val (.ref b32), .val (.int (8 : Int32)), .unset, .unset, .unset] [])) (fun _ k => XS.istoreN X52.here hx rfl (hb hby at_77) rfl (l' := #[.val (.int p1), .val (.ref b32), .val (.int (8 : Int32)), .unset, .unset, .unset]) rfl k) ?_
    refine Go.st (S' := T52.setTop (mkF m 79 #[.val (.int p1), .val (.ref b32), .val (.int (8 : Int32)), .unset, .unset, .unset] [(.ref b32)])) (fun _ k => XS.aloadN X52.here hx rfl (hb hby at_78) rfl rfl k) ?_
    refine Go.st (S' := T52.setTop (mkF m 80 #[.val (.int p1), .val (.ref b32), .val (.int (8 : Int32)), .unset, .unset, .unset] [(.int (8 : Int32)), (.ref b32)])) (fun _ k => XS.iloadN X52.here hx rfl (hb hby at_79) rfl k) ?_
    refine Go.st (S' := T52.setTop (mkF m 81 #[.val (.int p1), .val (.ref b32), .val (.int (8 : Int32)), .unset, .unset, .unset] [(.ref w_ENABLE_CONSTRAINT)])) (own_ldR X52 hx hZ e52 V52 rfl ⟨by decide, by decide⟩ rfl (g := (mkF m 80 #[.val (.int p1), .val (.ref b32), .val (.int (8 : Int32)), .unset, .unset, .unset] [(.int (8 : Int32)), (.ref b32)])) rfl rfl (hb hby at_80)) ?_
    refine Go.st (S' := T52.setTop (mkF m 82 #[.val (.int p1), .val (.ref b32), .val (.int (8 : Int32)), .val (.ref w_ENABLE_CONSTRAINT), .unset, .unset] [])) (fun _ k => XS.astoreN X52.here hx rfl (hb hby at_81) rfl rfl (l' := #[.val (.int p1), .val (.ref b32), .val (.int (8 : Int32)), .val (.ref w_ENABLE_CONSTRAINT), .unset, .unset]) rfl k) ?_
    refine Go.st (S' := T52.setTop (mkF m 83 #[.val (.int p1), .val (.ref b32), .val (.int (8 : Int32)), .val (.ref w_ENABLE_CONSTRAINT), .unset, .unset] [(.ref b32)])) (fun _ k => XS.aloadN X52.here hx rfl (hb hby at_82) rfl rfl k) ?_
    refine Go.st (S' := T52.setTop (mkF m 84 #[.val (.int p1), .val (.ref b32), .val (.int (8 : Int32)), .val (.ref w_ENABLE_CONSTRAINT), .unset, .unset] [(.int (8 : Int32)), (.ref b32)])) (fun _ k => XS.iloadN X52.here hx rfl (hb hby at_83) rfl k) ?_
    refine Go.st (S' := T52.setTop (mkF m 85 #[.val (.int p1), .val (.ref b32), .val (.int (8 : Int32)), .val (.ref w_ENABLE_CONSTRAINT), .unset, .unset] [(.int (1 : Int32)), (.int (8 : Int32)), (.ref b32)])) (fun _ k => XS.iconst X52.here hx rfl (hb hby at_84) k) ?_
    refine Go.st (S' := T52.setTop (mkF m 86 #[.val (.int p1), .val (.ref b32), .val (.int (8 : Int32)), .val (.ref w_ENABLE_CONSTRAINT), .unset, .unset] [(.int (9 : Int32)), (.ref b32)])) (fun _ k => XS.ixor X52.here hx rfl (hb hby at_85) rfl k) ?_
    refine Go.st (S' := T52.setTop (mkF m 87 #[.val (.int p1), .val (.ref b32), .val (.int (8 : Int32)), .val (.ref w_ENABLE_CONSTRAINT), .unset, .unset] [(.ref w_DISABLE_CONSTRAINT)])) (own_ldR X52 hx hZ e52 V52 rfl ⟨by decide, by decide⟩ rfl (g := (mkF m 86 #[.val (.int p1), .val (.ref b32), .val (.int (8 : Int32)), .val (.ref w_ENABLE_CONSTRAINT), .unset, .unset] [(.int (9 : Int32)), (.ref b32)])) rfl rfl (hb hby at_86)) ?_
    refine Go.st (S' := T52.setTop (mkF m 89 #[.val (.int p1), .val (.ref b32), .val (.int (8 : Int32)), .val (.ref w_ENABLE_CONSTRAINT), .val (.ref w_DISABLE_CONSTRAINT), .unset] [])) (fun _ k => XS.astore X52.here hx rfl (hb hby at_87) rfl rfl (l' := #[.val (.int p1), .val (.ref b32), .val (.int (8 : Int32)), .val (.ref w_ENABLE_CONSTRAINT), .val (.ref w_DISABLE_CONSTRAINT), .unset]) rfl k) ?_
    refine Go.st (S' := T52.setTop (mkF m 90 #[.val (.int p1), .val (.ref b32), .val (.int (8 : Int32)), .val (.ref w_ENABLE_CONSTRAINT), .val (.ref w_DISABLE_CONSTRAINT), .unset] [(.ref w_ENABLE_CONSTRAINT)])) (fun _ k => XS.aloadN X52.here hx rfl (hb hby at_89) rfl rfl k) ?_
    obtain ⟨_, T103, L103, X103, ⟨rfl, Nq103, eq103⟩, st103⟩ := own_callV X52 hx hZ hown (ww hw 25 rfl) (ww hw 26 rfl) (notFace_of_selects (args := #[]) (mvT hZ (ww hw 28 rfl))) (ww hw 28 rfl) (ww hw 27 rfl) (ww hw 3 rfl) (ww hw 29 rfl) (by decide) e52 (E_ENABLE_CONSTRAINT.ext O52) (rm1 l Z a0 hw [] w_ENABLE w_DISABLE w_ASSIGN w_DEASSIGN w_GRANT w_REVOKE w_ACTIVATE w_DEACTIVATE w_ENABLE_CONSTRAINT w_DISABLE_CONSTRAINT hS w_ENABLE_CONSTRAINT 8 w_DISABLE_CONSTRAINT (Or.inr (Or.inr (Or.inr (Or.inr (Or.inr (Or.inr (Or.inr (Or.inr (Or.inl ⟨rfl, rfl⟩))))))))) h52 O52 (E_ENABLE_CONSTRAINT.ext O52) (F_ENABLE_CONSTRAINT_ordinal.ext O52)) 0 (by decide) (by decide) (by decide) (by decide) (g := (mkF m 90 #[.val (.int p1), .val (.ref b32), .val (.int (8 : Int32)), .val (.ref w_ENABLE_CONSTRAINT), .val (.ref w_DISABLE_CONSTRAINT), .unset] [(.ref w_ENABLE_CONSTRAINT)])) rfl (by rw [hml]; rfl) [] [] rfl (lenOf pd_28917 rfl) rfl (by show 2 * 0 + _ ≤ _; exact Nat.le_of_eq rfl) (hb hby at_90)
    have N103 := Fr.app N52 Nq103
    refine Go.st (S' := T103.setTop (mkF m 93 #[.val (.int p1), .val (.ref b32), .val (.int (8 : Int32)), .val (.ref w_ENABLE_CONSTRAINT), .val (.ref w_DISABLE_CONSTRAINT), .unset] [(.ref w_DISABLE_CONSTRAINT)])) st103 ?_
    refine Go.st (S' := T103.setTop (mkF m 95 #[.val (.int p1), .val (.ref b32), .val (.int (8 : Int32)), .val (.ref w_ENABLE_CONSTRAINT), .val (.ref w_DISABLE_CONSTRAINT), .val (.ref w_DISABLE_CONSTRAINT)] [])) (fun _ k => XS.astore X103.here hx rfl (hb hby at_93) rfl rfl (l' := #[.val (.int p1), .val (.ref b32), .val (.int (8 : Int32)), .val (.ref w_ENABLE_CONSTRAINT), .val (.ref w_DISABLE_CONSTRAINT), .val (.ref w_DISABLE_CONSTRAINT)]) rfl k) ?_
    refine Go.st (S' := T103.setTop (mkF m 97 #[.val (.int p1), .val (.ref b32), .val (.int (8 : Int32)), .val (.ref w_ENABLE_CONSTRAINT), .val (.ref w_DISABLE_CONSTRAINT), .val (.ref w_DISABLE_CONSTRAINT)] [(.ref w_DISABLE_CONSTRAINT)])) (fun _ k => XS.aload X103.here hx rfl (hb hby at_95) rfl rfl k) ?_
    refine Go.st (S' := T103.setTop (mkF m 99 #[.val (.int p1), .val (.ref b32), .val (.int (8 : Int32)), .val (.ref w_ENABLE_CONSTRAINT), .val (.ref w_DISABLE_CONSTRAINT), .val (.ref w_DISABLE_CONSTRAINT)] [(.ref w_DISABLE_CONSTRAINT), (.ref w_DISABLE_CONSTRAINT)])) (fun _ k => XS.aload X103.here hx rfl (hb hby at_97) rfl rfl k) ?_
    refine Go.st (S' := T103.setTop (mkF m 104 #[.val (.int p1), .val (.ref b32), .val (.int (8 : Int32)), .val (.ref w_ENABLE_CONSTRAINT), .val (.ref w_DISABLE_CONSTRAINT), .val (.ref w_DISABLE_CONSTRAINT)] [])) (fun _ k => Jvm.RoadKit.acmp (g := (mkF m 99 #[.val (.int p1), .val (.ref b32), .val (.int (8 : Int32)), .val (.ref w_ENABLE_CONSTRAINT), .val (.ref w_DISABLE_CONSTRAINT), .val (.ref w_DISABLE_CONSTRAINT)] [(.ref w_DISABLE_CONSTRAINT), (.ref w_DISABLE_CONSTRAINT)])) X103 hx rfl rfl rfl (pc0 := 99) (pc' := 104) (same := true) rfl (hb hby at_99) rfl (decide_eq_true rfl) (by decide) (by decide) k) ?_
    refine Go.st (S' := T103.setTop (mkF m 106 #[.val (.int p1), .val (.ref b32), .val (.int (8 : Int32)), .val (.ref w_ENABLE_CONSTRAINT), .val (.ref w_DISABLE_CONSTRAINT), .val (.ref w_DISABLE_CONSTRAINT)] [(.ref w_DISABLE_CONSTRAINT)])) (fun _ k => XS.aload X103.here hx rfl (hb hby at_104) rfl rfl k) ?_
    obtain ⟨_, T104, L104, X104, ⟨rfl, Nq104, eq104⟩, st104⟩ := own_callV X103 hx hZ hown (ww hw 25 rfl) (ww hw 26 rfl) (notFace_of_selects (args := #[]) (mvT hZ (ww hw 28 rfl))) (ww hw 28 rfl) (ww hw 27 rfl) (ww hw 3 rfl) (ww hw 29 rfl) (by decide) eq103 (E_DISABLE_CONSTRAINT.ext O52) (rm1 l Z a0 hw [] w_ENABLE w_DISABLE w_ASSIGN w_DEASSIGN w_GRANT w_REVOKE w_ACTIVATE w_DEACTIVATE w_ENABLE_CONSTRAINT w_DISABLE_CONSTRAINT hS w_DISABLE_CONSTRAINT 9 w_ENABLE_CONSTRAINT (Or.inr (Or.inr (Or.inr (Or.inr (Or.inr (Or.inr (Or.inr (Or.inr (Or.inr ⟨rfl, rfl⟩))))))))) h52 O52 (E_DISABLE_CONSTRAINT.ext O52) (F_DISABLE_CONSTRAINT_ordinal.ext O52)) 0 (by decide) (by decide) (by decide) (by decide) (g := (mkF m 106 #[.val (.int p1), .val (.ref b32), .val (.int (8 : Int32)), .val (.ref w_ENABLE_CONSTRAINT), .val (.ref w_DISABLE_CONSTRAINT), .val (.ref w_DISABLE_CONSTRAINT)] [(.ref w_DISABLE_CONSTRAINT)])) rfl (by rw [hml]; rfl) [] [] rfl (lenOf pd_28917 rfl) rfl (by show 2 * 0 + _ ≤ _; exact Nat.le_of_eq rfl) (hb hby at_106)
    have N104 := Fr.app N103 Nq104
    refine Go.st (S' := T104.setTop (mkF m 109 #[.val (.int p1), .val (.ref b32), .val (.int (8 : Int32)), .val (.ref w_ENABLE_CONSTRAINT), .val (.ref w_DISABLE_CONSTRAINT), .val (.ref w_DISABLE_CONSTRAINT)] [(.ref w_ENABLE_CONSTRAINT)])) st104 ?_
    refine Go.st (S' := T104.setTop (mkF m 110 #[.val (.int p1), .val (.ref b32), .val (.int (8 : Int32)), .val (.ref w_ENABLE_CONSTRAINT), .val (.ref w_DISABLE_CONSTRAINT), .val (.ref w_DISABLE_CONSTRAINT)] [(.ref w_ENABLE_CONSTRAINT), (.ref w_ENABLE_CONSTRAINT)])) (fun _ k => XS.aloadN X104.here hx rfl (hb hby at_109) rfl rfl k) ?_
    refine Go.st (S' := T104.setTop (mkF m 115 #[.val (.int p1), .val (.ref b32), .val (.int (8 : Int32)), .val (.ref w_ENABLE_CONSTRAINT), .val (.ref w_DISABLE_CONSTRAINT), .val (.ref w_DISABLE_CONSTRAINT)] [])) (fun _ k => Jvm.RoadKit.acmp (g := (mkF m 110 #[.val (.int p1), .val (.ref b32), .val (.int (8 : Int32)), .val (.ref w_ENABLE_CONSTRAINT), .val (.ref w_DISABLE_CONSTRAINT), .val (.ref w_DISABLE_CONSTRAINT)] [(.ref w_ENABLE_CONSTRAINT), (.ref w_ENABLE_CONSTRAINT)])) X104 hx rfl rfl rfl (pc0 := 110) (pc' := 115) (same := true) rfl (hb hby at_110) rfl (decide_eq_true rfl) (by decide) (by decide) k) ?_
    refine Go.st (S' := T104.setTop (mkF m 117 #[.val (.int p1), .val (.ref b32), .val (.int (8 : Int32)), .val (.ref w_ENABLE_CONSTRAINT), .val (.ref w_DISABLE_CONSTRAINT), .val (.ref w_DISABLE_CONSTRAINT)] [(.ref w_DISABLE_CONSTRAINT)])) (fun _ k => XS.aload X104.here hx rfl (hb hby at_115) rfl rfl k) ?_
    obtain ⟨_, T105, L105, X105, ⟨rfl, Nq105, eq105⟩, st105⟩ := own_callV X104 hx hZ hown (ww hw 41 rfl) (ww hw 42 rfl) (notFace_of_selects (args := #[]) (mvT hZ (ww hw 44 rfl))) (ww hw 44 rfl) (ww hw 43 rfl) (ww hw 3 rfl) (ww hw 45 rfl) (by decide) eq104 (E_DISABLE_CONSTRAINT.ext O52) (rm3 l Z a0 hw [] w_ENABLE w_DISABLE w_ASSIGN w_DEASSIGN w_GRANT w_REVOKE w_ACTIVATE w_DEACTIVATE w_ENABLE_CONSTRAINT w_DISABLE_CONSTRAINT hS w_DISABLE_CONSTRAINT 9 1 (Or.inr (Or.inr (Or.inr (Or.inr (Or.inr (Or.inr (Or.inr (Or.inr (Or.inr ⟨rfl, rfl⟩))))))))) h52 O52 (E_DISABLE_CONSTRAINT.ext O52) (F_DISABLE_CONSTRAINT_ordinal.ext O52)) 0 (by decide) (by decide) (by decide) (by decide) (g := (mkF m 117 #[.val (.int p1), .val (.ref b32), .val (.int (8 : Int32)), .val (.ref w_ENABLE_CONSTRAINT), .val (.ref w_DISABLE_CONSTRAINT), .val (.ref w_DISABLE_CONSTRAINT)] [(.ref w_DISABLE_CONSTRAINT)])) rfl (by rw [hml]; rfl) [] [] rfl (lenOf pd_428490 rfl) rfl (by show 2 * 0 + _ ≤ _; exact Nat.le_of_eq rfl) (hb hby at_117)
    have N105 := Fr.app N104 Nq105
    refine Go.st (S' := T105.setTop (mkF m 120 #[.val (.int p1), .val (.ref b32), .val (.int (8 : Int32)), .val (.ref w_ENABLE_CONSTRAINT), .val (.ref w_DISABLE_CONSTRAINT), .val (.ref w_DISABLE_CONSTRAINT)] [(.int (1 : Int32))])) st105 ?_
    refine Go.st (S' := T105.setTop (mkF m 121 #[.val (.int p1), .val (.ref b32), .val (.int (8 : Int32)), .val (.ref w_ENABLE_CONSTRAINT), .val (.ref w_DISABLE_CONSTRAINT), .val (.ref w_DISABLE_CONSTRAINT)] [(.ref w_ENABLE_CONSTRAINT), (.int (1 : Int32))])) (fun _ k => XS.aloadN X105.here hx rfl (hb hby at_120) rfl rfl k) ?_
    obtain ⟨_, T106, L106, X106, ⟨rfl, Nq106, eq106⟩, st106⟩ := own_callV X105 hx hZ hown (ww hw 41 rfl) (ww hw 42 rfl) (notFace_of_selects (args := #[]) (mvT hZ (ww hw 44 rfl))) (ww hw 44 rfl) (ww hw 43 rfl) (ww hw 3 rfl) (ww hw 45 rfl) (by decide) eq105 (E_ENABLE_CONSTRAINT.ext O52) (rm3 l Z a0 hw [] w_ENABLE w_DISABLE w_ASSIGN w_DEASSIGN w_GRANT w_REVOKE w_ACTIVATE w_DEACTIVATE w_ENABLE_CONSTRAINT w_DISABLE_CONSTRAINT hS w_ENABLE_CONSTRAINT 8 0 (Or.inr (Or.inr (Or.inr (Or.inr (Or.inr (Or.inr (Or.inr (Or.inr (Or.inl ⟨rfl, rfl⟩))))))))) h52 O52 (E_ENABLE_CONSTRAINT.ext O52) (F_ENABLE_CONSTRAINT_ordinal.ext O52)) 1 (by decide) (by decide) (by decide) (by decide) (g := (mkF m 121 #[.val (.int p1), .val (.ref b32), .val (.int (8 : Int32)), .val (.ref w_ENABLE_CONSTRAINT), .val (.ref w_DISABLE_CONSTRAINT), .val (.ref w_DISABLE_CONSTRAINT)] [(.ref w_ENABLE_CONSTRAINT), (.int (1 : Int32))])) rfl (by rw [hml]; rfl) [] [(.int (1 : Int32))] rfl (lenOf pd_428490 rfl) rfl (by show 2 * 0 + _ ≤ _; exact Nat.le_of_eq rfl) (hb hby at_121)
    have N106 := Fr.app N105 Nq106
    refine Go.st (S' := T106.setTop (mkF m 124 #[.val (.int p1), .val (.ref b32), .val (.int (8 : Int32)), .val (.ref w_ENABLE_CONSTRAINT), .val (.ref w_DISABLE_CONSTRAINT), .val (.ref w_DISABLE_CONSTRAINT)] [(.int (0 : Int32)), (.int (1 : Int32))])) st106 ?_
    refine Go.st (S' := T106.setTop (mkF m 127 #[.val (.int p1), .val (.ref b32), .val (.int (8 : Int32)), .val (.ref w_ENABLE_CONSTRAINT), .val (.ref w_DISABLE_CONSTRAINT), .val (.ref w_DISABLE_CONSTRAINT)] [])) (fun _ k => XS.icmpNo X106.here hx rfl (hb hby at_124) rfl (feq (by decide)).1 k) ?_
    refine Go.st (S' := T106.setTop (mkF m 128 #[.val (.int p1), .val (.ref b32), .val (.int (8 : Int32)), .val (.ref w_ENABLE_CONSTRAINT), .val (.ref w_DISABLE_CONSTRAINT), .val (.ref w_DISABLE_CONSTRAINT)] [(.int (1 : Int32))])) (fun _ k => XS.iconst X106.here hx rfl (hb hby at_127) k) ?_
    refine Go.st (S' := T106.setTop (mkF m 132 #[.val (.int p1), .val (.ref b32), .val (.int (8 : Int32)), .val (.ref w_ENABLE_CONSTRAINT), .val (.ref w_DISABLE_CONSTRAINT), .val (.ref w_DISABLE_CONSTRAINT)] [(.int (1 : Int32))])) (fun _ k => XS.goto X106.here hx rfl (pc0 := 128) (pc' := 132) rfl (hb hby at_128) (by decide) (by decide) k) ?_
    exact own_retN X106 hx hlk hret (by simp) (hb hby at_132) eq106 ⟨rfl, N106⟩ (by decide) (by decide)
  · refine Go.st (S' := T52.setTop (mkF m 77 #[.val (.int p1), .val (.ref b32), .unset, .unset, .unset, .unset] [(.int (9 : Int32))])) (fun _ k => by rw [hk]; exact k) ?_
    refine Go.st (S' := T52.setTop (mkF m 78 #[.val (.int p1), .val (.ref b32), .val (.int (9 : Int32)), .unset, .unset, .unset] [])) (fun _ k => XS.istoreN X52.here hx rfl (hb hby at_77) rfl (l' := #[.val (.int p1), .val (.ref b32), .val (.int (9 : Int32)), .unset, .unset, .unset]) rfl k) ?_
    refine Go.st (S' := T52.setTop (mkF m 79 #[.val (.int p1), .val (.ref b32), .val (.int (9 : Int32)), .unset, .unset, .unset] [(.ref b32)])) (fun _ k => XS.aloadN X52.here hx rfl (hb hby at_78) rfl rfl k) ?_
    refine Go.st (S' := T52.setTop (mkF m 80 #[.val (.int p1), .val (.ref b32), .val (.int (9 : Int32)), .unset, .unset, .unset] [(.int (9 : Int32)), (.ref b32)])) (fun _ k => XS.iloadN X52.here hx rfl (hb hby at_79) rfl k) ?_
    refine Go.st (S' := T52.setTop (mkF m 81 #[.val (.int p1), .val (.ref b32), .val (.int (9 : Int32)), .unset, .unset, .unset] [(.ref w_DISABLE_CONSTRAINT)])) (own_ldR X52 hx hZ e52 V52 rfl ⟨by decide, by decide⟩ rfl (g := (mkF m 80 #[.val (.int p1), .val (.ref b32), .val (.int (9 : Int32)), .unset, .unset, .unset] [(.int (9 : Int32)), (.ref b32)])) rfl rfl (hb hby at_80)) ?_
    refine Go.st (S' := T52.setTop (mkF m 82 #[.val (.int p1), .val (.ref b32), .val (.int (9 : Int32)), .val (.ref w_DISABLE_CONSTRAINT), .unset, .unset] [])) (fun _ k => XS.astoreN X52.here hx rfl (hb hby at_81) rfl rfl (l' := #[.val (.int p1), .val (.ref b32), .val (.int (9 : Int32)), .val (.ref w_DISABLE_CONSTRAINT), .unset, .unset]) rfl k) ?_
    refine Go.st (S' := T52.setTop (mkF m 83 #[.val (.int p1), .val (.ref b32), .val (.int (9 : Int32)), .val (.ref w_DISABLE_CONSTRAINT), .unset, .unset] [(.ref b32)])) (fun _ k => XS.aloadN X52.here hx rfl (hb hby at_82) rfl rfl k) ?_
    refine Go.st (S' := T52.setTop (mkF m 84 #[.val (.int p1), .val (.ref b32), .val (.int (9 : Int32)), .val (.ref w_DISABLE_CONSTRAINT), .unset, .unset] [(.int (9 : Int32)), (.ref b32)])) (fun _ k => XS.iloadN X52.here hx rfl (hb hby at_83) rfl k) ?_
    refine Go.st (S' := T52.setTop (mkF m 85 #[.val (.int p1), .val (.ref b32), .val (.int (9 : Int32)), .val (.ref w_DISABLE_CONSTRAINT), .unset, .unset] [(.int (1 : Int32)), (.int (9 : Int32)), (.ref b32)])) (fun _ k => XS.iconst X52.here hx rfl (hb hby at_84) k) ?_
    refine Go.st (S' := T52.setTop (mkF m 86 #[.val (.int p1), .val (.ref b32), .val (.int (9 : Int32)), .val (.ref w_DISABLE_CONSTRAINT), .unset, .unset] [(.int (8 : Int32)), (.ref b32)])) (fun _ k => XS.ixor X52.here hx rfl (hb hby at_85) rfl k) ?_
    refine Go.st (S' := T52.setTop (mkF m 87 #[.val (.int p1), .val (.ref b32), .val (.int (9 : Int32)), .val (.ref w_DISABLE_CONSTRAINT), .unset, .unset] [(.ref w_ENABLE_CONSTRAINT)])) (own_ldR X52 hx hZ e52 V52 rfl ⟨by decide, by decide⟩ rfl (g := (mkF m 86 #[.val (.int p1), .val (.ref b32), .val (.int (9 : Int32)), .val (.ref w_DISABLE_CONSTRAINT), .unset, .unset] [(.int (8 : Int32)), (.ref b32)])) rfl rfl (hb hby at_86)) ?_
    refine Go.st (S' := T52.setTop (mkF m 89 #[.val (.int p1), .val (.ref b32), .val (.int (9 : Int32)), .val (.ref w_DISABLE_CONSTRAINT), .val (.ref w_ENABLE_CONSTRAINT), .unset] [])) (fun _ k => XS.astore X52.here hx rfl (hb hby at_87) rfl rfl (l' := #[.val (.int p1), .val (.ref b32), .val (.int (9 : Int32)), .val (.ref w_DISABLE_CONSTRAINT), .val (.ref w_ENABLE_CONSTRAINT), .unset]) rfl k) ?_
    refine Go.st (S' := T52.setTop (mkF m 90 #[.val (.int p1), .val (.ref b32), .val (.int (9 : Int32)), .val (.ref w_DISABLE_CONSTRAINT), .val (.ref w_ENABLE_CONSTRAINT), .unset] [(.ref w_DISABLE_CONSTRAINT)])) (fun _ k => XS.aloadN X52.here hx rfl (hb hby at_89) rfl rfl k) ?_
    obtain ⟨_, T109, L109, X109, ⟨rfl, Nq109, eq109⟩, st109⟩ := own_callV X52 hx hZ hown (ww hw 25 rfl) (ww hw 26 rfl) (notFace_of_selects (args := #[]) (mvT hZ (ww hw 28 rfl))) (ww hw 28 rfl) (ww hw 27 rfl) (ww hw 3 rfl) (ww hw 29 rfl) (by decide) e52 (E_DISABLE_CONSTRAINT.ext O52) (rm1 l Z a0 hw [] w_ENABLE w_DISABLE w_ASSIGN w_DEASSIGN w_GRANT w_REVOKE w_ACTIVATE w_DEACTIVATE w_ENABLE_CONSTRAINT w_DISABLE_CONSTRAINT hS w_DISABLE_CONSTRAINT 9 w_ENABLE_CONSTRAINT (Or.inr (Or.inr (Or.inr (Or.inr (Or.inr (Or.inr (Or.inr (Or.inr (Or.inr ⟨rfl, rfl⟩))))))))) h52 O52 (E_DISABLE_CONSTRAINT.ext O52) (F_DISABLE_CONSTRAINT_ordinal.ext O52)) 0 (by decide) (by decide) (by decide) (by decide) (g := (mkF m 90 #[.val (.int p1), .val (.ref b32), .val (.int (9 : Int32)), .val (.ref w_DISABLE_CONSTRAINT), .val (.ref w_ENABLE_CONSTRAINT), .unset] [(.ref w_DISABLE_CONSTRAINT)])) rfl (by rw [hml]; rfl) [] [] rfl (lenOf pd_28917 rfl) rfl (by show 2 * 0 + _ ≤ _; exact Nat.le_of_eq rfl) (hb hby at_90)
    have N109 := Fr.app N52 Nq109
    refine Go.st (S' := T109.setTop (mkF m 93 #[.val (.int p1), .val (.ref b32), .val (.int (9 : Int32)), .val (.ref w_DISABLE_CONSTRAINT), .val (.ref w_ENABLE_CONSTRAINT), .unset] [(.ref w_ENABLE_CONSTRAINT)])) st109 ?_
    refine Go.st (S' := T109.setTop (mkF m 95 #[.val (.int p1), .val (.ref b32), .val (.int (9 : Int32)), .val (.ref w_DISABLE_CONSTRAINT), .val (.ref w_ENABLE_CONSTRAINT), .val (.ref w_ENABLE_CONSTRAINT)] [])) (fun _ k => XS.astore X109.here hx rfl (hb hby at_93) rfl rfl (l' := #[.val (.int p1), .val (.ref b32), .val (.int (9 : Int32)), .val (.ref w_DISABLE_CONSTRAINT), .val (.ref w_ENABLE_CONSTRAINT), .val (.ref w_ENABLE_CONSTRAINT)]) rfl k) ?_
    refine Go.st (S' := T109.setTop (mkF m 97 #[.val (.int p1), .val (.ref b32), .val (.int (9 : Int32)), .val (.ref w_DISABLE_CONSTRAINT), .val (.ref w_ENABLE_CONSTRAINT), .val (.ref w_ENABLE_CONSTRAINT)] [(.ref w_ENABLE_CONSTRAINT)])) (fun _ k => XS.aload X109.here hx rfl (hb hby at_95) rfl rfl k) ?_
    refine Go.st (S' := T109.setTop (mkF m 99 #[.val (.int p1), .val (.ref b32), .val (.int (9 : Int32)), .val (.ref w_DISABLE_CONSTRAINT), .val (.ref w_ENABLE_CONSTRAINT), .val (.ref w_ENABLE_CONSTRAINT)] [(.ref w_ENABLE_CONSTRAINT), (.ref w_ENABLE_CONSTRAINT)])) (fun _ k => XS.aload X109.here hx rfl (hb hby at_97) rfl rfl k) ?_
    refine Go.st (S' := T109.setTop (mkF m 104 #[.val (.int p1), .val (.ref b32), .val (.int (9 : Int32)), .val (.ref w_DISABLE_CONSTRAINT), .val (.ref w_ENABLE_CONSTRAINT), .val (.ref w_ENABLE_CONSTRAINT)] [])) (fun _ k => Jvm.RoadKit.acmp (g := (mkF m 99 #[.val (.int p1), .val (.ref b32), .val (.int (9 : Int32)), .val (.ref w_DISABLE_CONSTRAINT), .val (.ref w_ENABLE_CONSTRAINT), .val (.ref w_ENABLE_CONSTRAINT)] [(.ref w_ENABLE_CONSTRAINT), (.ref w_ENABLE_CONSTRAINT)])) X109 hx rfl rfl rfl (pc0 := 99) (pc' := 104) (same := true) rfl (hb hby at_99) rfl (decide_eq_true rfl) (by decide) (by decide) k) ?_
    refine Go.st (S' := T109.setTop (mkF m 106 #[.val (.int p1), .val (.ref b32), .val (.int (9 : Int32)), .val (.ref w_DISABLE_CONSTRAINT), .val (.ref w_ENABLE_CONSTRAINT), .val (.ref w_ENABLE_CONSTRAINT)] [(.ref w_ENABLE_CONSTRAINT)])) (fun _ k => XS.aload X109.here hx rfl (hb hby at_104) rfl rfl k) ?_
    obtain ⟨_, T110, L110, X110, ⟨rfl, Nq110, eq110⟩, st110⟩ := own_callV X109 hx hZ hown (ww hw 25 rfl) (ww hw 26 rfl) (notFace_of_selects (args := #[]) (mvT hZ (ww hw 28 rfl))) (ww hw 28 rfl) (ww hw 27 rfl) (ww hw 3 rfl) (ww hw 29 rfl) (by decide) eq109 (E_ENABLE_CONSTRAINT.ext O52) (rm1 l Z a0 hw [] w_ENABLE w_DISABLE w_ASSIGN w_DEASSIGN w_GRANT w_REVOKE w_ACTIVATE w_DEACTIVATE w_ENABLE_CONSTRAINT w_DISABLE_CONSTRAINT hS w_ENABLE_CONSTRAINT 8 w_DISABLE_CONSTRAINT (Or.inr (Or.inr (Or.inr (Or.inr (Or.inr (Or.inr (Or.inr (Or.inr (Or.inl ⟨rfl, rfl⟩))))))))) h52 O52 (E_ENABLE_CONSTRAINT.ext O52) (F_ENABLE_CONSTRAINT_ordinal.ext O52)) 0 (by decide) (by decide) (by decide) (by decide) (g := (mkF m 106 #[.val (.int p1), .val (.ref b32), .val (.int (9 : Int32)), .val (.ref w_DISABLE_CONSTRAINT), .val (.ref w_ENABLE_CONSTRAINT), .val (.ref w_ENABLE_CONSTRAINT)] [(.ref w_ENABLE_CONSTRAINT)])) rfl (by rw [hml]; rfl) [] [] rfl (lenOf pd_28917 rfl) rfl (by show 2 * 0 + _ ≤ _; exact Nat.le_of_eq rfl) (hb hby at_106)
    have N110 := Fr.app N109 Nq110
    refine Go.st (S' := T110.setTop (mkF m 109 #[.val (.int p1), .val (.ref b32), .val (.int (9 : Int32)), .val (.ref w_DISABLE_CONSTRAINT), .val (.ref w_ENABLE_CONSTRAINT), .val (.ref w_ENABLE_CONSTRAINT)] [(.ref w_DISABLE_CONSTRAINT)])) st110 ?_
    refine Go.st (S' := T110.setTop (mkF m 110 #[.val (.int p1), .val (.ref b32), .val (.int (9 : Int32)), .val (.ref w_DISABLE_CONSTRAINT), .val (.ref w_ENABLE_CONSTRAINT), .val (.ref w_ENABLE_CONSTRAINT)] [(.ref w_DISABLE_CONSTRAINT), (.ref w_DISABLE_CONSTRAINT)])) (fun _ k => XS.aloadN X110.here hx rfl (hb hby at_109) rfl rfl k) ?_
    refine Go.st (S' := T110.setTop (mkF m 115 #[.val (.int p1), .val (.ref b32), .val (.int (9 : Int32)), .val (.ref w_DISABLE_CONSTRAINT), .val (.ref w_ENABLE_CONSTRAINT), .val (.ref w_ENABLE_CONSTRAINT)] [])) (fun _ k => Jvm.RoadKit.acmp (g := (mkF m 110 #[.val (.int p1), .val (.ref b32), .val (.int (9 : Int32)), .val (.ref w_DISABLE_CONSTRAINT), .val (.ref w_ENABLE_CONSTRAINT), .val (.ref w_ENABLE_CONSTRAINT)] [(.ref w_DISABLE_CONSTRAINT), (.ref w_DISABLE_CONSTRAINT)])) X110 hx rfl rfl rfl (pc0 := 110) (pc' := 115) (same := true) rfl (hb hby at_110) rfl (decide_eq_true rfl) (by decide) (by decide) k) ?_
    refine Go.st (S' := T110.setTop (mkF m 117 #[.val (.int p1), .val (.ref b32), .val (.int (9 : Int32)), .val (.ref w_DISABLE_CONSTRAINT), .val (.ref w_ENABLE_CONSTRAINT), .val (.ref w_ENABLE_CONSTRAINT)] [(.ref w_ENABLE_CONSTRAINT)])) (fun _ k => XS.aload X110.here hx rfl (hb hby at_115) rfl rfl k) ?_
    obtain ⟨_, T111, L111, X111, ⟨rfl, Nq111, eq111⟩, st111⟩ := own_callV X110 hx hZ hown (ww hw 41 rfl) (ww hw 42 rfl) (notFace_of_selects (args := #[]) (mvT hZ (ww hw 44 rfl))) (ww hw 44 rfl) (ww hw 43 rfl) (ww hw 3 rfl) (ww hw 45 rfl) (by decide) eq110 (E_ENABLE_CONSTRAINT.ext O52) (rm3 l Z a0 hw [] w_ENABLE w_DISABLE w_ASSIGN w_DEASSIGN w_GRANT w_REVOKE w_ACTIVATE w_DEACTIVATE w_ENABLE_CONSTRAINT w_DISABLE_CONSTRAINT hS w_ENABLE_CONSTRAINT 8 0 (Or.inr (Or.inr (Or.inr (Or.inr (Or.inr (Or.inr (Or.inr (Or.inr (Or.inl ⟨rfl, rfl⟩))))))))) h52 O52 (E_ENABLE_CONSTRAINT.ext O52) (F_ENABLE_CONSTRAINT_ordinal.ext O52)) 0 (by decide) (by decide) (by decide) (by decide) (g := (mkF m 117 #[.val (.int p1), .val (.ref b32), .val (.int (9 : Int32)), .val (.ref w_DISABLE_CONSTRAINT), .val (.ref w_ENABLE_CONSTRAINT), .val (.ref w_ENABLE_CONSTRAINT)] [(.ref w_ENABLE_CONSTRAINT)])) rfl (by rw [hml]; rfl) [] [] rfl (lenOf pd_428490 rfl) rfl (by show 2 * 0 + _ ≤ _; exact Nat.le_of_eq rfl) (hb hby at_117)
    have N111 := Fr.app N110 Nq111
    refine Go.st (S' := T111.setTop (mkF m 120 #[.val (.int p1), .val (.ref b32), .val (.int (9 : Int32)), .val (.ref w_DISABLE_CONSTRAINT), .val (.ref w_ENABLE_CONSTRAINT), .val (.ref w_ENABLE_CONSTRAINT)] [(.int (0 : Int32))])) st111 ?_
    refine Go.st (S' := T111.setTop (mkF m 121 #[.val (.int p1), .val (.ref b32), .val (.int (9 : Int32)), .val (.ref w_DISABLE_CONSTRAINT), .val (.ref w_ENABLE_CONSTRAINT), .val (.ref w_ENABLE_CONSTRAINT)] [(.ref w_DISABLE_CONSTRAINT), (.int (0 : Int32))])) (fun _ k => XS.aloadN X111.here hx rfl (hb hby at_120) rfl rfl k) ?_
    obtain ⟨_, T112, L112, X112, ⟨rfl, Nq112, eq112⟩, st112⟩ := own_callV X111 hx hZ hown (ww hw 41 rfl) (ww hw 42 rfl) (notFace_of_selects (args := #[]) (mvT hZ (ww hw 44 rfl))) (ww hw 44 rfl) (ww hw 43 rfl) (ww hw 3 rfl) (ww hw 45 rfl) (by decide) eq111 (E_DISABLE_CONSTRAINT.ext O52) (rm3 l Z a0 hw [] w_ENABLE w_DISABLE w_ASSIGN w_DEASSIGN w_GRANT w_REVOKE w_ACTIVATE w_DEACTIVATE w_ENABLE_CONSTRAINT w_DISABLE_CONSTRAINT hS w_DISABLE_CONSTRAINT 9 1 (Or.inr (Or.inr (Or.inr (Or.inr (Or.inr (Or.inr (Or.inr (Or.inr (Or.inr ⟨rfl, rfl⟩))))))))) h52 O52 (E_DISABLE_CONSTRAINT.ext O52) (F_DISABLE_CONSTRAINT_ordinal.ext O52)) 1 (by decide) (by decide) (by decide) (by decide) (g := (mkF m 121 #[.val (.int p1), .val (.ref b32), .val (.int (9 : Int32)), .val (.ref w_DISABLE_CONSTRAINT), .val (.ref w_ENABLE_CONSTRAINT), .val (.ref w_ENABLE_CONSTRAINT)] [(.ref w_DISABLE_CONSTRAINT), (.int (0 : Int32))])) rfl (by rw [hml]; rfl) [] [(.int (0 : Int32))] rfl (lenOf pd_428490 rfl) rfl (by show 2 * 0 + _ ≤ _; exact Nat.le_of_eq rfl) (hb hby at_121)
    have N112 := Fr.app N111 Nq112
    refine Go.st (S' := T112.setTop (mkF m 124 #[.val (.int p1), .val (.ref b32), .val (.int (9 : Int32)), .val (.ref w_DISABLE_CONSTRAINT), .val (.ref w_ENABLE_CONSTRAINT), .val (.ref w_ENABLE_CONSTRAINT)] [(.int (1 : Int32)), (.int (0 : Int32))])) st112 ?_
    refine Go.st (S' := T112.setTop (mkF m 127 #[.val (.int p1), .val (.ref b32), .val (.int (9 : Int32)), .val (.ref w_DISABLE_CONSTRAINT), .val (.ref w_ENABLE_CONSTRAINT), .val (.ref w_ENABLE_CONSTRAINT)] [])) (fun _ k => XS.icmpNo X112.here hx rfl (hb hby at_124) rfl (feq (by decide)).1 k) ?_
    refine Go.st (S' := T112.setTop (mkF m 128 #[.val (.int p1), .val (.ref b32), .val (.int (9 : Int32)), .val (.ref w_DISABLE_CONSTRAINT), .val (.ref w_ENABLE_CONSTRAINT), .val (.ref w_ENABLE_CONSTRAINT)] [(.int (1 : Int32))])) (fun _ k => XS.iconst X112.here hx rfl (hb hby at_127) k) ?_
    refine Go.st (S' := T112.setTop (mkF m 132 #[.val (.int p1), .val (.ref b32), .val (.int (9 : Int32)), .val (.ref w_DISABLE_CONSTRAINT), .val (.ref w_ENABLE_CONSTRAINT), .val (.ref w_ENABLE_CONSTRAINT)] [(.int (1 : Int32))])) (fun _ k => XS.goto X112.here hx rfl (pc0 := 128) (pc' := 132) rfl (hb hby at_128) (by decide) (by decide) k) ?_
    exact own_retN X112 hx hlk hret (by simp) (hb hby at_132) eq112 ⟨rfl, N112⟩ (by decide) (by decide)
set_option maxRecDepth 65536 in
set_option maxHeartbeats 400000000 in
theorem comes_1 {Post : Tables → Env → Array Value → State → Outcome → State → Prop} (hpost : ∀ tb e args s v u, (limb_1_1.after args s (.returned v) u = true ∧ limb_1_2.after args s (.returned v) u = true ∧ True) → FrameEnd s (.returned v) u (Jvm.fieldLocs frame_1_writes args s ++ Jvm.arrayLocs frame_1_arrays args s ++ Jvm.staticLocs frame_1_statics s) 16 128 → Post tb e args s (.returned v) u) :
    ArmFor flags0 classFile x code maxLocals ret World_1 tables_1 room_1 Calls_1 rest_1 Pre_1 Post := by
  intro l hfl _ _ p e ha hc hk s m args below hf hA hF happ hP
  obtain ⟨hcalls, hrest, hpre⟩ := hP
  obtain ⟨-, -, -, hnamed, -, -, -, hat⟩ := (Spec.applies_iff hf).mp happ
  obtain ⟨hg, hn⟩ := and_e (Cond.before_iff.mp (show (Jvm.Cond.and given_1 narrow_1).before args s = true from hpre))
  obtain ⟨hg1, hg2⟩ := and_e hg
  obtain ⟨v0, rfl⟩ : ∃ v0 : Value, args = #[v0] := by
    have hs : args.size = 1 := by simpa [Cond.value, given_1] using hg1
    obtain ⟨L⟩ := args
    match L, hs with
    | [v0], _ => exact ⟨v0, rfl⟩
  have hw := fun d (hd : d ∈ tables_1) => atoms_spec (ws := Jvm.Cond.code x code maxLocals ret :: tables_1) hat d (List.mem_cons_of_mem _ hd)
  have hfit : Fit s := fun {y c} hc i hi => by
    obtain ⟨ha, rfl⟩ := Array.getElem?_eq_some_iff.mp hc
    have q := List.all_eq_true.mp ((Array.all_eq_true_iff_forall_mem.mp hF) _ (Array.getElem_mem ha)) i (List.mem_range.mpr hi)
    simpa [Array.getElem?_eq_getElem hi] using q
  obtain ⟨i0, ei0⟩ := is_v hg2
  obtain rfl : v0 = (.int i0) := Option.some.inj ei0
  obtain ⟨hn1, hn2⟩ := and_e hn
  obtain ⟨hn3, hn4⟩ := and_e hn2
  obtain ⟨hn5, hn6⟩ := and_e hn4
  obtain ⟨hn7, hn8⟩ := and_e hn6
  obtain ⟨hn9, hn10⟩ := and_e hn8
  obtain ⟨hn11, hn12⟩ := and_e hn10
  obtain ⟨hn13, hn14⟩ := and_e hn12
  obtain ⟨hn15, hn16⟩ := and_e hn14
  obtain ⟨hn17, hn18⟩ := and_e hn16
  obtain ⟨hn19, hn20⟩ := and_e hn18
  obtain ⟨hn21, hn22⟩ := and_e hn20
  obtain ⟨hn23, hn24⟩ := and_e hn22
  obtain ⟨hn25, hn26⟩ := and_e hn24
  obtain ⟨hn27, hn28⟩ := and_e hn26
  obtain ⟨hn29, hn30⟩ := and_e hn28
  obtain ⟨hn31, hn32⟩ := and_e hn30
  obtain ⟨hn33, hn34⟩ := and_e hn32
  obtain ⟨hn35, hn36⟩ := and_e hn34
  obtain ⟨hn37, hn38⟩ := and_e hn36
  obtain ⟨w_ENABLE, ev_ENABLE⟩ := exa_v hn1
  have S_ENABLE : Sta s s.heap "com/example/timed_rbac/timedrbac/policy/Action" "ENABLE" "Lcom/example/timed_rbac/timedrbac/policy/Action;" (.ref w_ENABLE) := Sta.start ev_ENABLE (Or.inr ⟨(ww hw 3 rfl), (ww hw 4 rfl)⟩)
  have E_ENABLE : Exa s s.heap w_ENABLE "com/example/timed_rbac/timedrbac/policy/Action" := Exa.start ev_ENABLE hn1
  obtain ⟨w_DISABLE, ev_DISABLE⟩ := exa_v hn3
  have S_DISABLE : Sta s s.heap "com/example/timed_rbac/timedrbac/policy/Action" "DISABLE" "Lcom/example/timed_rbac/timedrbac/policy/Action;" (.ref w_DISABLE) := Sta.start ev_DISABLE (Or.inr ⟨(ww hw 3 rfl), (ww hw 7 rfl)⟩)
  have E_DISABLE : Exa s s.heap w_DISABLE "com/example/timed_rbac/timedrbac/policy/Action" := Exa.start ev_DISABLE hn3
  obtain ⟨w_ASSIGN, ev_ASSIGN⟩ := exa_v hn5
  have S_ASSIGN : Sta s s.heap "com/example/timed_rbac/timedrbac/policy/Action" "ASSIGN" "Lcom/example/timed_rbac/timedrbac/policy/Action;" (.ref w_ASSIGN) := Sta.start ev_ASSIGN (Or.inr ⟨(ww hw 3 rfl), (ww hw 9 rfl)⟩)
  have E_ASSIGN : Exa s s.heap w_ASSIGN "com/example/timed_rbac/timedrbac/policy/Action" := Exa.start ev_ASSIGN hn5
  obtain ⟨w_DEASSIGN, ev_DEASSIGN⟩ := exa_v hn7
  have S_DEASSIGN : Sta s s.heap "com/example/timed_rbac/timedrbac/policy/Action" "DEASSIGN" "Lcom/example/timed_rbac/timedrbac/policy/Action;" (.ref w_DEASSIGN) := Sta.start ev_DEASSIGN (Or.inr ⟨(ww hw 3 rfl), (ww hw 11 rfl)⟩)
  have E_DEASSIGN : Exa s s.heap w_DEASSIGN "com/example/timed_rbac/timedrbac/policy/Action" := Exa.start ev_DEASSIGN hn7
  obtain ⟨w_GRANT, ev_GRANT⟩ := exa_v hn9
  have S_GRANT : Sta s s.heap "com/example/timed_rbac/timedrbac/policy/Action" "GRANT" "Lcom/example/timed_rbac/timedrbac/policy/Action;" (.ref w_GRANT) := Sta.start ev_GRANT (Or.inr ⟨(ww hw 3 rfl), (ww hw 13 rfl)⟩)
  have E_GRANT : Exa s s.heap w_GRANT "com/example/timed_rbac/timedrbac/policy/Action" := Exa.start ev_GRANT hn9
  obtain ⟨w_REVOKE, ev_REVOKE⟩ := exa_v hn11
  have S_REVOKE : Sta s s.heap "com/example/timed_rbac/timedrbac/policy/Action" "REVOKE" "Lcom/example/timed_rbac/timedrbac/policy/Action;" (.ref w_REVOKE) := Sta.start ev_REVOKE (Or.inr ⟨(ww hw 3 rfl), (ww hw 15 rfl)⟩)
  have E_REVOKE : Exa s s.heap w_REVOKE "com/example/timed_rbac/timedrbac/policy/Action" := Exa.start ev_REVOKE hn11
  obtain ⟨w_ACTIVATE, ev_ACTIVATE⟩ := exa_v hn13
  have S_ACTIVATE : Sta s s.heap "com/example/timed_rbac/timedrbac/policy/Action" "ACTIVATE" "Lcom/example/timed_rbac/timedrbac/policy/Action;" (.ref w_ACTIVATE) := Sta.start ev_ACTIVATE (Or.inr ⟨(ww hw 3 rfl), (ww hw 17 rfl)⟩)
  have E_ACTIVATE : Exa s s.heap w_ACTIVATE "com/example/timed_rbac/timedrbac/policy/Action" := Exa.start ev_ACTIVATE hn13
  obtain ⟨w_DEACTIVATE, ev_DEACTIVATE⟩ := exa_v hn15
  have S_DEACTIVATE : Sta s s.heap "com/example/timed_rbac/timedrbac/policy/Action" "DEACTIVATE" "Lcom/example/timed_rbac/timedrbac/policy/Action;" (.ref w_DEACTIVATE) := Sta.start ev_DEACTIVATE (Or.inr ⟨(ww hw 3 rfl), (ww hw 19 rfl)⟩)
  have E_DEACTIVATE : Exa s s.heap w_DEACTIVATE "com/example/timed_rbac/timedrbac/policy/Action" := Exa.start ev_DEACTIVATE hn15
  obtain ⟨w_ENABLE_CONSTRAINT, ev_ENABLE_CONSTRAINT⟩ := exa_v hn17
  have S_ENABLE_CONSTRAINT : Sta s s.heap "com/example/timed_rbac/timedrbac/policy/Action" "ENABLE_CONSTRAINT" "Lcom/example/timed_rbac/timedrbac/policy/Action;" (.ref w_ENABLE_CONSTRAINT) := Sta.start ev_ENABLE_CONSTRAINT (Or.inr ⟨(ww hw 3 rfl), (ww hw 21 rfl)⟩)
  have E_ENABLE_CONSTRAINT : Exa s s.heap w_ENABLE_CONSTRAINT "com/example/timed_rbac/timedrbac/policy/Action" := Exa.start ev_ENABLE_CONSTRAINT hn17
  obtain ⟨w_DISABLE_CONSTRAINT, ev_DISABLE_CONSTRAINT⟩ := exa_v hn19
  have S_DISABLE_CONSTRAINT : Sta s s.heap "com/example/timed_rbac/timedrbac/policy/Action" "DISABLE_CONSTRAINT" "Lcom/example/timed_rbac/timedrbac/policy/Action;" (.ref w_DISABLE_CONSTRAINT) := Sta.start ev_DISABLE_CONSTRAINT (Or.inr ⟨(ww hw 3 rfl), (ww hw 23 rfl)⟩)
  have E_DISABLE_CONSTRAINT : Exa s s.heap w_DISABLE_CONSTRAINT "com/example/timed_rbac/timedrbac/policy/Action" := Exa.start ev_DISABLE_CONSTRAINT hn19
  have F_ENABLE_ordinal : Fld s s.heap w_ENABLE "java/lang/Enum" "ordinal" "I" (.int (0 : Int32)) := own_fldI ev_ENABLE hn21
  have F_DISABLE_ordinal : Fld s s.heap w_DISABLE "java/lang/Enum" "ordinal" "I" (.int (1 : Int32)) := own_fldI ev_DISABLE hn23
  have F_DEASSIGN_ordinal : Fld s s.heap w_DEASSIGN "java/lang/Enum" "ordinal" "I" (.int (3 : Int32)) := own_fldI ev_DEASSIGN hn25
  have F_ASSIGN_ordinal : Fld s s.heap w_ASSIGN "java/lang/Enum" "ordinal" "I" (.int (2 : Int32)) := own_fldI ev_ASSIGN hn27
  have F_GRANT_ordinal : Fld s s.heap w_GRANT "java/lang/Enum" "ordinal" "I" (.int (4 : Int32)) := own_fldI ev_GRANT hn29
  have F_REVOKE_ordinal : Fld s s.heap w_REVOKE "java/lang/Enum" "ordinal" "I" (.int (5 : Int32)) := own_fldI ev_REVOKE hn31
  have F_DEACTIVATE_ordinal : Fld s s.heap w_DEACTIVATE "java/lang/Enum" "ordinal" "I" (.int (7 : Int32)) := own_fldI ev_DEACTIVATE hn33
  have F_ACTIVATE_ordinal : Fld s s.heap w_ACTIVATE "java/lang/Enum" "ordinal" "I" (.int (6 : Int32)) := own_fldI ev_ACTIVATE hn35
  have F_ENABLE_CONSTRAINT_ordinal : Fld s s.heap w_ENABLE_CONSTRAINT "java/lang/Enum" "ordinal" "I" (.int (8 : Int32)) := own_fldI ev_ENABLE_CONSTRAINT hn37
  have F_DISABLE_CONSTRAINT_ordinal : Fld s s.heap w_DISABLE_CONSTRAINT "java/lang/Enum" "ordinal" "I" (.int (9 : Int32)) := own_fldI ev_DISABLE_CONSTRAINT hn38
  obtain ⟨n, o, h1, h2, h3, _, L, rfl, ⟨rfl, N⟩, hq⟩ := rm0 l s _ hw tables_1 w_ENABLE w_DISABLE w_ASSIGN w_DEASSIGN w_GRANT w_REVOKE w_ACTIVATE w_DEACTIVATE w_ENABLE_CONSTRAINT w_DISABLE_CONSTRAINT ⟨S_ENABLE, E_ENABLE, S_DISABLE, E_DISABLE, S_ASSIGN, E_ASSIGN, S_DEASSIGN, E_DEASSIGN, S_GRANT, E_GRANT, S_REVOKE, E_REVOKE, S_ACTIVATE, E_ACTIVATE, S_DEACTIVATE, E_DEACTIVATE, S_ENABLE_CONSTRAINT, E_ENABLE_CONSTRAINT, S_DISABLE_CONSTRAINT, E_DISABLE_CONSTRAINT, F_ENABLE_ordinal, F_DISABLE_ordinal, F_DEASSIGN_ordinal, F_ASSIGN_ordinal, F_GRANT_ordinal, F_REVOKE_ordinal, F_DEACTIVATE_ordinal, F_ACTIVATE_ordinal, F_ENABLE_CONSTRAINT_ordinal, F_DISABLE_CONSTRAINT_ordinal⟩ i0 s.heap (own_Ext.refl _)  p e ha hc hk s m _ below hf ((Spec.applies_iff_loose hf).mp happ).1 ⟨rfl, State.Warmed39.refl s, rfl⟩ trivial
  refine ⟨n, _, h1, h2, h3, hpost _ _ _ _ _ _ ⟨Cond.after_iff.mpr rfl, Cond.after_iff.mpr (eq_i res_at (Term.int_eval (1)) rfl), trivial⟩ ⟨hq.1, hq.2.1, (hq.2.2.sift fun y hy => Or.inr (N y hy)).mono (by decide) (by decide)⟩⟩
theorem main_1_1 : Claimed_1_1 := comes_1 fun _ _ _ _ _ _ h hF => ⟨h.1, hF⟩
theorem main_1_2 : Claimed_1_2 := comes_1 fun _ _ _ _ _ _ h hF => ⟨h.2.1, hF⟩
end Jvm.Pilot.@@N@@
namespace Jvm.Pilot.@@N@@
open Jvm Jvm.ClassFile Sem Op Lib Jvm.Free Jvm.Stand Jvm.Pilot.@@N@@.Jvm.D
/-! MADE BY PROGRAM (witnessworld.py) out of the Statement's table words and the real class files: 13 classes; the members and pool entries that the words name. The judged class is class 1, her method 1. -/
namespace start1
open Jvm.ClassFile
def u (s : String) : CpInfo := .utf8 (stringToUtf16 s)
/-- a pool by its gaps: so many unusable entries, then the entry; so many at the end -/
def gap : Nat → List CpInfo → List CpInfo
  | 0, r => r
  | n + 1, r => .unusable :: gap n r
def poolList (es : List (Nat × CpInfo)) (last : Nat) : List CpInfo := es.foldr (fun e r => gap e.1 (e.2 :: r)) (gap last [])
def pool (es : List (Nat × CpInfo)) (last : Nat) : Array CpInfo := ⟨poolList es last⟩
def fileOf (pool : Array CpInfo) (this : Nat) (attrs : Array Attribute := #[]) (ms : Array MethodInfo := #[]) (fl : Nat := 33) (sup : Nat := 0) (ifs : Array Nat := #[]) (fds : Array FieldInfo := #[]) : ClassFile where
  minorVersion := 0
  majorVersion := 65
  constantPool := pool
  accessFlags := fl
  thisClass := this
  superClass := sup
  interfaces := ifs
  fields := fds
  methods := ms
  attributes := attrs
def plain (name : String) (sup : Option ClassId) : Class where
  name := name
  kind := .ordinary
  loader := none
  accessFlags := 33
  super := sup
  interfaces := #[]
  cf := none
  fields := #[]
  methods := #[]
  instanceTypes := #[]
  staticTypes := #[]
  resolved := #[]
  callSites := []
  init := .initialized
  statics := none
  mirror := none

def pool0 : Array CpInfo := pool [(5, u "<init>"), (0, u "()V"), (1, .class_ 10), (1, u "java/lang/Object")] 113

def k0m0 : Method := { name := "<init>", desc := "()V", sig := { parameters := [], returnType := none }, accessFlags := 1, code := none }
/-- java/lang/Object -/
def k0 : Class := { plain "java/lang/Object" none with
  accessFlags := 33
  interfaces := #[]
  cf := some (fileOf pool0 8 #[] #[{ accessFlags := 1, nameIndex := 5, descriptorIndex := 6, attributes := #[] }] 33 0 #[] #[])
  fields := #[]
  methods := #[k0m0]
  instanceTypes := #[]
  staticTypes := #[]
  resolved := Array.replicate 124 none
  statics := none }

def pool1 : Array CpInfo := pool [(2, .class_ 4), (1, u "java/lang/Object"), (0, u "<init>"), (0, u "()V"), (0, .class_ 8), (0, u "com/example/timed_rbac/timedrbac/policy/Action"), (0, .fieldref 7 10), (0, .nameAndType 11 12), (0, u "ENABLE"), (0, u "Lcom/example/timed_rbac/timedrbac/policy/Action;"), (0, .fieldref 7 14), (0, .nameAndType 15 12), (0, u "DISABLE"), (0, .fieldref 7 17), (0, .nameAndType 18 12), (0, u "ASSIGN"), (0, .fieldref 7 20), (0, .nameAndType 21 12), (0, u "DEASSIGN"), (0, .fieldref 7 23), (0, .nameAndType 24 12), (0, u "GRANT"), (0, .fieldref 7 26), (0, .nameAndType 27 12), (0, u "REVOKE"), (0, .fieldref 7 29), (0, .nameAndType 30 12), (0, u "ACTIVATE"), (0, .fieldref 7 32), (0, .nameAndType 33 12), (0, u "DEACTIVATE"), (0, .fieldref 7 35), (0, .nameAndType 36 12), (0, u "ENABLE_CONSTRAINT"), (0, .fieldref 7 38), (0, .nameAndType 39 12), (0, u "DISABLE_CONSTRAINT"), (0, .integer 2147483647), (0, .methodref 7 42), (0, .nameAndType 43 44), (0, u "opposite"), (0, u "()Lcom/example/timed_rbac/timedrbac/policy/Action;"), (0, .methodref 7 46), (0, .nameAndType 47 48), (0, u "denies"), (0, u "()Z"), (0, .class_ 50), (0, u "com/example/timed_rbac/timedrbac/policy/ActionOppositePinLaw"), (2, u "law"), (0, u "(I)Z")] 5

def k1m0 : Method := { name := "<init>", desc := "()V", sig := { parameters := [], returnType := none }, accessFlags := 1, code := none }
def k1c1 : Code := { maxStack := 4, maxLocals := 6, code := code, exceptionTable := #[], attributes := #[] }
def k1m1 : Method := { name := "law", desc := "(I)Z", sig := { parameters := [.int], returnType := some .boolean }, accessFlags := 9, code := some k1c1 }
/-- com/example/timed_rbac/timedrbac/policy/ActionOppositePinLaw -/
def k1 : Class := { plain "com/example/timed_rbac/timedrbac/policy/ActionOppositePinLaw" (some 0) with
  accessFlags := 49
  interfaces := #[]
  cf := some (fileOf pool1 49 #[] #[{ accessFlags := 1, nameIndex := 5, descriptorIndex := 6, attributes := #[] }, { accessFlags := 9, nameIndex := 53, descriptorIndex := 54, attributes := #[] }] 49 2 #[] #[])
  fields := #[]
  methods := #[k1m0, k1m1]
  instanceTypes := #[]
  staticTypes := #[]
  resolved := Array.replicate 60 none
  statics := none }

def pool2 : Array CpInfo := pool [(1, .class_ 2), (0, u "java/lang/constant/Constable"), (0, .class_ 4), (0, u "java/lang/Object")] 6

/-- java/lang/constant/Constable -/
def k2 : Class := { plain "java/lang/constant/Constable" (some 0) with
  accessFlags := 1537
  interfaces := #[]
  cf := some (fileOf pool2 1 #[] #[] 1537 3 #[] #[])
  fields := #[]
  methods := #[]
  instanceTypes := #[]
  staticTypes := #[]
  resolved := Array.replicate 11 none
  statics := none }

def pool3 : Array CpInfo := pool [(1, .class_ 2), (0, u "java/lang/Comparable"), (0, .class_ 4), (0, u "java/lang/Object")] 7

/-- java/lang/Comparable -/
def k3 : Class := { plain "java/lang/Comparable" (some 0) with
  accessFlags := 1537
  interfaces := #[]
  cf := some (fileOf pool3 1 #[] #[] 1537 3 #[] #[])
  fields := #[]
  methods := #[]
  instanceTypes := #[]
  staticTypes := #[]
  resolved := Array.replicate 12 none
  statics := none }

def pool4 : Array CpInfo := pool [(1, .class_ 2), (0, u "java/io/Serializable"), (0, .class_ 4), (0, u "java/lang/Object")] 2

/-- java/io/Serializable -/
def k4 : Class := { plain "java/io/Serializable" (some 0) with
  accessFlags := 1537
  interfaces := #[]
  cf := some (fileOf pool4 1 #[] #[] 1537 3 #[] #[])
  fields := #[]
  methods := #[]
  instanceTypes := #[]
  staticTypes := #[]
  resolved := Array.replicate 7 none
  statics := none }

def pool5 : Array CpInfo := pool [(2, .class_ 4), (1, u "java/lang/Enum"), (0, u "name"), (0, u "Ljava/lang/String;"), (0, .fieldref 2 8), (0, .nameAndType 9 10), (0, u "ordinal"), (0, u "I"), (1, .class_ 14), (1, u "java/lang/Object"), (4, u "hash"), (86, .class_ 108), (1, u "java/lang/Enum$EnumDesc"), (2, .class_ 112), (0, u "java/lang/constant/Constable"), (0, .class_ 114), (0, u "java/lang/Comparable"), (0, .class_ 116), (0, u "java/io/Serializable"), (9, u "()I")] 77

def k5c0 : Code := { maxStack := 1, maxLocals := 1, code := jdk_37_method_2_code, exceptionTable := #[], attributes := #[] }
def k5m0 : Method := { name := "ordinal", desc := "()I", sig := { parameters := [], returnType := some .int }, accessFlags := 17, code := some k5c0 }
/-- java/lang/Enum -/
def k5 : Class := { plain "java/lang/Enum" (some 0) with
  accessFlags := 1057
  interfaces := #[2, 3, 4]
  cf := some (fileOf pool5 2 #[.nestMembers #[106]] #[{ accessFlags := 17, nameIndex := 9, descriptorIndex := 126, attributes := #[] }] 1057 12 #[111, 113, 115] #[{ accessFlags := 18, nameIndex := 5, descriptorIndex := 6, attributes := #[] }, { accessFlags := 18, nameIndex := 9, descriptorIndex := 10, attributes := #[] }, { accessFlags := 2, nameIndex := 19, descriptorIndex := 10, attributes := #[] }])
  fields := #[{ name := "name", type := (.object "java/lang/String"), accessFlags := 18, slot := 0, constantValue := 0 }, { name := "ordinal", type := .int, accessFlags := 18, slot := 1, constantValue := 0 }, { name := "hash", type := .int, accessFlags := 2, slot := 2, constantValue := 0 }]
  methods := #[k5m0]
  instanceTypes := #[(.object "java/lang/String"), .int, .int]
  staticTypes := #[]
  resolved := Array.replicate 204 none
  statics := none }

def pool6 : Array CpInfo := pool [(1, .class_ 2), (0, u "com/example/timed_rbac/timedrbac/policy/Action"), (0, .fieldref 1 4), (0, .nameAndType 5 6), (0, u "ENABLE"), (0, u "Lcom/example/timed_rbac/timedrbac/policy/Action;"), (0, .fieldref 1 8), (0, .nameAndType 9 6), (0, u "DISABLE"), (0, .fieldref 1 11), (0, .nameAndType 12 6), (0, u "ASSIGN"), (0, .fieldref 1 14), (0, .nameAndType 15 6), (0, u "DEASSIGN"), (0, .fieldref 1 17), (0, .nameAndType 18 6), (0, u "GRANT"), (0, .fieldref 1 20), (0, .nameAndType 21 6), (0, u "REVOKE"), (0, .fieldref 1 23), (0, .nameAndType 24 6), (0, u "ACTIVATE"), (0, .fieldref 1 26), (0, .nameAndType 27 6), (0, u "DEACTIVATE"), (0, .fieldref 1 29), (0, .nameAndType 30 6), (0, u "ENABLE_CONSTRAINT"), (0, .fieldref 1 32), (0, .nameAndType 33 6), (0, u "DISABLE_CONSTRAINT"), (2, u "$VALUES"), (0, u "[Lcom/example/timed_rbac/timedrbac/policy/Action;"), (6, .class_ 46), (1, u "java/lang/Enum"), (8, u "keyword"), (0, u "Ljava/lang/String;"), (0, .methodref 1 58), (0, .nameAndType 59 60), (0, u "ordinal"), (0, u "()I"), (46, u "opposite"), (0, u "()Lcom/example/timed_rbac/timedrbac/policy/Action;"), (2, u "()Z"), (0, u "denies")] 5

def k6c0 : Code := { maxStack := 4, maxLocals := 1, code := prog_27_method_5_code, exceptionTable := #[], attributes := #[] }
def k6m0 : Method := { name := "opposite", desc := "()Lcom/example/timed_rbac/timedrbac/policy/Action;", sig := { parameters := [], returnType := some (.object "com/example/timed_rbac/timedrbac/policy/Action") }, accessFlags := 1, code := some k6c0 }
def k6c1 : Code := { maxStack := 4, maxLocals := 1, code := prog_27_method_7_code, exceptionTable := #[], attributes := #[] }
def k6m1 : Method := { name := "denies", desc := "()Z", sig := { parameters := [], returnType := some .boolean }, accessFlags := 1, code := some k6c1 }
/-- com/example/timed_rbac/timedrbac/policy/Action -/
def k6 : Class := { plain "com/example/timed_rbac/timedrbac/policy/Action" (some 5) with
  accessFlags := 16433
  interfaces := #[]
  cf := some (fileOf pool6 1 #[] #[{ accessFlags := 1, nameIndex := 107, descriptorIndex := 108, attributes := #[] }, { accessFlags := 1, nameIndex := 112, descriptorIndex := 111, attributes := #[] }] 16433 44 #[] #[{ accessFlags := 16409, nameIndex := 5, descriptorIndex := 6, attributes := #[] }, { accessFlags := 16409, nameIndex := 9, descriptorIndex := 6, attributes := #[] }, { accessFlags := 16409, nameIndex := 12, descriptorIndex := 6, attributes := #[] }, { accessFlags := 16409, nameIndex := 15, descriptorIndex := 6, attributes := #[] }, { accessFlags := 16409, nameIndex := 18, descriptorIndex := 6, attributes := #[] }, { accessFlags := 16409, nameIndex := 21, descriptorIndex := 6, attributes := #[] }, { accessFlags := 16409, nameIndex := 24, descriptorIndex := 6, attributes := #[] }, { accessFlags := 16409, nameIndex := 27, descriptorIndex := 6, attributes := #[] }, { accessFlags := 16409, nameIndex := 30, descriptorIndex := 6, attributes := #[] }, { accessFlags := 16409, nameIndex := 33, descriptorIndex := 6, attributes := #[] }, { accessFlags := 18, nameIndex := 55, descriptorIndex := 56, attributes := #[] }, { accessFlags := 4122, nameIndex := 36, descriptorIndex := 37, attributes := #[] }])
  fields := #[{ name := "ENABLE", type := (.object "com/example/timed_rbac/timedrbac/policy/Action"), accessFlags := 16409, slot := 0, constantValue := 0 }, { name := "DISABLE", type := (.object "com/example/timed_rbac/timedrbac/policy/Action"), accessFlags := 16409, slot := 1, constantValue := 0 }, { name := "ASSIGN", type := (.object "com/example/timed_rbac/timedrbac/policy/Action"), accessFlags := 16409, slot := 2, constantValue := 0 }, { name := "DEASSIGN", type := (.object "com/example/timed_rbac/timedrbac/policy/Action"), accessFlags := 16409, slot := 3, constantValue := 0 }, { name := "GRANT", type := (.object "com/example/timed_rbac/timedrbac/policy/Action"), accessFlags := 16409, slot := 4, constantValue := 0 }, { name := "REVOKE", type := (.object "com/example/timed_rbac/timedrbac/policy/Action"), accessFlags := 16409, slot := 5, constantValue := 0 }, { name := "ACTIVATE", type := (.object "com/example/timed_rbac/timedrbac/policy/Action"), accessFlags := 16409, slot := 6, constantValue := 0 }, { name := "DEACTIVATE", type := (.object "com/example/timed_rbac/timedrbac/policy/Action"), accessFlags := 16409, slot := 7, constantValue := 0 }, { name := "ENABLE_CONSTRAINT", type := (.object "com/example/timed_rbac/timedrbac/policy/Action"), accessFlags := 16409, slot := 8, constantValue := 0 }, { name := "DISABLE_CONSTRAINT", type := (.object "com/example/timed_rbac/timedrbac/policy/Action"), accessFlags := 16409, slot := 9, constantValue := 0 }, { name := "keyword", type := (.object "java/lang/String"), accessFlags := 18, slot := 3, constantValue := 0 }, { name := "$VALUES", type := (.array (.object "com/example/timed_rbac/timedrbac/policy/Action")), accessFlags := 4122, slot := 10, constantValue := 0 }]
  methods := #[k6m0, k6m1]
  instanceTypes := #[(.object "java/lang/String"), .int, .int, (.object "java/lang/String")]
  staticTypes := #[(.object "com/example/timed_rbac/timedrbac/policy/Action"), (.object "com/example/timed_rbac/timedrbac/policy/Action"), (.object "com/example/timed_rbac/timedrbac/policy/Action"), (.object "com/example/timed_rbac/timedrbac/policy/Action"), (.object "com/example/timed_rbac/timedrbac/policy/Action"), (.object "com/example/timed_rbac/timedrbac/policy/Action"), (.object "com/example/timed_rbac/timedrbac/policy/Action"), (.object "com/example/timed_rbac/timedrbac/policy/Action"), (.object "com/example/timed_rbac/timedrbac/policy/Action"), (.object "com/example/timed_rbac/timedrbac/policy/Action"), (.array (.object "com/example/timed_rbac/timedrbac/policy/Action"))]
  resolved := Array.replicate 118 none
  statics := some 0 }

def pool7 : Array CpInfo := pool [(1, u "java/lang/Cloneable"), (0, .class_ 1), (0, u "java/lang/Object"), (0, .class_ 3)] 3

/-- java/lang/Cloneable -/
def k7 : Class := { plain "java/lang/Cloneable" (some 0) with
  accessFlags := 1537
  interfaces := #[]
  cf := some (fileOf pool7 2 #[] #[] 1537 4 #[] #[])
  fields := #[]
  methods := #[]
  instanceTypes := #[]
  staticTypes := #[]
  resolved := Array.replicate 8 none
  statics := none }

/-- the primitive byte -/
def k8 : Class := { plain "byte" none with kind := .primitive 'B', accessFlags := 0x411 }
/-- [B -/
def k9 : Class := { plain "[B" (some 0) with kind := .array 8 .byte, interfaces := #[7, 4], accessFlags := 1041 }

/-- the primitive int -/
def k10 : Class := { plain "int" none with kind := .primitive 'I', accessFlags := 0x411 }
/-- [I -/
def k11 : Class := { plain "[I" (some 0) with kind := .array 10 .int, interfaces := #[7, 4], accessFlags := 1041 }

/-- [Lcom/example/timed_rbac/timedrbac/policy/Action; -/
def k12 : Class := { plain "[Lcom/example/timed_rbac/timedrbac/policy/Action;" (some 0) with kind := .array 6 (.object "com/example/timed_rbac/timedrbac/policy/Action"), interfaces := #[7, 4], accessFlags := 1041 }

def heap : Heap := #[{ cls := 6, slots := #[.ref 1, .ref 2, .ref 3, .ref 4, .ref 5, .ref 6, .ref 7, .ref 8, .ref 9, .ref 10, .null], vm := .statics 6 },
  { cls := 6, slots := #[.null, .int (0), .int 0, .null], vm := .none },
  { cls := 6, slots := #[.null, .int (1), .int 0, .null], vm := .none },
  { cls := 6, slots := #[.null, .int (2), .int 0, .null], vm := .none },
  { cls := 6, slots := #[.null, .int (3), .int 0, .null], vm := .none },
  { cls := 6, slots := #[.null, .int (4), .int 0, .null], vm := .none },
  { cls := 6, slots := #[.null, .int (5), .int 0, .null], vm := .none },
  { cls := 6, slots := #[.null, .int (6), .int 0, .null], vm := .none },
  { cls := 6, slots := #[.null, .int (7), .int 0, .null], vm := .none },
  { cls := 6, slots := #[.null, .int (8), .int 0, .null], vm := .none },
  { cls := 6, slots := #[.null, .int (9), .int 0, .null], vm := .none }]
def classes : Array Class := #[k0, k1, k2, k3, k4, k5, k6, k7, k8, k9, k10, k11, k12]
def interned : List (Array UInt16 × Addr) := []
def slotsUsed : Nat := 51
def theMethod : MethodId := ⟨1, 1⟩
def args0 : Array Value := #[.int 5]
def aboutOver (below : List Frame) : State where
  vm := { classes := classes, interned := interned.toArray }
  heap := heap
  slotsUsed := slotsUsed
  threads := #[{ frames := .invoking theMethod args0 :: below }]
def below0 : List Frame := [.native { method := ⟨0, 0⟩, args := #[] }]
def about1 : State := aboutOver below0
def p0 : Program := .bare "" "" ""
def e0 : Env := launch0.env 0 0 0
theorem w_frames : about1.frames = Frame.invoking theMethod args0 :: below0 := rfl
set_option maxRecDepth 65536 in
theorem w_args : argsFit about1.vm theMethod args0 = true := by decide +kernel
set_option maxRecDepth 65536 in
theorem w_heap : heapFits about1 = true := by decide +kernel
set_option maxRecDepth 65536 in
theorem w_runnable : about1.curStatus? = some .runnable := by decide +kernel
set_option maxRecDepth 65536 in
theorem w_alone : about1.alone = true := by decide +kernel
set_option maxRecDepth 65536 in
theorem w_named : about1.methodNamed? x = some theMethod := by decide +kernel
set_option maxRecDepth 65536 in
theorem w_hears : about1.hears theMethod below0 = true := by decide +kernel
set_option maxRecDepth 65536 in
theorem w_ripe : about1.ripe theMethod args0 below0 = true := by decide +kernel
theorem w_running : about1.status = .running := rfl
set_option maxRecDepth 65536 in
theorem w_room : about1.hasRoom e0.platform room_1 = true :=
  launch0.hasRoom_least _ room_1 (by decide +kernel) (by decide +kernel) (by decide +kernel) (by decide +kernel) (by decide +kernel) (by decide +kernel)
theorem allAtoms_all (ts : List Jvm.Cond) (a : Array Jvm.Value) (st : Jvm.State) : (allAtoms ts).before a st = ts.all (fun c => c.before a st) := by
  induction ts with
  | nil => rfl
  | cons c t ih =>
    show (Jvm.Cond.and c (allAtoms t)).before a st = _
    rw [Jvm.Cond.before_and, ih, List.all_cons]
def words1 : List Jvm.Cond := Jvm.Cond.code x code maxLocals ret :: tables_1
/-- a 'code' word, met by the world's own term for the bytes: nothing is compared byte by byte -/
theorem code_word {y : MethodName} {bytes : ByteArray} {mx : Nat} {rt : Option FieldType} {a : Array Value} {s : State} {m : MethodId} {meth : Method} {c : Code} (h1 : s.methodNamed? y = some m) (h2 : s.vm.method? m = some meth) (h3 : meth.code = some c) (h4 : c.code = bytes)
    (h5 : (c.maxLocals == mx && c.exceptionTable.isEmpty && decide (c.maxStack ≤ mostOperands) && decide (meth.sig.returnType = rt) && !meth.locks && decide (parseMethodDescriptor y.desc = some meth.sig)) = true) : (Jvm.Cond.code y bytes mx rt).before a s = true := by
  simp only [Bool.and_eq_true, beq_iff_eq, Bool.not_eq_true', decide_eq_true_eq] at h5
  obtain ⟨⟨⟨⟨⟨g1, g2⟩, g3⟩, g4⟩, g5⟩, g6⟩ := h5
  simp [Cond.before, Cond.holds, Cond.value, h1, h2, h3, h4, g1, g2, g3, g4, g5, g6]
def isCode : Jvm.Cond → Bool
  | .code _ _ _ _ => true
  | _ => false
theorem all_split {L : List Jvm.Cond} {P : Jvm.Cond → Bool} (h1 : L.all (fun c => isCode c || P c) = true) (h2 : ∀ c ∈ L.filter isCode, P c = true) : L.all P = true := by
  refine List.all_eq_true.mpr fun c hc => ?_
  have h := List.all_eq_true.mp h1 c hc
  rcases Bool.eq_false_or_eq_true (isCode c) with hi | hi
  · exact h2 c (List.mem_filter.mpr ⟨hc, hi⟩)
  · simpa [hi] using h
set_option maxRecDepth 65536 in
theorem w_c0 : (Jvm.Cond.code x code maxLocals ret).before args0 about1 = true := code_word (m := ⟨1, 1⟩) (meth := k1m1) (c := k1c1) (by decide +kernel) rfl rfl rfl (by decide +kernel)
set_option maxRecDepth 65536 in
theorem w_c1 : (Jvm.Cond.code ({ cls := "com/example/timed_rbac/timedrbac/policy/Action", name := "opposite", desc := "()Lcom/example/timed_rbac/timedrbac/policy/Action;" } : Jvm.MethodName) prog_27_method_5_code (1 : Nat) (Option.some (Jvm.ClassFile.FieldType.object "com/example/timed_rbac/timedrbac/policy/Action"))).before args0 about1 = true := code_word (m := ⟨6, 0⟩) (meth := k6m0) (c := k6c0) (by decide +kernel) rfl rfl rfl (by decide +kernel)
set_option maxRecDepth 65536 in
theorem w_c2 : (Jvm.Cond.code ({ cls := "java/lang/Enum", name := "ordinal", desc := "()I" } : Jvm.MethodName) jdk_37_method_2_code (1 : Nat) (Option.some Jvm.ClassFile.FieldType.int)).before args0 about1 = true := code_word (m := ⟨5, 0⟩) (meth := k5m0) (c := k5c0) (by decide +kernel) rfl rfl rfl (by decide +kernel)
set_option maxRecDepth 65536 in
theorem w_c3 : (Jvm.Cond.code ({ cls := "com/example/timed_rbac/timedrbac/policy/Action", name := "denies", desc := "()Z" } : Jvm.MethodName) prog_27_method_7_code (1 : Nat) (Option.some Jvm.ClassFile.FieldType.boolean)).before args0 about1 = true := code_word (m := ⟨6, 1⟩) (meth := k6m1) (c := k6c1) (by decide +kernel) rfl rfl rfl (by decide +kernel)
def codes1 : List Jvm.Cond := [Jvm.Cond.code x code maxLocals ret, Jvm.Cond.code ({ cls := "com/example/timed_rbac/timedrbac/policy/Action", name := "opposite", desc := "()Lcom/example/timed_rbac/timedrbac/policy/Action;" } : Jvm.MethodName) prog_27_method_5_code (1 : Nat) (Option.some (Jvm.ClassFile.FieldType.object "com/example/timed_rbac/timedrbac/policy/Action")), Jvm.Cond.code ({ cls := "java/lang/Enum", name := "ordinal", desc := "()I" } : Jvm.MethodName) jdk_37_method_2_code (1 : Nat) (Option.some Jvm.ClassFile.FieldType.int), Jvm.Cond.code ({ cls := "com/example/timed_rbac/timedrbac/policy/Action", name := "denies", desc := "()Z" } : Jvm.MethodName) prog_27_method_7_code (1 : Nat) (Option.some Jvm.ClassFile.FieldType.boolean)]
set_option maxRecDepth 65536 in
theorem codes_eq : words1.filter isCode = codes1 := rfl
theorem w_codes : ∀ c ∈ words1.filter isCode, c.before args0 about1 = true := by
  rw [codes_eq]
  intro c hc
  simp only [codes1, List.mem_cons, List.not_mem_nil, or_false] at hc
  rcases hc with rfl | rfl | rfl | rfl
  · exact w_c0
  · exact w_c1
  · exact w_c2
  · exact w_c3
set_option maxRecDepth 65536 in
theorem w_t1 : (words1.take 24).all (fun c => isCode c || c.before args0 about1) = true := by decide +kernel
set_option maxRecDepth 65536 in
theorem w_t2 : ((words1.drop 24).take 24).all (fun c => isCode c || c.before args0 about1) = true := by decide +kernel
set_option maxRecDepth 65536 in
theorem w_t3 : ((words1.drop 24).drop 24).all (fun c => isCode c || c.before args0 about1) = true := by decide +kernel
theorem w_tables : (allAtoms (Jvm.Cond.code x code maxLocals ret :: tables_1)).before args0 about1 = true := by
  rw [allAtoms_all]
  show words1.all (fun c => c.before args0 about1) = true
  refine all_split ?_ w_codes
  rw [← List.take_append_drop 24 words1, List.all_append, w_t1, ← List.take_append_drop 24 (words1.drop 24), List.all_append, w_t2, w_t3]
  rfl
set_option maxRecDepth 65536 in
theorem w_case : (Jvm.Cond.and given_1 narrow_1).before args0 about1 = true := by decide +kernel
theorem w_applies : (headSpec (Jvm.Cond.code x code maxLocals ret :: tables_1) room_1).applies x e0.platform about1 = true :=
  (Spec.applies_iff w_frames).mpr ⟨w_running, w_runnable, w_alone, w_named, w_hears, w_ripe, w_room, w_tables⟩
theorem atStart : AtStart classFile x code maxLocals ret World_1 tables_1 room_1 Calls_1 rest_1 Pre_1 launch0 p0 e0 about1 theMethod args0 below0 :=
  ⟨lists_1, trivial, launch0.admits_env _ _ _, launch0.least_env, fairChoices_fair.cas, fairChoices_fair.clock, w_frames, w_args, w_heap, w_applies, trivial, trivial, w_case⟩
end start1
theorem witness_1 : WitnessClaimed_1 := ⟨start1.p0, start1.e0, start1.about1, start1.theMethod, start1.args0, start1.below0, start1.atStart⟩
end Jvm.Pilot.@@N@@
