import JvmDerived
import JvmDerived.Pilot.@@N@@Statement
import JvmDerived.Pilot.@@N@@Code
set_option linter.unusedVariables false
set_option linter.unusedSimpArgs false
@@BLOCK:NumsL.lean.txt@@
namespace Jvm.Pilot.@@N@@
open Jvm Jvm.ClassFile Sem Op Lib Jvm.Free Jvm.Stand Jvm.LawKit Jvm.RoadKit Bundle Jvm.Pilot.@@N@@.Jvm.D
section OwnKit
variable {p : Program} {l : Launch} {e : Env} {R : Room} {s : State} {m : MethodId} {args : Array Value} {below : List Frame} {meth : Method} {c : Code} {T : State} {locs : List Loc} {cells slots : Nat} {Z : State} {a0 : Array Value} {h h' : Heap}
/-- from S the run comes to an end of which P holds -/
def Go (p : Program) (e : Env) (below : List Frame) (P : State → Outcome → Prop) (S : State) : Prop :=
  ∃ s₂ o, Steps p.tables e below S s₂ ∧ s₂.status = .running ∧ Ended s₂ below o ∧ P s₂ o
/-- what a contract says of the end -/
def Ret (s : State) (Q : Option Value → Heap → List Loc → Prop) (cs sl : Nat) : State → Outcome → Prop :=
  fun s₂ o => ∃ v L, o = .returned v ∧ Q v s₂.heap L ∧ FrameEnd s o s₂ L cs sl
theorem Go.st {P : State → Outcome → Prop} {S S' : State} (k : ∀ t, Steps p.tables e below S' t → Steps p.tables e below S t) (g : Go p e below P S') : Go p e below P S := by
  obtain ⟨t, o, q, r⟩ := g
  exact ⟨t, o, k t q, r⟩
/-- a contract in this family: entered with these arguments on this heap -/
abbrev Con (l : Launch) (Z : State) (h0 : Heap) (y : MethodName) (bytes : ByteArray) (maxL : Nat) (ret : Option FieldType) (ws : List Jvm.Cond) (rm : Room) (as' : Array Value) (Q : Option Value → Heap → List Loc → Prop) : Prop :=
  MetFree l y (head1 (Jvm.Cond.code y bytes maxL ret :: ws) rm) (fun a U => a = as' ∧ Z.Warmed39 U.vm ∧ U.heap = h0) (fun _ _ _ _ _ => True) (fun _ U o U' => ∃ v L, o = .returned v ∧ Q v U'.heap L ∧ FrameEnd U o U' L rm.cells rm.slots)
theorem own_con {h0 : Heap} {y : MethodName} {bytes : ByteArray} {maxL : Nat} {ret : Option FieldType} {ws : List Jvm.Cond} {rm : Room} {as' : Array Value} {Q : Option Value → Heap → List Loc → Prop} (hpl : plainFor y = true)
    (body : ∀ (p : Program) (e : Env) (s : State) (m : MethodId) (below : List Frame) (meth : Method) (c : Code) (T : State), Stand p l e rm s m as' below meth c T [] 0 0 → p.tables.exec = Jvm.exec → c.code = bytes → c.maxLocals = maxL → s.vm.findClass y.cls = some m.cls → meth.name = y.name → meth.sig.returnType = ret → meth.locks = false → Z.Warmed39 s.vm → T.heap = h0 →
      Go p e below (Ret s Q rm.cells rm.slots) (T.setTop (entryFrame m as' maxL))) : Con l Z h0 y bytes maxL ret ws rm as' Q := by
  refine MetFree.of_bodySF hpl hisR ?_
  intro p e s m args below meth c s₁ Bd hml0 hP hK
  obtain ⟨rfl, hZ, hh⟩ := hP
  exact body p e s m below meth c s₁ (Stand.of_body Bd) Bd.exec Bd.bytes hml0 (findClass_of_methodNamed Bd.named) (name_of_methodNamed Bd.named Bd.method).1 Bd.returns Bd.notSynchronized hZ (by rw [← hh, Bd.state]; rfl)
theorem own_callS (X : Stand p l e R s m args below meth c T locs cells slots) (hx : p.tables.exec = Jvm.exec) (hZ : Z.Warmed39 s.vm)
    {own : String} {index : Nat} {y : MethodName} {bytes : ByteArray} {maxL : Nat} {ret : Option FieldType} {rm : Room} {as' : Array Value} {Q : Option Value → Heap → List Loc → Prop}
    (hown : s.vm.findClass own = some m.cls) (w1 : (Jvm.Cond.methodLink own index y).before a0 Z = true) (w2 : (Jvm.Cond.static y).before a0 Z = true) (w3 : (Jvm.Cond.initialized y.cls).before a0 Z = true) (w4 : (Jvm.Cond.code y bytes maxL ret).before a0 Z = true)
    (hy : y.cls ≠ "java/lang/invoke/MethodHandle" ∧ y.cls ≠ "java/lang/invoke/VarHandle") (eT : T.heap = h) (hM : Con l Z h y bytes maxL ret [] rm as' Q)
    (W : Nat) (hf : rm.frames + 1 ≤ R.frames) (hl : W + (maxL + 11) + rm.locals ≤ R.locals) (hc : cells + rm.cells ≤ R.cells) (hs : slots + rm.slots ≤ R.slots)
    {g : JFrame} (hg : g.method = m) (hsize : g.locals.size = c.maxLocals) (argsL rest : List Value) (has : argsL.toArray = as') (hlen : ∀ sig, parseMethodDescriptor y.desc = some sig → argsL.length = sig.parameters.length) (hstack : g.stack = argsL.reverse ++ rest) (hW : 2 * g.monitorRoom + (rest.map fun v => v.category).sum ≤ W)
    (hd : decode c.code g.pc = .ok (.invokestatic index, 3)) :
    ∃ (v : Option Value) (T' : State) (L : List Loc), Stand p l e R s m args below meth c T' (locs ++ L) (cells + rm.cells) (slots + rm.slots) ∧ Q v T'.heap L ∧ ∀ t, Steps p.tables e below (T'.setTop { g with pc := g.pc + 3, stack := v.toList ++ rest }) t → Steps p.tables e below (T.setTop g) t := by
  obtain ⟨v, _, ⟨T', L', k', n'⟩, -, X', ⟨L, hQ, l1, l2, l3⟩, st⟩ := Jvm.LawKit.callS X hx hown (mvT hZ w1) (mvT hZ w2) (mvT hZ w3) (mvT hZ w4) hy (backOf (W := W) hM hZ w4 w3 hf hl) hg hsize hlen hstack hW hd (fun _ _ => ⟨has, eT, hc, hs⟩)
  dsimp only [Pt.U, Pt.locs, Pt.cells, Pt.slots] at X' l1 l2 l3 st hQ
  subst l1 l2 l3
  exact ⟨v, T', L, X', hQ, st⟩
theorem own_callV (X : Stand p l e R s m args below meth c T locs cells slots) (hx : p.tables.exec = Jvm.exec) (hZ : Z.Warmed39 s.vm)
    {own C : String} {index : Nat} {y z : MethodName} {bytes : ByteArray} {maxL : Nat} {ret : Option FieldType} {rm : Room} {as' : Array Value} {Q : Option Value → Heap → List Loc → Prop} {b : Addr}
    (hown : s.vm.findClass own = some m.cls) (w1 : (Jvm.Cond.methodLink own index y).before a0 Z = true) (w2 : (Jvm.Cond.declares y).before a0 Z = true) (hnf : NotFace s y) (w4 : (Jvm.Cond.selects C y z).before a0 Z = true) (w5 : (Jvm.Cond.instanceMethod z).before a0 Z = true) (w3 : (Jvm.Cond.initialized z.cls).before a0 Z = true) (w6 : (Jvm.Cond.code z bytes maxL ret).before a0 Z = true)
    (hy : y.cls ≠ "java/lang/invoke/MethodHandle" ∧ y.cls ≠ "java/lang/invoke/VarHandle") (eT : T.heap = h) (E : Exa Z h b C) (hM : Con l Z h z bytes maxL ret [] rm as' Q)
    (W : Nat) (hf : rm.frames + 1 ≤ R.frames) (hl : W + (maxL + 11) + rm.locals ≤ R.locals) (hc : cells + rm.cells ≤ R.cells) (hs : slots + rm.slots ≤ R.slots)
    {g : JFrame} (hg : g.method = m) (hsize : g.locals.size = c.maxLocals) (argsL rest : List Value) (has : (.ref b :: argsL).toArray = as') (hlen : ∀ sig, parseMethodDescriptor y.desc = some sig → argsL.length = sig.parameters.length) (hstack : g.stack = argsL.reverse ++ .ref b :: rest) (hW : 2 * g.monitorRoom + (rest.map fun v => v.category).sum ≤ W)
    (hd : decode c.code g.pc = .ok (.invokevirtual index, 3)) :
    ∃ (v : Option Value) (T' : State) (L : List Loc), Stand p l e R s m args below meth c T' (locs ++ L) (cells + rm.cells) (slots + rm.slots) ∧ Q v T'.heap L ∧ ∀ t, Steps p.tables e below (T'.setTop { g with pc := g.pc + 3, stack := v.toList ++ rest }) t → Steps p.tables e below (T.setTop g) t := by
  obtain ⟨cq, kq, qa, qb, qc⟩ := isOf hZ eT E
  obtain ⟨v, _, ⟨T', L', k', n'⟩, -, X', ⟨L, hQ, l1, l2, l3⟩, st⟩ := X.virtualBack hx hown (mvT hZ w1) (mvT hZ w2) hnf (mvT hZ w4) (mvT hZ w5) hy (backOf (W := W) hM hZ w6 w3 hf hl) qa qc hg hsize (Steps.refl _) hlen hstack hW hd (fun _ _ => ⟨has, eT, hc, hs⟩)
  dsimp only [Pt.U, Pt.locs, Pt.cells, Pt.slots] at X' l1 l2 l3 st hQ
  subst l1 l2 l3
  exact ⟨v, T', L, X', hQ, fun t k => st.trans k⟩
theorem own_callI (X : Stand p l e R s m args below meth c T locs cells slots) (hx : p.tables.exec = Jvm.exec) (hZ : Z.Warmed39 s.vm)
    {own : String} {index : Nat} {y : MethodName} {bytes : ByteArray} {maxL : Nat} {rm : Room} {as' : Array Value} {Q : Option Value → Heap → List Loc → Prop} {b : Addr} (hy1 : y.name = "<init>")
    (hown : s.vm.findClass own = some m.cls) (w1 : (Jvm.Cond.methodLink own index y).before a0 Z = true) (w5 : (Jvm.Cond.instanceMethod y).before a0 Z = true) (w3 : (Jvm.Cond.initialized y.cls).before a0 Z = true) (w6 : (Jvm.Cond.code y bytes maxL none).before a0 Z = true)
    (hy : y.cls ≠ "java/lang/invoke/MethodHandle" ∧ y.cls ≠ "java/lang/invoke/VarHandle") (eT : T.heap = h) (hM : Con l Z h y bytes maxL none [] rm as' Q)
    (W : Nat) (hf : rm.frames + 1 ≤ R.frames) (hl : W + (maxL + 11) + rm.locals ≤ R.locals) (hc : cells + rm.cells ≤ R.cells) (hs : slots + rm.slots ≤ R.slots)
    {g : JFrame} (hg : g.method = m) (hsize : g.locals.size = c.maxLocals) (argsL rest : List Value) (has : (.ref b :: argsL).toArray = as') (hlen : ∀ sig, parseMethodDescriptor y.desc = some sig → argsL.length = sig.parameters.length) (hstack : g.stack = argsL.reverse ++ .ref b :: rest) (hW : 2 * g.monitorRoom + (rest.map fun v => v.category).sum ≤ W)
    (hd : decode c.code g.pc = .ok (.invokespecial index, 3)) :
    ∃ (v : Option Value) (T' : State) (L : List Loc), Stand p l e R s m args below meth c T' (locs ++ L) (cells + rm.cells) (slots + rm.slots) ∧ Q v T'.heap L ∧ ∀ t, Steps p.tables e below (T'.setTop { g with pc := g.pc + 3, stack := v.toList ++ rest }) t → Steps p.tables e below (T.setTop g) t := by
  obtain ⟨v, _, ⟨T', L', k', n'⟩, -, X', ⟨L, hQ, l1, l2, l3⟩, st⟩ := X.specialBack hx hy1 hown (mvT hZ w1) (mvT hZ w5) (mvT hZ w6) hy (backOf (W := W) hM hZ w6 w3 hf hl) hg hsize (Steps.refl _) hlen hstack hW hd (fun _ _ => ⟨has, eT, hc, hs⟩)
  dsimp only [Pt.U, Pt.locs, Pt.cells, Pt.slots] at X' l1 l2 l3 st hQ
  subst l1 l2 l3
  exact ⟨v, T', L, X', hQ, fun t k => st.trans k⟩
/-- the end of a walk -/
theorem own_fin (X : Stand p l e R s m args below meth c T locs cells slots) (hlk : meth.locks = false) {v : Option Value} (hv : meth.sig.returnType = none → v = none) {Q : Option Value → Heap → List Loc → Prop} {cs sl : Nat} (eT : T.heap = h) (hQ : Q v h locs) (hc : cells ≤ cs) (hs : slots ≤ sl) {S : State}
    (k : ∀ fs : List Frame, (∀ (f : JFrame) (acts : List Action), f.method = m → f.locked = none → f.entered = [] → (doReturn e (T.setTop f) acts v).1 = T.setFrames fs) → Steps p.tables e below S (T.setFrames fs)) : Go p e below (Ret s Q cs sl) S := by
  obtain ⟨fs, hr, hrun, hended, hW, hsame⟩ := X.leave hv hlk
  refine ⟨_, _, k fs hr, hrun, hended, _, _, rfl, ?_, ⟨_, rfl⟩, hW, hsame.mono hc hs⟩
  have q : (T.setFrames fs).heap = h := eT
  rw [q]; exact hQ
theorem own_retO (X : Stand p l e R s m args below meth c T locs cells slots) (hx : p.tables.exec = Jvm.exec) (hlk : meth.locks = false) {pc : Nat} {Ls : Array Slot} {w : Value} {t : FieldType} {i : Instr} {rest : List Value} (hret : meth.sig.returnType = some t) (hn : narrow t w = w)
    (hi : (i = .ireturn ∧ (t = .int ∨ t = .boolean ∨ t = .byte ∨ t = .char ∨ t = .short) ∧ ∃ z, w = .int z) ∨ (i = .lreturn ∧ t = .long ∧ ∃ z, w = .long z) ∨ (i = .dreturn ∧ t = .double ∧ ∃ z, w = .double z) ∨ (i = .freturn ∧ t = .float ∧ ∃ z, w = .float z) ∨ (i = .areturn ∧ t.isReference = true ∧ w.isRef = true))
    (hd : decode c.code pc = .ok (i, 1)) {Q : Option Value → Heap → List Loc → Prop} {cs sl : Nat} (eT : T.heap = h) (hQ : Q (some w) h locs) (hc : cells ≤ cs) (hs : slots ≤ sl) : Go p e below (Ret s Q cs sl) (T.setTop (mkF m pc Ls (w :: rest))) :=
  own_fin X hlk (fun q => by rw [hret] at q; cases q) eT hQ hc hs fun fs hr => retOut X hx hret hn hi hd hr
theorem own_retI (X : Stand p l e R s m args below meth c T locs cells slots) (hx : p.tables.exec = Jvm.exec) (hlk : meth.locks = false) {pc : Nat} {Ls : Array Slot} {w : Int32} {rest : List Value} (hret : meth.sig.returnType = some .int)
    (hd : decode c.code pc = .ok (.ireturn, 1)) {Q : Option Value → Heap → List Loc → Prop} {cs sl : Nat} (eT : T.heap = h) (hQ : Q (some (.int w)) h locs) (hc : cells ≤ cs) (hs : slots ≤ sl) : Go p e below (Ret s Q cs sl) (T.setTop (mkF m pc Ls (.int w :: rest))) :=
  own_retO X hx hlk hret rfl (Or.inl ⟨rfl, Or.inl rfl, _, rfl⟩) hd eT hQ hc hs
theorem own_retJ (X : Stand p l e R s m args below meth c T locs cells slots) (hx : p.tables.exec = Jvm.exec) (hlk : meth.locks = false) {pc : Nat} {Ls : Array Slot} {w : Int64} {rest : List Value} (hret : meth.sig.returnType = some .long)
    (hd : decode c.code pc = .ok (.lreturn, 1)) {Q : Option Value → Heap → List Loc → Prop} {cs sl : Nat} (eT : T.heap = h) (hQ : Q (some (.long w)) h locs) (hc : cells ≤ cs) (hs : slots ≤ sl) : Go p e below (Ret s Q cs sl) (T.setTop (mkF m pc Ls (.long w :: rest))) :=
  own_retO X hx hlk hret rfl (Or.inr (Or.inl ⟨rfl, rfl, _, rfl⟩)) hd eT hQ hc hs
theorem own_retA (X : Stand p l e R s m args below meth c T locs cells slots) (hx : p.tables.exec = Jvm.exec) (hlk : meth.locks = false) {pc : Nat} {Ls : Array Slot} {w : Value} {t : FieldType} {rest : List Value} (hret : meth.sig.returnType = some t) (hn : narrow t w = w) (ht : t.isReference = true) (hw : w.isRef = true)
    (hd : decode c.code pc = .ok (.areturn, 1)) {Q : Option Value → Heap → List Loc → Prop} {cs sl : Nat} (eT : T.heap = h) (hQ : Q (some w) h locs) (hc : cells ≤ cs) (hs : slots ≤ sl) : Go p e below (Ret s Q cs sl) (T.setTop (mkF m pc Ls (w :: rest))) :=
  own_retO X hx hlk hret hn (Or.inr (Or.inr (Or.inr (Or.inr ⟨rfl, ht, hw⟩)))) hd eT hQ hc hs
theorem own_retN (X : Stand p l e R s m args below meth c T locs cells slots) (hx : p.tables.exec = Jvm.exec) (hlk : meth.locks = false) {pc : Nat} {Ls : Array Slot} {z : Int32} {t : FieldType} {rest : List Value} (hret : meth.sig.returnType = some t) (ht : t = .boolean ∨ t = .byte ∨ t = .char ∨ t = .short)
    (hd : decode c.code pc = .ok (.ireturn, 1)) {Q : Option Value → Heap → List Loc → Prop} {cs sl : Nat} (eT : T.heap = h) (hQ : Q (some (.int (nar t z))) h locs) (hc : cells ≤ cs) (hs : slots ≤ sl) : Go p e below (Ret s Q cs sl) (T.setTop (mkF m pc Ls (.int z :: rest))) :=
  own_fin X hlk (fun q => by rw [hret] at q; cases q) eT hQ hc hs fun fs hr => retN X hx hret ht hd hr
theorem own_retV (X : Stand p l e R s m args below meth c T locs cells slots) (hx : p.tables.exec = Jvm.exec) (hlk : meth.locks = false) {pc : Nat} {Ls : Array Slot} (hret : meth.sig.returnType = none)
    (hd : decode c.code pc = .ok (.return_, 1)) {Q : Option Value → Heap → List Loc → Prop} {cs sl : Nat} (eT : T.heap = h) (hQ : Q none h locs) (hc : cells ≤ cs) (hs : slots ≤ sl) : Go p e below (Ret s Q cs sl) (T.setTop (mkF m pc Ls [])) :=
  own_fin X hlk (fun _ => rfl) eT hQ hc hs fun fs hr => X.returnOut hx hret hd hr
theorem own_Llt {x y : Int64} (h : x < y) : ifCond.holds .lt (lcmpW x y) = true ∧ ifCond.holds .ge (lcmpW x y) = false := by
  have q := (lc_lt x y).mpr h; rw [← lcW] at q; exact ⟨(if0 _ _).trans (tlt q).1, (if0 _ _).trans (tlt q).2.1⟩
theorem own_Lnlt {x y : Int64} (h : ¬ x < y) : ifCond.holds .lt (lcmpW x y) = false ∧ ifCond.holds .ge (lcmpW x y) = true := by
  have q : ¬ lcmpW x y < 0 := fun r => h ((lc_lt x y).mp (by rw [← lcW]; exact r)); exact ⟨(if0 _ _).trans (flt q).1, (if0 _ _).trans (flt q).2.1⟩
theorem own_Lgt {x y : Int64} (h : y < x) : ifCond.holds .gt (lcmpW x y) = true ∧ ifCond.holds .le (lcmpW x y) = false := by
  have q := (lc_gt x y).mpr h; rw [← lcW] at q; exact ⟨(if0 _ _).trans (tlt q).2.2.1, (if0 _ _).trans (tlt q).2.2.2⟩
theorem own_Lngt {x y : Int64} (h : ¬ y < x) : ifCond.holds .gt (lcmpW x y) = false ∧ ifCond.holds .le (lcmpW x y) = true := by
  have q : ¬ 0 < lcmpW x y := fun r => h ((lc_gt x y).mp (by rw [← lcW]; exact r)); exact ⟨(if0 _ _).trans (flt q).2.2.1, (if0 _ _).trans (flt q).2.2.2⟩
theorem own_Leq {x y : Int64} (h : x = y) : ifCond.holds .eq (lcmpW x y) = true ∧ ifCond.holds .ne (lcmpW x y) = false := by
  have q := (lc_eq x y).mpr h; rw [← lcW] at q; exact ⟨(if0 _ _).trans (teq q).1, (if0 _ _).trans (teq q).2⟩
theorem own_Lne {x y : Int64} (h : ¬ x = y) : ifCond.holds .eq (lcmpW x y) = false ∧ ifCond.holds .ne (lcmpW x y) = true := by
  have q : ¬ lcmpW x y = 0 := fun r => h ((lc_eq x y).mp (by rw [← lcW]; exact r)); exact ⟨(if0 _ _).trans (feq q).1, (if0 _ _).trans (feq q).2⟩
theorem own_Ext.refl (h : Heap) : Ext h h := ⟨Nat.le_refl _, fun _ _ q => q⟩
theorem own_Ext.trans {h1 h2 h3 : Heap} (a : Ext h1 h2) (b : Ext h2 h3) : Ext h1 h3 := ⟨Nat.le_trans a.1 b.1, fun x c q => b.2 x c (a.2 x c q)⟩
theorem own_Ext.wr {h0 : Heap} {a : Addr} {sl : Nat} {v : Value} (E : Ext h0 h) (W : Wr h h' a sl v) (q : h0.size ≤ a) : Ext h0 h' := by
  have K : Keep h0 h [] := ⟨E.1, fun x c r _ => E.2 x c r, fun x c r => ⟨c, E.2 x c r, rfl, rfl, rfl⟩⟩
  have K' := K.wr W (Or.inr q)
  exact ⟨K'.1, fun x c r => K'.2.1 x c r (fun z => nomatch z)⟩
theorem own_Ext.keep {h0 : Heap} {ws : List Addr} (E : Ext h0 h) (K : Keep h h' ws) (q : ∀ x ∈ ws, h0.size ≤ x) : Ext h0 h' := by
  refine ⟨Nat.le_trans E.1 K.1, fun x c r => K.2.1 x c (E.2 x c r) fun z => ?_⟩
  have lt : x < h0.size := (Array.getElem?_eq_some_iff.mp r).1
  exact absurd (q x z) (Nat.not_le_of_lt lt)
theorem own_fldI {t : Term} {x : Addr} {C n d : String} {k : Int32} (ev : t.eval args s none [] s = some (.ref x)) (hq : (Jvm.Cond.eq (.field t C n d) (.int k)).value args s none s [] = some true) : Fld s s.heap x C n d (.int k) := by
  obtain ⟨u, v, e1, e2, k1, k2⟩ := cmp_v (Or.inl hq)
  obtain rfl : v = .int k := (Option.some.inj (e2.symm.trans (Term.int_eval k)))
  obtain ⟨z, rfl⟩ := k2
  obtain rfl : z = k := gotT (Jvm.Cond.eq_ints e1 (Term.int_eval k)) hq
  exact Fld.start ((fld_at ev).symm.trans e1)
theorem own_fldJ {t : Term} {x : Addr} {C n d : String} {k : Int64} (ev : t.eval args s none [] s = some (.ref x)) (hq : (Jvm.Cond.eq (.field t C n d) (.long k)).value args s none s [] = some true) : Fld s s.heap x C n d (.long k) := by
  obtain ⟨u, v, e1, e2, k1, k2⟩ := cmp_v (Or.inl hq)
  obtain rfl : v = .long k := (Option.some.inj (e2.symm.trans (long_at k)))
  obtain ⟨z, rfl⟩ := k2
  obtain rfl : z = k := gotT (eq_L e1 (long_at k)) hq
  exact Fld.start ((fld_at ev).symm.trans e1)
theorem own_len0 {t : Term} {x : Addr} {ty : FieldType} {cl : Cell} (ev : t.eval args s none [] s = some (.ref x)) (A : Arr s s.heap x cl ty) (hq : (Jvm.Cond.eq (.length t) (.int 0)).value args s none s [] = some true) : True := trivial
end OwnKit
/-- the sheet's i-th word -/
theorem ww {Z : State} {a0 : Array Value} (hw : ∀ d ∈ tables_1, d.before a0 Z = true) (i : Nat) {d : Jvm.Cond} (h : tables_1[i]? = some d) : d.before a0 Z = true := hw _ (List.mem_of_getElem? h)
section OwnHeap
variable {p : Program} {l : Launch} {e : Env} {R : Room} {s : State} {m : MethodId} {args : Array Value} {below : List Frame} {meth : Method} {c : Code} {T : State} {locs : List Loc} {cells slots : Nat} {Z : State} {a0 : Array Value} {h h' : Heap} {a : Addr} {k : ClassId} {ty : FieldType} {z j : Int32} {vs : List Value} {dv v : Value} {g : JFrame} {rest : List Value}
theorem own_arvset {i : Nat} (F : Arv Z h a k ty z vs dv) (hv : fits ty v = true) (W : Wr h h' a j.toNatClampNeg v) (hi : j.toNatClampNeg = i) (hl : i < vs.length) : Arv Z h' a k ty z (vs.set i v) dv := by
  obtain ⟨cl, A, q, S, N, H, G⟩ := F
  exact Arv.set A q S N H G hv W i hi hl
theorem own_stI (X : Stand p l e R s m args below meth c T locs cells slots) (hx : p.tables.exec = Jvm.exec) (hZ : Z.Warmed39 s.vm) (eT : T.heap = h) (F : Arv Z h a k .int z vs dv) {x : Int32} (hj : ¬ j < 0 ∧ j < z) (i : Nat) (hi : j.toNatClampNeg = i) (hl : i < vs.length) (hg : g.method = m) (hs : g.stack = .int x :: .int j :: .ref a :: rest) (hd : decode c.code g.pc = .ok (.iastore, 1)) :
    ∃ T' h', Stand p l e R s m args below meth c T' (locs ++ [⟨a, j.toNatClampNeg⟩]) cells slots ∧ T'.heap = h' ∧ Wr h h' a j.toNatClampNeg (.int x) ∧ Arv Z h' a k .int z (vs.set i (.int x)) dv ∧ ∀ target, Steps p.tables e below (T'.setTop { g with pc := g.pc + 1, stack := rest }) target → Steps p.tables e below (T.setTop g) target := by
  obtain ⟨cl, A, q, S, N, H, G⟩ := id F
  obtain ⟨T', h', X', e', W, st⟩ := stI X hx hZ eT A (inb_of S hj) hg hs hd
  exact ⟨T', h', X', e', W, own_arvset F rfl W hi hl, st⟩
theorem own_stJ (X : Stand p l e R s m args below meth c T locs cells slots) (hx : p.tables.exec = Jvm.exec) (hZ : Z.Warmed39 s.vm) (eT : T.heap = h) (F : Arv Z h a k .long z vs dv) {x : Int64} (hj : ¬ j < 0 ∧ j < z) (i : Nat) (hi : j.toNatClampNeg = i) (hl : i < vs.length) (hg : g.method = m) (hs : g.stack = .long x :: .int j :: .ref a :: rest) (hd : decode c.code g.pc = .ok (.lastore, 1)) :
    ∃ T' h', Stand p l e R s m args below meth c T' (locs ++ [⟨a, j.toNatClampNeg⟩]) cells slots ∧ T'.heap = h' ∧ Wr h h' a j.toNatClampNeg (.long x) ∧ Arv Z h' a k .long z (vs.set i (.long x)) dv ∧ ∀ target, Steps p.tables e below (T'.setTop { g with pc := g.pc + 1, stack := rest }) target → Steps p.tables e below (T.setTop g) target := by
  obtain ⟨cl, A, q, S, N, H, G⟩ := id F
  obtain ⟨T', h', X', e', W, st⟩ := stJ X hx hZ eT A (inb_of S hj) hg hs hd
  exact ⟨T', h', X', e', W, own_arvset F rfl W hi hl, st⟩
theorem own_stB (X : Stand p l e R s m args below meth c T locs cells slots) (hx : p.tables.exec = Jvm.exec) (hZ : Z.Warmed39 s.vm) (eT : T.heap = h) (F : Arv Z h a k .byte z vs dv) {x : Int32} (hj : ¬ j < 0 ∧ j < z) (i : Nat) (hi : j.toNatClampNeg = i) (hl : i < vs.length) (hg : g.method = m) (hs : g.stack = .int x :: .int j :: .ref a :: rest) (hd : decode c.code g.pc = .ok (.bastore, 1)) :
    ∃ T' h', Stand p l e R s m args below meth c T' (locs ++ [⟨a, j.toNatClampNeg⟩]) cells slots ∧ T'.heap = h' ∧ Wr h h' a j.toNatClampNeg (.int (nar .byte x)) ∧ Arv Z h' a k .byte z (vs.set i (.int (nar .byte x))) dv ∧ ∀ target, Steps p.tables e below (T'.setTop { g with pc := g.pc + 1, stack := rest }) target → Steps p.tables e below (T.setTop g) target := by
  obtain ⟨cl, A, q, S, N, H, G⟩ := id F
  obtain ⟨T', h', X', e', W, st⟩ := stB X hx hZ eT A (inb_of S hj) hg hs hd
  exact ⟨T', h', X', e', W, own_arvset F (fits_nar_byte _) W hi hl, st⟩
theorem own_stC (X : Stand p l e R s m args below meth c T locs cells slots) (hx : p.tables.exec = Jvm.exec) (hZ : Z.Warmed39 s.vm) (eT : T.heap = h) (F : Arv Z h a k .char z vs dv) {x : Int32} (hj : ¬ j < 0 ∧ j < z) (i : Nat) (hi : j.toNatClampNeg = i) (hl : i < vs.length) (hg : g.method = m) (hs : g.stack = .int x :: .int j :: .ref a :: rest) (hd : decode c.code g.pc = .ok (.castore, 1)) :
    ∃ T' h', Stand p l e R s m args below meth c T' (locs ++ [⟨a, j.toNatClampNeg⟩]) cells slots ∧ T'.heap = h' ∧ Wr h h' a j.toNatClampNeg (.int (nar .char x)) ∧ Arv Z h' a k .char z (vs.set i (.int (nar .char x))) dv ∧ ∀ target, Steps p.tables e below (T'.setTop { g with pc := g.pc + 1, stack := rest }) target → Steps p.tables e below (T.setTop g) target := by
  obtain ⟨cl, A, q, S, N, H, G⟩ := id F
  obtain ⟨T', h', X', e', W, st⟩ := stC X hx hZ eT A (inb_of S hj) hg hs hd
  exact ⟨T', h', X', e', W, own_arvset F (fits_nar_char _) W hi hl, st⟩
theorem own_stR (X : Stand p l e R s m args below meth c T locs cells slots) (hx : p.tables.exec = Jvm.exec) (hZ : Z.Warmed39 s.vm) (eT : T.heap = h) {C : String} {y : Addr} (F : Arv Z h a k (.object C) z vs dv) (O : Ovr Z k C) (I : Ins Z h y C true) (hj : ¬ j < 0 ∧ j < z) (i : Nat) (hi : j.toNatClampNeg = i) (hl : i < vs.length) (hg : g.method = m) (hs : g.stack = .ref y :: .int j :: .ref a :: rest) (hd : decode c.code g.pc = .ok (.aastore, 1)) :
    ∃ T' h', Stand p l e R s m args below meth c T' (locs ++ [⟨a, j.toNatClampNeg⟩]) cells slots ∧ T'.heap = h' ∧ Wr h h' a j.toNatClampNeg (.ref y) ∧ Arv Z h' a k (.object C) z (vs.set i (.ref y)) dv ∧ ∀ target, Steps p.tables e below (T'.setTop { g with pc := g.pc + 1, stack := rest }) target → Steps p.tables e below (T.setTop g) target := by
  obtain ⟨cl, A, q, S, N, H, G⟩ := id F
  obtain ⟨T', h', X', e', W, st⟩ := stR X hx hZ eT A (inb_of S hj) rfl (Sto.ofV A q O I) hg hs hd
  exact ⟨T', h', X', e', W, own_arvset F rfl W hi hl, st⟩
theorem own_ldR (X : Stand p l e R s m args below meth c T locs cells slots) (hx : p.tables.exec = Jvm.exec) (hZ : Z.Warmed39 s.vm) (eT : T.heap = h) (F : Arv Z h a k ty z vs dv) (hty : ty.isReference = true) (hj : ¬ j < 0 ∧ j < z) (hv : vs.getD j.toNatClampNeg dv = v) (hg : g.method = m) (hs : g.stack = .int j :: .ref a :: rest) (hd : decode c.code g.pc = .ok (.aaload, 1)) :
    ∀ target, Steps p.tables e below (T.setTop { g with pc := g.pc + 1, stack := v :: rest }) target → Steps p.tables e below (T.setTop g) target := by
  obtain ⟨cl, A, q, S, N, H, G⟩ := F
  exact fun t k => X.aaload hx (by rw [eT]; exact A.1) (State.isArrayOf_alike hZ.alike A.2.1) hty A.2.2 (inb_of S hj) (H.at (inb_of S hj) hv) hg hs hd t k
theorem own_ldJ (X : Stand p l e R s m args below meth c T locs cells slots) (hx : p.tables.exec = Jvm.exec) (hZ : Z.Warmed39 s.vm) (eT : T.heap = h) (F : Arv Z h a k .long z vs dv) (hj : ¬ j < 0 ∧ j < z) (hv : vs.getD j.toNatClampNeg dv = v) (hg : g.method = m) (hs : g.stack = .int j :: .ref a :: rest) (hd : decode c.code g.pc = .ok (.laload, 1)) :
    ∀ target, Steps p.tables e below (T.setTop { g with pc := g.pc + 1, stack := v :: rest }) target → Steps p.tables e below (T.setTop g) target := by
  obtain ⟨cl, A, q, S, N, H, G⟩ := F
  exact fun t k => X.laload hx (by rw [eT]; exact A.1) (State.isArrayOf_alike hZ.alike A.2.1) A.2.2 (inb_of S hj) (H.at (inb_of S hj) hv) hg hs hd t k
theorem own_ldI (X : Stand p l e R s m args below meth c T locs cells slots) (hx : p.tables.exec = Jvm.exec) (hZ : Z.Warmed39 s.vm) (eT : T.heap = h) (F : Arv Z h a k .int z vs dv) (hj : ¬ j < 0 ∧ j < z) (hv : vs.getD j.toNatClampNeg dv = v) (hg : g.method = m) (hs : g.stack = .int j :: .ref a :: rest) (hd : decode c.code g.pc = .ok (.iaload, 1)) :
    ∀ target, Steps p.tables e below (T.setTop { g with pc := g.pc + 1, stack := v :: rest }) target → Steps p.tables e below (T.setTop g) target := by
  obtain ⟨cl, A, q, S, N, H, G⟩ := F
  exact fun t k => X.iaload hx (by rw [eT]; exact A.1) (State.isArrayOf_alike hZ.alike A.2.1) A.2.2 (inb_of S hj) (H.at (inb_of S hj) hv) hg hs hd t k
theorem own_ldB (X : Stand p l e R s m args below meth c T locs cells slots) (hx : p.tables.exec = Jvm.exec) (hZ : Z.Warmed39 s.vm) (eT : T.heap = h) (F : Arv Z h a k .byte z vs dv) (hj : ¬ j < 0 ∧ j < z) (hv : vs.getD j.toNatClampNeg dv = v) (hg : g.method = m) (hs : g.stack = .int j :: .ref a :: rest) (hd : decode c.code g.pc = .ok (.baload, 1)) :
    ∀ target, Steps p.tables e below (T.setTop { g with pc := g.pc + 1, stack := v :: rest }) target → Steps p.tables e below (T.setTop g) target := by
  obtain ⟨cl, A, q, S, N, H, G⟩ := F
  exact fun t k => X.baloadBytes hx (by rw [eT]; exact A.1) (State.isArrayOf_alike hZ.alike A.2.1) A.2.2 (inb_of S hj) (H.at (inb_of S hj) hv) hg hs hd t k
theorem own_alen (X : Stand p l e R s m args below meth c T locs cells slots) (hx : p.tables.exec = Jvm.exec) (hZ : Z.Warmed39 s.vm) (eT : T.heap = h) (F : Arv Z h a k ty z vs dv) (hg : g.method = m) (hs : g.stack = .ref a :: rest) (hd : decode c.code g.pc = .ok (.arraylength, 1)) :
    ∀ target, Steps p.tables e below (T.setTop { g with pc := g.pc + 1, stack := .int z :: rest }) target → Steps p.tables e below (T.setTop g) target := by
  obtain ⟨cl, A, q, S, N, H, G⟩ := F
  intro t k
  refine X.arraylength hx (by rw [eT]; exact A.1) (State.isArrayOf_alike hZ.alike A.2.1) hg hs hd t ?_
  rw [len_of S N]; exact k
theorem own_lt_ne {x y : Addr} (q : x < h.size) (g : y = h.size) : x ≠ y := Nat.ne_of_lt (g ▸ q)
theorem own_lt_ne' {x y : Addr} (q : x < h.size) (g : h.size ≤ y) : x ≠ y := Nat.ne_of_lt (Nat.lt_of_lt_of_le q g)
theorem own_callVU (X : Stand p l e R s m args below meth c T locs cells slots) (hx : p.tables.exec = Jvm.exec) (hZ : Z.Warmed39 s.vm)
    {own C owner : String} {index : Nat} {y z : MethodName} {bytes : ByteArray} {maxL : Nat} {ret : Option FieldType} {rm : Room} {as' : Array Value} {Q : Option Value → Heap → List Loc → Prop} {b : Addr}
    (hown : s.vm.findClass own = some m.cls) (w1 : (Jvm.Cond.methodLink own index y).before a0 Z = true) (w2 : (Jvm.Cond.sameMethod y.cls owner y.name y.desc).before a0 Z = true) (w7 : (Jvm.Cond.declares ⟨owner, y.name, y.desc⟩).before a0 Z = true) (ho : owner ≠ "java/lang/invoke/MethodHandle" ∧ owner ≠ "java/lang/invoke/VarHandle") (w4 : (Jvm.Cond.selects C y z).before a0 Z = true) (w5 : (Jvm.Cond.instanceMethod z).before a0 Z = true) (w3 : (Jvm.Cond.initialized z.cls).before a0 Z = true) (w6 : (Jvm.Cond.code z bytes maxL ret).before a0 Z = true)
    (eT : T.heap = h) (E : Exa Z h b C) (hM : Con l Z h z bytes maxL ret [] rm as' Q)
    (W : Nat) (hf : rm.frames + 1 ≤ R.frames) (hl : W + (maxL + 11) + rm.locals ≤ R.locals) (hc : cells + rm.cells ≤ R.cells) (hs : slots + rm.slots ≤ R.slots)
    {g : JFrame} (hg : g.method = m) (hsize : g.locals.size = c.maxLocals) (argsL rest : List Value) (has : (.ref b :: argsL).toArray = as') (hlen : ∀ sig, parseMethodDescriptor y.desc = some sig → argsL.length = sig.parameters.length) (hstack : g.stack = argsL.reverse ++ .ref b :: rest) (hW : 2 * g.monitorRoom + (rest.map fun v => v.category).sum ≤ W)
    (hd : decode c.code g.pc = .ok (.invokevirtual index, 3)) :
    ∃ (v : Option Value) (T' : State) (L : List Loc), Stand p l e R s m args below meth c T' (locs ++ L) (cells + rm.cells) (slots + rm.slots) ∧ Q v T'.heap L ∧ ∀ t, Steps p.tables e below (T'.setTop { g with pc := g.pc + 3, stack := v.toList ++ rest }) t → Steps p.tables e below (T.setTop g) t := by
  obtain ⟨cq, kq, qa, qb, qc⟩ := isOf hZ eT E
  obtain ⟨v, _, ⟨T', L', k', n'⟩, -, X', ⟨L, hQ, l1, l2, l3⟩, st⟩ := X.virtualBackUp hx hown (mvT hZ w1) (mvT hZ w2) (mvT hZ w7) ho (mvT hZ w4) (mvT hZ w5) (backOf (W := W) hM hZ w6 w3 hf hl) qa qc hg hsize (Steps.refl _) hlen hstack hW hd (fun _ _ => ⟨has, eT, hc, hs⟩)
  dsimp only [Pt.U, Pt.locs, Pt.cells, Pt.slots] at X' l1 l2 l3 st hQ
  subst l1 l2 l3
  exact ⟨v, T', L, X', hQ, fun t k => st.trans k⟩
theorem own_callF (X : Stand p l e R s m args below meth c T locs cells slots) (hx : p.tables.exec = Jvm.exec) (hZ : Z.Warmed39 s.vm)
    {own C : String} {index count : Nat} {y z : MethodName} {bytes : ByteArray} {maxL : Nat} {ret : Option FieldType} {rm : Room} {as' : Array Value} {Q : Option Value → Heap → List Loc → Prop} {b : Addr}
    (hown : s.vm.findClass own = some m.cls) (w1 : (Jvm.Cond.methodLink own index y).before a0 Z = true) (w2 : (Jvm.Cond.declares y).before a0 Z = true) (w7 : (Jvm.Cond.interfaceMethod y.cls y.cls y.name y.desc).before a0 Z = true) (w4 : (Jvm.Cond.selects C y z).before a0 Z = true) (w5 : (Jvm.Cond.instanceMethod z).before a0 Z = true) (w8 : (Jvm.Cond.publicMethod z).before a0 Z = true) (w9 : (Jvm.Cond.unhidden C y.name y.desc).before a0 Z = true) (w10 : (Jvm.Cond.castable C y.cls).before a0 Z = true) (w3 : (Jvm.Cond.initialized z.cls).before a0 Z = true) (w6 : (Jvm.Cond.code z bytes maxL ret).before a0 Z = true)
    (hy : y.cls ≠ "java/lang/invoke/MethodHandle" ∧ y.cls ≠ "java/lang/invoke/VarHandle") (eT : T.heap = h) (E : Exa Z h b C) (hM : Con l Z h z bytes maxL ret [] rm as' Q)
    (W : Nat) (hf : rm.frames + 1 ≤ R.frames) (hl : W + (maxL + 11) + rm.locals ≤ R.locals) (hc : cells + rm.cells ≤ R.cells) (hs : slots + rm.slots ≤ R.slots)
    {g : JFrame} (hg : g.method = m) (hsize : g.locals.size = c.maxLocals) (argsL rest : List Value) (has : (.ref b :: argsL).toArray = as') (hlen : ∀ sig, parseMethodDescriptor y.desc = some sig → argsL.length = sig.parameters.length) (hstack : g.stack = argsL.reverse ++ .ref b :: rest) (hW : 2 * g.monitorRoom + (rest.map fun v => v.category).sum ≤ W)
    (hd : decode c.code g.pc = .ok (.invokeinterface index count, 5)) :
    ∃ (v : Option Value) (T' : State) (L : List Loc), Stand p l e R s m args below meth c T' (locs ++ L) (cells + rm.cells) (slots + rm.slots) ∧ Q v T'.heap L ∧ ∀ t, Steps p.tables e below (T'.setTop { g with pc := g.pc + 5, stack := v.toList ++ rest }) t → Steps p.tables e below (T.setTop g) t := by
  obtain ⟨cq, kq, qa, qb, qc⟩ := isOf hZ eT E
  obtain ⟨v, _, ⟨T', L', k', n'⟩, -, X', ⟨L, hQ, l1, l2, l3⟩, st⟩ := X.interfaceBack hx hown (mvT hZ w1) (mvT hZ w2) (mvT hZ w7 (by simp [Cond.onTables, Cond.keepsFace, Cond.keeps, Cond.steady, Cond.faceAtom, hy.1, hy.2])) (mvT hZ w4) (mvT hZ w5) (mvT hZ w8) (mvT hZ w9) (mvT hZ w10) hy (backOf (W := W) hM hZ w6 w3 hf hl) qa qb qc hg hsize (Steps.refl _) hlen hstack hW hd (fun _ _ => ⟨has, eT, hc, hs⟩)
  dsimp only [Pt.U, Pt.locs, Pt.cells, Pt.slots] at X' l1 l2 l3 st hQ
  subst l1 l2 l3
  exact ⟨v, T', L, X', hQ, fun t k => st.trans k⟩
theorem own_callP (X : Stand p l e R s m args below meth c T locs cells slots) (hx : p.tables.exec = Jvm.exec) (hZ : Z.Warmed39 s.vm)
    {own : String} {index n : Nat} {y : MethodName} {bytes : ByteArray} {maxL : Nat} {ret : Option FieldType} {rm : Room} {as' : Array Value} {Q : Option Value → Heap → List Loc → Prop} {b : Addr} {C : String}
    (hown : s.vm.findClass own = some m.cls) (w1 : (Jvm.Cond.methodLink own index y).before a0 Z = true) (w5 : (Jvm.Cond.instanceMethod y).before a0 Z = true) (w2 : (Jvm.Cond.privateMethod y).before a0 Z = true) (wi : (Jvm.Cond.instantiable y.cls n).before a0 Z = true) (w3 : (Jvm.Cond.initialized y.cls).before a0 Z = true) (w6 : (Jvm.Cond.code y bytes maxL ret).before a0 Z = true)
    (hy : y.cls ≠ "java/lang/invoke/MethodHandle" ∧ y.cls ≠ "java/lang/invoke/VarHandle") (eT : T.heap = h) (E : Exa Z h b C) (hM : Con l Z h y bytes maxL ret [] rm as' Q)
    (W : Nat) (hf : rm.frames + 1 ≤ R.frames) (hl : W + (maxL + 11) + rm.locals ≤ R.locals) (hc : cells + rm.cells ≤ R.cells) (hs : slots + rm.slots ≤ R.slots)
    {g : JFrame} (hg : g.method = m) (hsize : g.locals.size = c.maxLocals) (argsL rest : List Value) (has : (.ref b :: argsL).toArray = as') (hlen : ∀ sig, parseMethodDescriptor y.desc = some sig → argsL.length = sig.parameters.length) (hstack : g.stack = argsL.reverse ++ .ref b :: rest) (hW : 2 * g.monitorRoom + (rest.map fun v => v.category).sum ≤ W)
    (hd : decode c.code g.pc = .ok (.invokevirtual index, 3)) :
    ∃ (v : Option Value) (T' : State) (L : List Loc), Stand p l e R s m args below meth c T' (locs ++ L) (cells + rm.cells) (slots + rm.slots) ∧ Q v T'.heap L ∧ ∀ t, Steps p.tables e below (T'.setTop { g with pc := g.pc + 3, stack := v.toList ++ rest }) t → Steps p.tables e below (T.setTop g) t := by
  obtain ⟨cq, q1, q2⟩ := E.cell
  have hpriv := Cond.privateMethod_at (mvP hZ w2 (args := args))
  have wi' : (Jvm.Cond.instantiable y.cls n).before args s = true := mvT hZ wi
  obtain ⟨ci, ki, i1, i2, -, i4, -⟩ := Cond.instantiable_spec wi'
  have hni : ki.isInterface = false := by cases hh : ki.isInterface <;> simp [hh] at i4 ⊢
  obtain ⟨v, _, ⟨T', L', k', n'⟩, -, X', ⟨L, hQ, l1, l2, l3⟩, st⟩ := X.privateBack hx hown (mvT hZ w1) (mvT hZ w5) (selects_self_of_private i1 i2 hni hpriv (mvT hZ w5) hy) hpriv (mvT hZ w6) hy (backOf (W := W) hM hZ w6 w3 hf hl) hg hsize (Steps.refl _) (by rw [eT]; exact q1) q2 hlen hstack hW hd (fun _ _ => ⟨has, eT, hc, hs⟩)
  dsimp only [Pt.U, Pt.locs, Pt.cells, Pt.slots] at X' l1 l2 l3 st hQ
  subst l1 l2 l3
  exact ⟨v, T', L, X', hQ, fun t k => st.trans k⟩
theorem own_nosub {C K O : String} {n : Nat} (w : (Jvm.Cond.superclass C O).before a0 Z = true) (wo : (Jvm.Cond.noSuperclass O).before a0 Z = true) (wk : (Jvm.Cond.instantiable K n).before a0 Z = true) (h1 : C ≠ K) (h2 : O ≠ K) :
    ∃ c t, Z.vm.findClass C = some c ∧ Z.vm.findClass K = some t ∧ Z.vm.assignable c t = false := by
  obtain ⟨c, f0⟩ := found_sup w
  obtain ⟨t, kt, g1, g2, g3, g4, -⟩ := Cond.instantiable_spec wk
  have g5 : kt.isInterface = false := by cases hh : kt.isInterface <;> simp [hh] at g4 ⊢
  obtain ⟨q, k, kp, f1, f2, f3, f4, f5, -, f7⟩ := Cond.superclass_spec f0 w
  obtain ⟨co, ko, o1, o2, o3, -, -⟩ := Cond.noSuperclass_spec wo
  cases o1.symm.trans f1
  have ne1 := ids_ne f0 g1 h1
  have ne2 := ids_ne o1 g1 h2
  have sub : ∀ fuel, Z.vm.isSubclassAux fuel c t = false := by
    intro fuel
    cases fuel with
    | zero => rfl
    | succ f =>
      have r : Z.vm.isSubclassAux f q t = false := by
        cases f with
        | zero => rfl
        | succ f' => simp [Vm.isSubclassAux, ne2, o2, o3]
      simp [Vm.isSubclassAux, ne1, f2, f4, r]
  refine ⟨c, t, f0, g1, ?_⟩
  show Z.vm.assignableAux (255 + 1) c t = false
  simp [Vm.assignableAux, ne1, f2, g2, f5, g3, g5, Vm.isSubclass, sub]
theorem own_arv0 {t : Term} {w : Addr} {cl : Cell} (hf : Fit s) (ev : t.eval args s none [] s = some (.ref w)) (A : Arr s s.heap w cl ty) (hq : (Jvm.Cond.eq (.length t) (.int 0)).value args s none s [] = some true) : Arv s s.heap w cl.cls ty 0 [] dv := by
  have ha : s.arrayAt? w = some cl := Arr.fin (Vm.Alike.refl _) A
  obtain ⟨u, v, e1, e2, k1, k2⟩ := cmp_v (Or.inl hq)
  obtain rfl : v = .int 0 := Option.some.inj (e2.symm.trans (Term.int_eval 0))
  obtain ⟨z, rfl⟩ := k2
  obtain rfl : z = 0 := gotT (Jvm.Cond.eq_ints e1 (Term.int_eval 0)) hq
  by_cases hl : cl.slots.size < 2 ^ 31
  · have q := (len_f ev ha hl).symm.trans e1
    exact Arv.start hf A hl (Value.int.inj (Option.some.inj q)) (by decide) rfl trivial
  · exfalso
    simp [Term.eval, ev, ha, hl] at e1
end OwnHeap
theorem own_rem {x : Int32} {n : Int32} (hn : 0 < n.toInt) : 0 ≤ ((x &&& 2147483647) % n).toInt ∧ ((x &&& 2147483647) % n).toInt < n.toInt := by
  have e1 : (x &&& 2147483647).toInt = x.toInt % 2 ^ 31 := Jvm.Kit.i32_mask x 2147483647 (k := 31) (by decide) (by decide)
  have e2 := Jvm.Kit.i32_rem_nonneg (x := (x &&& 2147483647)) (y := n) (by omega)
  rw [e2]
  exact ⟨Int.emod_nonneg _ (by omega), Int.emod_lt_of_pos _ hn⟩
theorem own_i32 {x : Int32} {k : Int} (h : x.toInt = k) : x = Int32.ofInt k := by
  rw [← h, Int32.ofInt_toInt]
theorem own_lremE (x y : Int64) : x - (x / y) * y = x % y := Int64.toInt_inj.mp ((Jvm.Kit.i64_rem x y).trans (Int64.toInt_mod x y).symm)
theorem own_rem6 (x : Int32) : (x &&& 2147483647) % 6 = 0 ∨ (x &&& 2147483647) % 6 = 1 ∨ (x &&& 2147483647) % 6 = 2 ∨ (x &&& 2147483647) % 6 = 3 ∨ (x &&& 2147483647) % 6 = 4 ∨ (x &&& 2147483647) % 6 = 5 := by
  have h := own_rem (x := x) (n := 6) (by decide)
  generalize (x &&& 2147483647) % 6 = k at *
  have e : (6 : Int32).toInt = 6 := by decide
  have q : k.toInt = 0 ∨ k.toInt = 1 ∨ k.toInt = 2 ∨ k.toInt = 3 ∨ k.toInt = 4 ∨ k.toInt = 5 := by omega
  rcases q with q | q | q | q | q | q
  · exact Or.inl (own_i32 q)
  · exact Or.inr (Or.inl (own_i32 q))
  · exact Or.inr (Or.inr (Or.inl (own_i32 q)))
  · exact Or.inr (Or.inr (Or.inr (Or.inl (own_i32 q))))
  · exact Or.inr (Or.inr (Or.inr (Or.inr (Or.inl (own_i32 q)))))
  · exact Or.inr (Or.inr (Or.inr (Or.inr (Or.inr (own_i32 q)))))
/-- what stands at the start: the statics, their classes and fields -/
def SF (Z : State) (w_NL : Addr) (w_RS : Addr) (w_RX : Addr) (w_S : Addr) (w_SRX : Addr) (w_X : Addr) : Prop := Sta Z Z.heap "com/example/grendel/grendel/LockMode" "NL" "Lcom/example/grendel/grendel/LockMode;" (.ref w_NL) ∧ Exa Z Z.heap w_NL "com/example/grendel/grendel/LockMode" ∧ Fld Z Z.heap w_NL "com/example/grendel/grendel/LockMode" "code" "I" (.int (1 : Int32)) ∧ Sta Z Z.heap "com/example/grendel/grendel/LockMode" "RS" "Lcom/example/grendel/grendel/LockMode;" (.ref w_RS) ∧ Exa Z Z.heap w_RS "com/example/grendel/grendel/LockMode" ∧ Sta Z Z.heap "com/example/grendel/grendel/LockMode" "RX" "Lcom/example/grendel/grendel/LockMode;" (.ref w_RX) ∧ Exa Z Z.heap w_RX "com/example/grendel/grendel/LockMode" ∧ Sta Z Z.heap "com/example/grendel/grendel/LockMode" "S" "Lcom/example/grendel/grendel/LockMode;" (.ref w_S) ∧ Exa Z Z.heap w_S "com/example/grendel/grendel/LockMode" ∧ Sta Z Z.heap "com/example/grendel/grendel/LockMode" "SRX" "Lcom/example/grendel/grendel/LockMode;" (.ref w_SRX) ∧ Exa Z Z.heap w_SRX "com/example/grendel/grendel/LockMode" ∧ Sta Z Z.heap "com/example/grendel/grendel/LockMode" "X" "Lcom/example/grendel/grendel/LockMode;" (.ref w_X) ∧ Exa Z Z.heap w_X "com/example/grendel/grendel/LockMode" ∧ Fld Z Z.heap w_S "com/example/grendel/grendel/LockMode" "code" "I" (.int (4 : Int32)) ∧ Fld Z Z.heap w_X "com/example/grendel/grendel/LockMode" "code" "I" (.int (6 : Int32)) ∧ Fld Z Z.heap w_RS "com/example/grendel/grendel/LockMode" "code" "I" (.int (2 : Int32)) ∧ Fld Z Z.heap w_RX "com/example/grendel/grendel/LockMode" "code" "I" (.int (3 : Int32)) ∧ Fld Z Z.heap w_SRX "com/example/grendel/grendel/LockMode" "code" "I" (.int (5 : Int32))
def isF (n : Int32) : Int32 := if n < 1 then 0 else if 6 < n then 0 else 1
theorem d1_0 : decode prog_16_method_5_code 0 = .ok (.iload_n 0, 1) := by decide +kernel
theorem d1_1 : decode prog_16_method_5_code 1 = .ok (.getstatic 3, 3) := by decide +kernel
theorem d1_4 : decode prog_16_method_5_code 4 = .ok (.getfield 41, 3) := by decide +kernel
theorem d1_7 : decode prog_16_method_5_code 7 = .ok (.if_icmp .lt 17, 3) := by decide +kernel
theorem d1_10 : decode prog_16_method_5_code 10 = .ok (.iload_n 0, 1) := by decide +kernel
theorem d1_11 : decode prog_16_method_5_code 11 = .ok (.getstatic 19, 3) := by decide +kernel
theorem d1_14 : decode prog_16_method_5_code 14 = .ok (.getfield 41, 3) := by decide +kernel
theorem d1_17 : decode prog_16_method_5_code 17 = .ok (.if_icmp .gt 7, 3) := by decide +kernel
theorem d1_20 : decode prog_16_method_5_code 20 = .ok (.iconst 1, 1) := by decide +kernel
theorem d1_21 : decode prog_16_method_5_code 21 = .ok (.goto 4, 3) := by decide +kernel
theorem d1_24 : decode prog_16_method_5_code 24 = .ok (.iconst 0, 1) := by decide +kernel
theorem d1_25 : decode prog_16_method_5_code 25 = .ok (.ireturn, 1) := by decide +kernel
theorem pn_580335 : plainName "com/example/grendel/grendel/LockMode" = true := by first | (simp [plainName, overriddenIn]; done) | decide +kernel
theorem ef_rm1 (m : MethodId) (x0 : Int32) : entryFrame m #[(.int x0)] 1 = mkF m 0 #[.val (.int x0)] [] := by first | (simp [entryFrame, mkF, argsToLocals, Value.category]; done) | rfl
set_option maxRecDepth 65536 in
set_option maxHeartbeats 400000000 in
theorem rm1 (l : Launch) (Z : State) (a0 : Array Value) (hw : ∀ d ∈ tables_1, d.before a0 Z = true) (ws : List Jvm.Cond) (w_NL : Addr) (w_RS : Addr) (w_RX : Addr) (w_S : Addr) (w_SRX : Addr) (w_X : Addr) (hS : SF Z w_NL w_RS w_RX w_S w_SRX w_X) (p1 r : Int32) (hr : isF p1 = r) (h0 : Heap) (O0 : Ext Z.heap h0)  :
    Con l Z h0 (⟨"com/example/grendel/grendel/LockMode", "isCode", "(I)Z"⟩ : MethodName) prog_16_method_5_code 1 (some .boolean) ws ({ frames := 0, cells := 0, slots := 0, locals := 0 } : Room) #[(.int p1)] (fun v h L => v = some (.int r) ∧ Fr Z.heap.size L ∧ h = h0) := by
  obtain ⟨S_NL, E_NL, F_NL_code, S_RS, E_RS, S_RX, E_RX, S_S, E_S, S_SRX, E_SRX, S_X, E_X, F_S_code, F_X_code, F_RS_code, F_RX_code, F_SRX_code⟩ := id hS
  refine own_con (plainFor_of_name pn_580335) ?_
  intro p e s m below meth c T0 X0 hx hby hml hown hnm hret hlk hZ e0
  have hown : s.vm.findClass "com/example/grendel/grendel/LockMode" = some m.cls := hown
  have N0 := Fr.nil Z.heap.size
  refine Go.st (S' := T0.setTop (mkF m 0 #[.val (.int p1)] [])) (fun _ k => castTop (ef_rm1 m p1) k) ?_
  refine Go.st (S' := T0.setTop (mkF m 1 #[.val (.int p1)] [(.int p1)])) (fun _ k => XS.iloadN X0.here hx rfl (hb hby d1_0) rfl k) ?_
  obtain ⟨T1, X1, e1, st1⟩ := getS2 X0 hx hZ hown (host := "") (Or.inl (ww hw 4 rfl)) Via.refl e0 (S_NL.ext O0) (g := (mkF m 1 #[.val (.int p1)] [(.int p1)])) rfl (hb hby d1_1)
  refine Go.st (S' := T1.setTop (mkF m 4 #[.val (.int p1)] [(.ref w_NL), (.int p1)])) st1 ?_
  obtain ⟨T2, X2, e2, st2⟩ := getF X1 hx hZ hown (host := "") (Or.inl (ww hw 6 rfl)) Via.refl e1 (F_NL_code.ext O0) (g := (mkF m 4 #[.val (.int p1)] [(.ref w_NL), (.int p1)])) rfl rfl (hb hby d1_4)
  refine Go.st (S' := T2.setTop (mkF m 7 #[.val (.int p1)] [(.int (1 : Int32)), (.int p1)])) st2 ?_
  by_cases hc7 : p1 < (1 : Int32)
  · refine Go.st (S' := T2.setTop (mkF m 24 #[.val (.int p1)] [])) (fun _ k => XS.icmpYes X2.here hx rfl (pc0 := 7) (pc' := 24) rfl (hb hby d1_7) rfl (tlt hc7).1 (by decide) (by decide) k) ?_
    refine Go.st (S' := T2.setTop (mkF m 25 #[.val (.int p1)] [(.int (0 : Int32))])) (fun _ k => XS.iconst X2.here hx rfl (hb hby d1_24) k) ?_
    exact own_retN X2 hx hlk hret (by simp) (hb hby d1_25) e2 ⟨by simp [← hr, isF, hc7, nar], N0, rfl⟩ (by decide) (by decide)
  · refine Go.st (S' := T2.setTop (mkF m 10 #[.val (.int p1)] [])) (fun _ k => XS.icmpNo X2.here hx rfl (hb hby d1_7) rfl (flt hc7).1 k) ?_
    refine Go.st (S' := T2.setTop (mkF m 11 #[.val (.int p1)] [(.int p1)])) (fun _ k => XS.iloadN X2.here hx rfl (hb hby d1_10) rfl k) ?_
    obtain ⟨T3, X3, e3, st3⟩ := getS2 X2 hx hZ hown (host := "") (Or.inl (ww hw 28 rfl)) Via.refl e2 (S_X.ext O0) (g := (mkF m 11 #[.val (.int p1)] [(.int p1)])) rfl (hb hby d1_11)
    refine Go.st (S' := T3.setTop (mkF m 14 #[.val (.int p1)] [(.ref w_X), (.int p1)])) st3 ?_
    obtain ⟨T4, X4, e4, st4⟩ := getF X3 hx hZ hown (host := "") (Or.inl (ww hw 6 rfl)) Via.refl e3 (F_X_code.ext O0) (g := (mkF m 14 #[.val (.int p1)] [(.ref w_X), (.int p1)])) rfl rfl (hb hby d1_14)
    refine Go.st (S' := T4.setTop (mkF m 17 #[.val (.int p1)] [(.int (6 : Int32)), (.int p1)])) st4 ?_
    by_cases hc17 : (6 : Int32) < p1
    · refine Go.st (S' := T4.setTop (mkF m 24 #[.val (.int p1)] [])) (fun _ k => XS.icmpYes X4.here hx rfl (pc0 := 17) (pc' := 24) rfl (hb hby d1_17) rfl (tlt hc17).2.2.1 (by decide) (by decide) k) ?_
      refine Go.st (S' := T4.setTop (mkF m 25 #[.val (.int p1)] [(.int (0 : Int32))])) (fun _ k => XS.iconst X4.here hx rfl (hb hby d1_24) k) ?_
      exact own_retN X4 hx hlk hret (by simp) (hb hby d1_25) e4 ⟨by simp [← hr, isF, hc7, hc17, nar], N0, rfl⟩ (by decide) (by decide)
    · refine Go.st (S' := T4.setTop (mkF m 20 #[.val (.int p1)] [])) (fun _ k => XS.icmpNo X4.here hx rfl (hb hby d1_17) rfl (flt hc17).2.2.1 k) ?_
      refine Go.st (S' := T4.setTop (mkF m 21 #[.val (.int p1)] [(.int (1 : Int32))])) (fun _ k => XS.iconst X4.here hx rfl (hb hby d1_20) k) ?_
      refine Go.st (S' := T4.setTop (mkF m 25 #[.val (.int p1)] [(.int (1 : Int32))])) (fun _ k => XS.goto X4.here hx rfl (pc0 := 21) (pc' := 25) rfl (hb hby d1_21) (by decide) (by decide) k) ?_
      exact own_retN X4 hx hlk hret (by simp) (hb hby d1_25) e4 ⟨by simp [← hr, isF, hc7, hc17, nar], N0, rfl⟩ (by decide) (by decide)
theorem d2_0 : decode prog_16_method_4_code 0 = .ok (.aload_n 0, 1) := by decide +kernel
theorem d2_1 : decode prog_16_method_4_code 1 = .ok (.getfield 41, 3) := by decide +kernel
theorem d2_4 : decode prog_16_method_4_code 4 = .ok (.ireturn, 1) := by decide +kernel
theorem ef_rm2 (m : MethodId) (x0 : Addr) : entryFrame m #[(.ref x0)] 1 = mkF m 0 #[.val (.ref x0)] [] := by first | (simp [entryFrame, mkF, argsToLocals, Value.category]; done) | rfl
set_option maxRecDepth 65536 in
set_option maxHeartbeats 400000000 in
theorem rm2 (l : Launch) (Z : State) (a0 : Array Value) (hw : ∀ d ∈ tables_1, d.before a0 Z = true) (ws : List Jvm.Cond) (w_NL : Addr) (w_RS : Addr) (w_RX : Addr) (w_S : Addr) (w_SRX : Addr) (w_X : Addr) (hS : SF Z w_NL w_RS w_RX w_S w_SRX w_X) (a1 : Addr) (C : Int32) (h0 : Heap) (O0 : Ext Z.heap h0) (FC : Fld Z h0 a1 "com/example/grendel/grendel/LockMode" "code" "I" (.int C)) :
    Con l Z h0 (⟨"com/example/grendel/grendel/LockMode", "code", "()I"⟩ : MethodName) prog_16_method_4_code 1 (some .int) ws ({ frames := 0, cells := 0, slots := 0, locals := 0 } : Room) #[(.ref a1)] (fun v h L => v = some (.int C) ∧ Fr Z.heap.size L ∧ h = h0) := by
  obtain ⟨S_NL, E_NL, F_NL_code, S_RS, E_RS, S_RX, E_RX, S_S, E_S, S_SRX, E_SRX, S_X, E_X, F_S_code, F_X_code, F_RS_code, F_RX_code, F_SRX_code⟩ := id hS
  refine own_con (plainFor_of_name pn_580335) ?_
  intro p e s m below meth c T0 X0 hx hby hml hown hnm hret hlk hZ e0
  have hown : s.vm.findClass "com/example/grendel/grendel/LockMode" = some m.cls := hown
  have N0 := Fr.nil Z.heap.size
  refine Go.st (S' := T0.setTop (mkF m 0 #[.val (.ref a1)] [])) (fun _ k => castTop (ef_rm2 m a1) k) ?_
  refine Go.st (S' := T0.setTop (mkF m 1 #[.val (.ref a1)] [(.ref a1)])) (fun _ k => XS.aloadN X0.here hx rfl (hb hby d2_0) rfl rfl k) ?_
  obtain ⟨T5, X5, e5, st5⟩ := getF X0 hx hZ hown (host := "") (Or.inl (ww hw 6 rfl)) Via.refl e0 FC (g := (mkF m 1 #[.val (.ref a1)] [(.ref a1)])) rfl rfl (hb hby d2_1)
  refine Go.st (S' := T5.setTop (mkF m 4 #[.val (.ref a1)] [(.int C)])) st5 ?_
  exact own_retI X5 hx hlk hret (hb hby d2_4) e5 ⟨rfl, N0, rfl⟩ (by decide) (by decide)
theorem pd_674845 : parseMethodDescriptor "(I)Z" = some ⟨[.int], some .boolean⟩ := by decide +kernel
theorem pd_428473 : parseMethodDescriptor "()I" = some ⟨[], some .int⟩ := by decide +kernel
theorem pn_175986 : plainName "com/example/grendel/grendel/LockModeIsCodePinLaw" = true := by first | (simp [plainName, overriddenIn]; done) | decide +kernel
theorem ef_rm0 (m : MethodId) (x0 : Int32) (x1 : Int32) : entryFrame m #[(.int x0), (.int x1)] maxLocals = mkF m 0 #[.val (.int x0), .val (.int x1), .unset, .unset, .unset] [] := by first | (simp [entryFrame, mkF, argsToLocals, Value.category, maxLocals]; done) | rfl
set_option maxRecDepth 65536 in
set_option maxHeartbeats 400000000 in
theorem rm0 (l : Launch) (Z : State) (a0 : Array Value) (hw : ∀ d ∈ tables_1, d.before a0 Z = true) (ws : List Jvm.Cond) (w_NL : Addr) (w_RS : Addr) (w_RX : Addr) (w_S : Addr) (w_SRX : Addr) (w_X : Addr) (hS : SF Z w_NL w_RS w_RX w_S w_SRX w_X) (p1 : Int32) (p2 : Int32) (h0 : Heap) (O0 : Ext Z.heap h0)  :
    Con l Z h0 x code maxLocals ret ws room_1 #[(.int p1), (.int p2)] (fun v h L => v = some (.int 1) ∧ Fr Z.heap.size L) := by
  obtain ⟨S_NL, E_NL, F_NL_code, S_RS, E_RS, S_RX, E_RX, S_S, E_S, S_SRX, E_SRX, S_X, E_X, F_S_code, F_X_code, F_RS_code, F_RX_code, F_SRX_code⟩ := id hS
  refine own_con (plainFor_of_name pn_175986) ?_
  intro p e s m below meth c T0 X0 hx hby hml hown hnm hret hlk hZ e0
  have hown : s.vm.findClass "com/example/grendel/grendel/LockModeIsCodePinLaw" = some m.cls := hown
  have N0 := Fr.nil Z.heap.size
  refine Go.st (S' := T0.setTop (mkF m 0 #[.val (.int p1), .val (.int p2), .unset, .unset, .unset] [])) (fun _ k => castTop (ef_rm0 m p1 p2) k) ?_
  refine Go.st (S' := T0.setTop (mkF m 1 #[.val (.int p1), .val (.int p2), .unset, .unset, .unset] [(.int p1)])) (fun _ k => XS.iloadN X0.here hx rfl (hb hby at_0) rfl k) ?_
  refine Go.st (S' := T0.setTop (mkF m 2 #[.val (.int p1), .val (.int p2), .unset, .unset, .unset] [(.int (1 : Int32)), (.int p1)])) (fun _ k => XS.iconst X0.here hx rfl (hb hby at_1) k) ?_
  by_cases hc2 : p1 < (1 : Int32)
  · refine Go.st (S' := T0.setTop (mkF m 15 #[.val (.int p1), .val (.int p2), .unset, .unset, .unset] [])) (fun _ k => XS.icmpYes X0.here hx rfl (pc0 := 2) (pc' := 15) rfl (hb hby at_2) rfl (tlt hc2).1 (by decide) (by decide) k) ?_
    refine Go.st (S' := T0.setTop (mkF m 16 #[.val (.int p1), .val (.int p2), .unset, .unset, .unset] [(.int (0 : Int32))])) (fun _ k => XS.iconst X0.here hx rfl (hb hby at_15) k) ?_
    refine Go.st (S' := T0.setTop (mkF m 17 #[.val (.int p1), .val (.int p2), .val (.int (0 : Int32)), .unset, .unset] [])) (fun _ k => XS.istoreN X0.here hx rfl (hb hby at_16) rfl (l' := #[.val (.int p1), .val (.int p2), .val (.int (0 : Int32)), .unset, .unset]) rfl k) ?_
    refine Go.st (S' := T0.setTop (mkF m 18 #[.val (.int p1), .val (.int p2), .val (.int (0 : Int32)), .unset, .unset] [(.int p1)])) (fun _ k => XS.iloadN X0.here hx rfl (hb hby at_17) rfl k) ?_
    obtain ⟨_, T6, L6, X6, ⟨rfl, Nq6, eq6⟩, st6⟩ := own_callS X0 hx hZ hown (ww hw 0 rfl) (ww hw 1 rfl) (ww hw 2 rfl) (ww hw 3 rfl) (by decide) e0 (rm1 l Z a0 hw [] w_NL w_RS w_RX w_S w_SRX w_X hS p1 (isF p1) rfl h0 O0) 0 (by decide) (by decide) (by decide) (by decide) (g := (mkF m 18 #[.val (.int p1), .val (.int p2), .val (.int (0 : Int32)), .unset, .unset] [(.int p1)])) rfl (by rw [hml]; rfl) [(.int p1)] [] rfl (lenOf pd_674845 rfl) rfl (by show 2 * 0 + _ ≤ _; exact Nat.le_of_eq rfl) (hb hby at_18)
    have N6 := Fr.app N0 Nq6
    refine Go.st (S' := T6.setTop (mkF m 21 #[.val (.int p1), .val (.int p2), .val (.int (0 : Int32)), .unset, .unset] [(.int (isF p1))])) st6 ?_
    refine Go.st (S' := T6.setTop (mkF m 22 #[.val (.int p1), .val (.int p2), .val (.int (0 : Int32)), .unset, .unset] [(.int (0 : Int32)), (.int (isF p1))])) (fun _ k => XS.iloadN X6.here hx rfl (hb hby at_21) rfl k) ?_
    refine Go.st (S' := T6.setTop (mkF m 27 #[.val (.int p1), .val (.int p2), .val (.int (0 : Int32)), .unset, .unset] [])) (fun _ k => XS.icmpYes X6.here hx rfl (pc0 := 22) (pc' := 27) rfl (hb hby at_22) rfl (teq (by simp [isF, hc2])).1 (by decide) (by decide) k) ?_
    refine Go.st (S' := T6.setTop (mkF m 29 #[.val (.int p1), .val (.int p2), .val (.int (0 : Int32)), .unset, .unset] [(.int (6 : Int32))])) (fun _ k => XS.bipush X6.here hx rfl (hb hby at_27) k) ?_
    obtain ⟨T7, h7, k7, X7, e7, E7, A7, Ov7, st7⟩ := newR X6 hx hZ hown (ww hw 8 rfl) (ww hw 9 rfl) eq6 (g := (mkF m 29 #[.val (.int p1), .val (.int p2), .val (.int (0 : Int32)), .unset, .unset] [(.int (6 : Int32))])) rfl (hb hby at_29) rfl (by decide) (cap := 6) (by decide) (by decide) (by decide) (by decide)
    obtain ⟨b7, g7⟩ : ∃ z, z = h0.size := ⟨_, rfl⟩
    rw [← g7] at A7 st7
    have gz7 : Z.heap.size ≤ b7 := Nat.le_trans O0.1 (Nat.le_of_eq g7.symm)
    have O7 : Ext Z.heap h7 := own_Ext.trans O0 E7
    have V7 : Arv Z h7 b7 k7 (.object "com/example/grendel/grendel/LockMode") (6 : Int32) [.null, .null, .null, .null, .null, .null] .null := (Arv.new A7 (by decide)).pad (pad_rep [] .null 6)
    refine Go.st (S' := T7.setTop (mkF m 32 #[.val (.int p1), .val (.int p2), .val (.int (0 : Int32)), .unset, .unset] [(.ref b7)])) st7 ?_
    refine Go.st (S' := T7.setTop (mkF m 33 #[.val (.int p1), .val (.int p2), .val (.int (0 : Int32)), .unset, .unset] [(.ref b7), (.ref b7)])) (fun _ k => XS.dup X7.here hx rfl (hb hby at_32) rfl rfl k) ?_
    refine Go.st (S' := T7.setTop (mkF m 34 #[.val (.int p1), .val (.int p2), .val (.int (0 : Int32)), .unset, .unset] [(.int (0 : Int32)), (.ref b7), (.ref b7)])) (fun _ k => XS.iconst X7.here hx rfl (hb hby at_33) k) ?_
    obtain ⟨T8, X8, e8, st8⟩ := getS2 X7 hx hZ hown (host := "") (Or.inl (ww hw 10 rfl)) Via.refl e7 (S_NL.ext O7) (g := (mkF m 34 #[.val (.int p1), .val (.int p2), .val (.int (0 : Int32)), .unset, .unset] [(.int (0 : Int32)), (.ref b7), (.ref b7)])) rfl (hb hby at_34)
    refine Go.st (S' := T8.setTop (mkF m 37 #[.val (.int p1), .val (.int p2), .val (.int (0 : Int32)), .unset, .unset] [(.ref w_NL), (.int (0 : Int32)), (.ref b7), (.ref b7)])) st8 ?_
    obtain ⟨T9, h9, X9, e9, W9, V9, st9⟩ := own_stR X8 hx hZ e8 V7 Ov7 (Ins.self (E_NL.ext O7)) (j := (0 : Int32)) ⟨by decide, by decide⟩ 0 rfl (Nat.le_of_ble_eq_true rfl) (g := (mkF m 37 #[.val (.int p1), .val (.int p2), .val (.int (0 : Int32)), .unset, .unset] [(.ref w_NL), (.int (0 : Int32)), (.ref b7), (.ref b7)])) rfl rfl (hb hby at_37)
    have N9 := Fr.snoc X9 N6 gz7
    have V9 : Arv Z h9 b7 k7 (.object "com/example/grendel/grendel/LockMode") (6 : Int32) [(.ref w_NL), .null, .null, .null, .null, .null] .null := V9
    have O9 : Ext Z.heap h9 := own_Ext.wr O7 W9 gz7
    refine Go.st (S' := T9.setTop (mkF m 38 #[.val (.int p1), .val (.int p2), .val (.int (0 : Int32)), .unset, .unset] [(.ref b7)])) st9 ?_
    refine Go.st (S' := T9.setTop (mkF m 39 #[.val (.int p1), .val (.int p2), .val (.int (0 : Int32)), .unset, .unset] [(.ref b7), (.ref b7)])) (fun _ k => XS.dup X9.here hx rfl (hb hby at_38) rfl rfl k) ?_
    refine Go.st (S' := T9.setTop (mkF m 40 #[.val (.int p1), .val (.int p2), .val (.int (0 : Int32)), .unset, .unset] [(.int (1 : Int32)), (.ref b7), (.ref b7)])) (fun _ k => XS.iconst X9.here hx rfl (hb hby at_39) k) ?_
    obtain ⟨T10, X10, e10, st10⟩ := getS2 X9 hx hZ hown (host := "") (Or.inl (ww hw 12 rfl)) Via.refl e9 (S_RS.ext O9) (g := (mkF m 40 #[.val (.int p1), .val (.int p2), .val (.int (0 : Int32)), .unset, .unset] [(.int (1 : Int32)), (.ref b7), (.ref b7)])) rfl (hb hby at_40)
    refine Go.st (S' := T10.setTop (mkF m 43 #[.val (.int p1), .val (.int p2), .val (.int (0 : Int32)), .unset, .unset] [(.ref w_RS), (.int (1 : Int32)), (.ref b7), (.ref b7)])) st10 ?_
    obtain ⟨T11, h11, X11, e11, W11, V11, st11⟩ := own_stR X10 hx hZ e10 V9 Ov7 (Ins.self (E_RS.ext O9)) (j := (1 : Int32)) ⟨by decide, by decide⟩ 1 rfl (Nat.le_of_ble_eq_true rfl) (g := (mkF m 43 #[.val (.int p1), .val (.int p2), .val (.int (0 : Int32)), .unset, .unset] [(.ref w_RS), (.int (1 : Int32)), (.ref b7), (.ref b7)])) rfl rfl (hb hby at_43)
    have N11 := Fr.snoc X11 N9 gz7
    have V11 : Arv Z h11 b7 k7 (.object "com/example/grendel/grendel/LockMode") (6 : Int32) [(.ref w_NL), (.ref w_RS), .null, .null, .null, .null] .null := V11
    have O11 : Ext Z.heap h11 := own_Ext.wr O9 W11 gz7
    refine Go.st (S' := T11.setTop (mkF m 44 #[.val (.int p1), .val (.int p2), .val (.int (0 : Int32)), .unset, .unset] [(.ref b7)])) st11 ?_
    refine Go.st (S' := T11.setTop (mkF m 45 #[.val (.int p1), .val (.int p2), .val (.int (0 : Int32)), .unset, .unset] [(.ref b7), (.ref b7)])) (fun _ k => XS.dup X11.here hx rfl (hb hby at_44) rfl rfl k) ?_
    refine Go.st (S' := T11.setTop (mkF m 46 #[.val (.int p1), .val (.int p2), .val (.int (0 : Int32)), .unset, .unset] [(.int (2 : Int32)), (.ref b7), (.ref b7)])) (fun _ k => XS.iconst X11.here hx rfl (hb hby at_45) k) ?_
    obtain ⟨T12, X12, e12, st12⟩ := getS2 X11 hx hZ hown (host := "") (Or.inl (ww hw 14 rfl)) Via.refl e11 (S_RX.ext O11) (g := (mkF m 46 #[.val (.int p1), .val (.int p2), .val (.int (0 : Int32)), .unset, .unset] [(.int (2 : Int32)), (.ref b7), (.ref b7)])) rfl (hb hby at_46)
    refine Go.st (S' := T12.setTop (mkF m 49 #[.val (.int p1), .val (.int p2), .val (.int (0 : Int32)), .unset, .unset] [(.ref w_RX), (.int (2 : Int32)), (.ref b7), (.ref b7)])) st12 ?_
    obtain ⟨T13, h13, X13, e13, W13, V13, st13⟩ := own_stR X12 hx hZ e12 V11 Ov7 (Ins.self (E_RX.ext O11)) (j := (2 : Int32)) ⟨by decide, by decide⟩ 2 rfl (Nat.le_of_ble_eq_true rfl) (g := (mkF m 49 #[.val (.int p1), .val (.int p2), .val (.int (0 : Int32)), .unset, .unset] [(.ref w_RX), (.int (2 : Int32)), (.ref b7), (.ref b7)])) rfl rfl (hb hby at_49)
    have N13 := Fr.snoc X13 N11 gz7
    have V13 : Arv Z h13 b7 k7 (.object "com/example/grendel/grendel/LockMode") (6 : Int32) [(.ref w_NL), (.ref w_RS), (.ref w_RX), .null, .null, .null] .null := V13
    have O13 : Ext Z.heap h13 := own_Ext.wr O11 W13 gz7
    refine Go.st (S' := T13.setTop (mkF m 50 #[.val (.int p1), .val (.int p2), .val (.int (0 : Int32)), .unset, .unset] [(.ref b7)])) st13 ?_
    refine Go.st (S' := T13.setTop (mkF m 51 #[.val (.int p1), .val (.int p2), .val (.int (0 : Int32)), .unset, .unset] [(.ref b7), (.ref b7)])) (fun _ k => XS.dup X13.here hx rfl (hb hby at_50) rfl rfl k) ?_
    refine Go.st (S' := T13.setTop (mkF m 52 #[.val (.int p1), .val (.int p2), .val (.int (0 : Int32)), .unset, .unset] [(.int (3 : Int32)), (.ref b7), (.ref b7)])) (fun _ k => XS.iconst X13.here hx rfl (hb hby at_51) k) ?_
    obtain ⟨T14, X14, e14, st14⟩ := getS2 X13 hx hZ hown (host := "") (Or.inl (ww hw 16 rfl)) Via.refl e13 (S_S.ext O13) (g := (mkF m 52 #[.val (.int p1), .val (.int p2), .val (.int (0 : Int32)), .unset, .unset] [(.int (3 : Int32)), (.ref b7), (.ref b7)])) rfl (hb hby at_52)
    refine Go.st (S' := T14.setTop (mkF m 55 #[.val (.int p1), .val (.int p2), .val (.int (0 : Int32)), .unset, .unset] [(.ref w_S), (.int (3 : Int32)), (.ref b7), (.ref b7)])) st14 ?_
    obtain ⟨T15, h15, X15, e15, W15, V15, st15⟩ := own_stR X14 hx hZ e14 V13 Ov7 (Ins.self (E_S.ext O13)) (j := (3 : Int32)) ⟨by decide, by decide⟩ 3 rfl (Nat.le_of_ble_eq_true rfl) (g := (mkF m 55 #[.val (.int p1), .val (.int p2), .val (.int (0 : Int32)), .unset, .unset] [(.ref w_S), (.int (3 : Int32)), (.ref b7), (.ref b7)])) rfl rfl (hb hby at_55)
    have N15 := Fr.snoc X15 N13 gz7
    have V15 : Arv Z h15 b7 k7 (.object "com/example/grendel/grendel/LockMode") (6 : Int32) [(.ref w_NL), (.ref w_RS), (.ref w_RX), (.ref w_S), .null, .null] .null := V15
    have O15 : Ext Z.heap h15 := own_Ext.wr O13 W15 gz7
    refine Go.st (S' := T15.setTop (mkF m 56 #[.val (.int p1), .val (.int p2), .val (.int (0 : Int32)), .unset, .unset] [(.ref b7)])) st15 ?_
    refine Go.st (S' := T15.setTop (mkF m 57 #[.val (.int p1), .val (.int p2), .val (.int (0 : Int32)), .unset, .unset] [(.ref b7), (.ref b7)])) (fun _ k => XS.dup X15.here hx rfl (hb hby at_56) rfl rfl k) ?_
    refine Go.st (S' := T15.setTop (mkF m 58 #[.val (.int p1), .val (.int p2), .val (.int (0 : Int32)), .unset, .unset] [(.int (4 : Int32)), (.ref b7), (.ref b7)])) (fun _ k => XS.iconst X15.here hx rfl (hb hby at_57) k) ?_
    obtain ⟨T16, X16, e16, st16⟩ := getS2 X15 hx hZ hown (host := "") (Or.inl (ww hw 18 rfl)) Via.refl e15 (S_SRX.ext O15) (g := (mkF m 58 #[.val (.int p1), .val (.int p2), .val (.int (0 : Int32)), .unset, .unset] [(.int (4 : Int32)), (.ref b7), (.ref b7)])) rfl (hb hby at_58)
    refine Go.st (S' := T16.setTop (mkF m 61 #[.val (.int p1), .val (.int p2), .val (.int (0 : Int32)), .unset, .unset] [(.ref w_SRX), (.int (4 : Int32)), (.ref b7), (.ref b7)])) st16 ?_
    obtain ⟨T17, h17, X17, e17, W17, V17, st17⟩ := own_stR X16 hx hZ e16 V15 Ov7 (Ins.self (E_SRX.ext O15)) (j := (4 : Int32)) ⟨by decide, by decide⟩ 4 rfl (Nat.le_of_ble_eq_true rfl) (g := (mkF m 61 #[.val (.int p1), .val (.int p2), .val (.int (0 : Int32)), .unset, .unset] [(.ref w_SRX), (.int (4 : Int32)), (.ref b7), (.ref b7)])) rfl rfl (hb hby at_61)
    have N17 := Fr.snoc X17 N15 gz7
    have V17 : Arv Z h17 b7 k7 (.object "com/example/grendel/grendel/LockMode") (6 : Int32) [(.ref w_NL), (.ref w_RS), (.ref w_RX), (.ref w_S), (.ref w_SRX), .null] .null := V17
    have O17 : Ext Z.heap h17 := own_Ext.wr O15 W17 gz7
    refine Go.st (S' := T17.setTop (mkF m 62 #[.val (.int p1), .val (.int p2), .val (.int (0 : Int32)), .unset, .unset] [(.ref b7)])) st17 ?_
    refine Go.st (S' := T17.setTop (mkF m 63 #[.val (.int p1), .val (.int p2), .val (.int (0 : Int32)), .unset, .unset] [(.ref b7), (.ref b7)])) (fun _ k => XS.dup X17.here hx rfl (hb hby at_62) rfl rfl k) ?_
    refine Go.st (S' := T17.setTop (mkF m 64 #[.val (.int p1), .val (.int p2), .val (.int (0 : Int32)), .unset, .unset] [(.int (5 : Int32)), (.ref b7), (.ref b7)])) (fun _ k => XS.iconst X17.here hx rfl (hb hby at_63) k) ?_
    obtain ⟨T18, X18, e18, st18⟩ := getS2 X17 hx hZ hown (host := "") (Or.inl (ww hw 20 rfl)) Via.refl e17 (S_X.ext O17) (g := (mkF m 64 #[.val (.int p1), .val (.int p2), .val (.int (0 : Int32)), .unset, .unset] [(.int (5 : Int32)), (.ref b7), (.ref b7)])) rfl (hb hby at_64)
    refine Go.st (S' := T18.setTop (mkF m 67 #[.val (.int p1), .val (.int p2), .val (.int (0 : Int32)), .unset, .unset] [(.ref w_X), (.int (5 : Int32)), (.ref b7), (.ref b7)])) st18 ?_
    obtain ⟨T19, h19, X19, e19, W19, V19, st19⟩ := own_stR X18 hx hZ e18 V17 Ov7 (Ins.self (E_X.ext O17)) (j := (5 : Int32)) ⟨by decide, by decide⟩ 5 rfl (Nat.le_of_ble_eq_true rfl) (g := (mkF m 67 #[.val (.int p1), .val (.int p2), .val (.int (0 : Int32)), .unset, .unset] [(.ref w_X), (.int (5 : Int32)), (.ref b7), (.ref b7)])) rfl rfl (hb hby at_67)
    have N19 := Fr.snoc X19 N17 gz7
    have V19 : Arv Z h19 b7 k7 (.object "com/example/grendel/grendel/LockMode") (6 : Int32) [(.ref w_NL), (.ref w_RS), (.ref w_RX), (.ref w_S), (.ref w_SRX), (.ref w_X)] .null := V19
    have O19 : Ext Z.heap h19 := own_Ext.wr O17 W19 gz7
    refine Go.st (S' := T19.setTop (mkF m 68 #[.val (.int p1), .val (.int p2), .val (.int (0 : Int32)), .unset, .unset] [(.ref b7)])) st19 ?_
    refine Go.st (S' := T19.setTop (mkF m 69 #[.val (.int p1), .val (.int p2), .val (.int (0 : Int32)), .val (.ref b7), .unset] [])) (fun _ k => XS.astoreN X19.here hx rfl (hb hby at_68) rfl rfl (l' := #[.val (.int p1), .val (.int p2), .val (.int (0 : Int32)), .val (.ref b7), .unset]) rfl k) ?_
    refine Go.st (S' := T19.setTop (mkF m 70 #[.val (.int p1), .val (.int p2), .val (.int (0 : Int32)), .val (.ref b7), .unset] [(.int p2)])) (fun _ k => XS.iloadN X19.here hx rfl (hb hby at_69) rfl k) ?_
    refine Go.st (S' := T19.setTop (mkF m 72 #[.val (.int p1), .val (.int p2), .val (.int (0 : Int32)), .val (.ref b7), .unset] [(.int (2147483647 : Int32)), (.int p2)])) (X19.ldcInt hx hown (mvT hZ (ww hw 22 rfl)) (g := (mkF m 70 #[.val (.int p1), .val (.int p2), .val (.int (0 : Int32)), .val (.ref b7), .unset] [(.int p2)])) rfl (hb hby at_70)) ?_
    refine Go.st (S' := T19.setTop (mkF m 73 #[.val (.int p1), .val (.int p2), .val (.int (0 : Int32)), .val (.ref b7), .unset] [(.int (p2 &&& (2147483647 : Int32)))])) (fun _ k => XS.iand X19.here hx rfl (hb hby at_72) rfl k) ?_
    refine Go.st (S' := T19.setTop (mkF m 75 #[.val (.int p1), .val (.int p2), .val (.int (0 : Int32)), .val (.ref b7), .unset] [(.int (6 : Int32)), (.int (p2 &&& (2147483647 : Int32)))])) (fun _ k => XS.bipush X19.here hx rfl (hb hby at_73) k) ?_
    refine Go.st (S' := T19.setTop (mkF m 76 #[.val (.int p1), .val (.int p2), .val (.int (0 : Int32)), .val (.ref b7), .unset] [(.int ((p2 &&& (2147483647 : Int32)) % (6 : Int32)))])) (fun _ k => iremM X19 hx rfl (hb hby at_75) rfl (by decide) k) ?_
    rcases own_rem6 p2 with hk | hk | hk | hk | hk | hk
    · refine Go.st (S' := T19.setTop (mkF m 76 #[.val (.int p1), .val (.int p2), .val (.int (0 : Int32)), .val (.ref b7), .unset] [(.int (0 : Int32))])) (fun _ k => by rw [hk]; exact k) ?_
      refine Go.st (S' := T19.setTop (mkF m 78 #[.val (.int p1), .val (.int p2), .val (.int (0 : Int32)), .val (.ref b7), .val (.int (0 : Int32))] [])) (fun _ k => XS.istore X19.here hx rfl (hb hby at_76) rfl (l' := #[.val (.int p1), .val (.int p2), .val (.int (0 : Int32)), .val (.ref b7), .val (.int (0 : Int32))]) rfl k) ?_
      refine Go.st (S' := T19.setTop (mkF m 79 #[.val (.int p1), .val (.int p2), .val (.int (0 : Int32)), .val (.ref b7), .val (.int (0 : Int32))] [(.ref b7)])) (fun _ k => XS.aloadN X19.here hx rfl (hb hby at_78) rfl rfl k) ?_
      refine Go.st (S' := T19.setTop (mkF m 81 #[.val (.int p1), .val (.int p2), .val (.int (0 : Int32)), .val (.ref b7), .val (.int (0 : Int32))] [(.int (0 : Int32)), (.ref b7)])) (fun _ k => XS.iload X19.here hx rfl (hb hby at_79) rfl k) ?_
      refine Go.st (S' := T19.setTop (mkF m 82 #[.val (.int p1), .val (.int p2), .val (.int (0 : Int32)), .val (.ref b7), .val (.int (0 : Int32))] [(.ref w_NL)])) (own_ldR X19 hx hZ e19 V19 rfl ⟨by decide, by decide⟩ rfl (g := (mkF m 81 #[.val (.int p1), .val (.int p2), .val (.int (0 : Int32)), .val (.ref b7), .val (.int (0 : Int32))] [(.int (0 : Int32)), (.ref b7)])) rfl rfl (hb hby at_81)) ?_
      obtain ⟨_, T21, L21, X21, ⟨rfl, Nq21, eq21⟩, st21⟩ := own_callV X19 hx hZ hown (ww hw 23 rfl) (ww hw 24 rfl) (notFace_of_selects (args := #[]) (mvT hZ (ww hw 26 rfl))) (ww hw 26 rfl) (ww hw 25 rfl) (ww hw 2 rfl) (ww hw 27 rfl) (by decide) e19 (E_NL.ext O19) (rm2 l Z a0 hw [] w_NL w_RS w_RX w_S w_SRX w_X hS w_NL (1 : Int32) h19 O19 (F_NL_code.ext O19)) 0 (by decide) (by decide) (by decide) (by decide) (g := (mkF m 82 #[.val (.int p1), .val (.int p2), .val (.int (0 : Int32)), .val (.ref b7), .val (.int (0 : Int32))] [(.ref w_NL)])) rfl (by rw [hml]; rfl) [] [] rfl (lenOf pd_428473 rfl) rfl (by show 2 * 0 + _ ≤ _; exact Nat.le_of_eq rfl) (hb hby at_82)
      have N21 := Fr.app N19 Nq21
      refine Go.st (S' := T21.setTop (mkF m 85 #[.val (.int p1), .val (.int p2), .val (.int (0 : Int32)), .val (.ref b7), .val (.int (0 : Int32))] [(.int (1 : Int32))])) st21 ?_
      obtain ⟨_, T22, L22, X22, ⟨rfl, Nq22, eq22⟩, st22⟩ := own_callS X21 hx hZ hown (ww hw 0 rfl) (ww hw 1 rfl) (ww hw 2 rfl) (ww hw 3 rfl) (by decide) eq21 (rm1 l Z a0 hw [] w_NL w_RS w_RX w_S w_SRX w_X hS (1 : Int32) (1 : Int32) (by decide) h19 O19) 0 (by decide) (by decide) (by decide) (by decide) (g := (mkF m 85 #[.val (.int p1), .val (.int p2), .val (.int (0 : Int32)), .val (.ref b7), .val (.int (0 : Int32))] [(.int (1 : Int32))])) rfl (by rw [hml]; rfl) [(.int (1 : Int32))] [] rfl (lenOf pd_674845 rfl) rfl (by show 2 * 0 + _ ≤ _; exact Nat.le_of_eq rfl) (hb hby at_85)
      have N22 := Fr.app N21 Nq22
      refine Go.st (S' := T22.setTop (mkF m 88 #[.val (.int p1), .val (.int p2), .val (.int (0 : Int32)), .val (.ref b7), .val (.int (0 : Int32))] [(.int (1 : Int32))])) st22 ?_
      exact own_retN X22 hx hlk hret (by simp) (hb hby at_88) eq22 ⟨rfl, N22⟩ (by decide) (by decide)
    · refine Go.st (S' := T19.setTop (mkF m 76 #[.val (.int p1), .val (.int p2), .val (.int (0 : Int32)), .val (.ref b7), .unset] [(.int (1 : Int32))])) (fun _ k => by rw [hk]; exact k) ?_
      refine Go.st (S' := T19.setTop (mkF m 78 #[.val (.int p1), .val (.int p2), .val (.int (0 : Int32)), .val (.ref b7), .val (.int (1 : Int32))] [])) (fun _ k => XS.istore X19.here hx rfl (hb hby at_76) rfl (l' := #[.val (.int p1), .val (.int p2), .val (.int (0 : Int32)), .val (.ref b7), .val (.int (1 : Int32))]) rfl k) ?_
      refine Go.st (S' := T19.setTop (mkF m 79 #[.val (.int p1), .val (.int p2), .val (.int (0 : Int32)), .val (.ref b7), .val (.int (1 : Int32))] [(.ref b7)])) (fun _ k => XS.aloadN X19.here hx rfl (hb hby at_78) rfl rfl k) ?_
      refine Go.st (S' := T19.setTop (mkF m 81 #[.val (.int p1), .val (.int p2), .val (.int (0 : Int32)), .val (.ref b7), .val (.int (1 : Int32))] [(.int (1 : Int32)), (.ref b7)])) (fun _ k => XS.iload X19.here hx rfl (hb hby at_79) rfl k) ?_
      refine Go.st (S' := T19.setTop (mkF m 82 #[.val (.int p1), .val (.int p2), .val (.int (0 : Int32)), .val (.ref b7), .val (.int (1 : Int32))] [(.ref w_RS)])) (own_ldR X19 hx hZ e19 V19 rfl ⟨by decide, by decide⟩ rfl (g := (mkF m 81 #[.val (.int p1), .val (.int p2), .val (.int (0 : Int32)), .val (.ref b7), .val (.int (1 : Int32))] [(.int (1 : Int32)), (.ref b7)])) rfl rfl (hb hby at_81)) ?_
      obtain ⟨_, T24, L24, X24, ⟨rfl, Nq24, eq24⟩, st24⟩ := own_callV X19 hx hZ hown (ww hw 23 rfl) (ww hw 24 rfl) (notFace_of_selects (args := #[]) (mvT hZ (ww hw 26 rfl))) (ww hw 26 rfl) (ww hw 25 rfl) (ww hw 2 rfl) (ww hw 27 rfl) (by decide) e19 (E_RS.ext O19) (rm2 l Z a0 hw [] w_NL w_RS w_RX w_S w_SRX w_X hS w_RS (2 : Int32) h19 O19 (F_RS_code.ext O19)) 0 (by decide) (by decide) (by decide) (by decide) (g := (mkF m 82 #[.val (.int p1), .val (.int p2), .val (.int (0 : Int32)), .val (.ref b7), .val (.int (1 : Int32))] [(.ref w_RS)])) rfl (by rw [hml]; rfl) [] [] rfl (lenOf pd_428473 rfl) rfl (by show 2 * 0 + _ ≤ _; exact Nat.le_of_eq rfl) (hb hby at_82)
      have N24 := Fr.app N19 Nq24
      refine Go.st (S' := T24.setTop (mkF m 85 #[.val (.int p1), .val (.int p2), .val (.int (0 : Int32)), .val (.ref b7), .val (.int (1 : Int32))] [(.int (2 : Int32))])) st24 ?_
      obtain ⟨_, T25, L25, X25, ⟨rfl, Nq25, eq25⟩, st25⟩ := own_callS X24 hx hZ hown (ww hw 0 rfl) (ww hw 1 rfl) (ww hw 2 rfl) (ww hw 3 rfl) (by decide) eq24 (rm1 l Z a0 hw [] w_NL w_RS w_RX w_S w_SRX w_X hS (2 : Int32) (1 : Int32) (by decide) h19 O19) 0 (by decide) (by decide) (by decide) (by decide) (g := (mkF m 85 #[.val (.int p1), .val (.int p2), .val (.int (0 : Int32)), .val (.ref b7), .val (.int (1 : Int32))] [(.int (2 : Int32))])) rfl (by rw [hml]; rfl) [(.int (2 : Int32))] [] rfl (lenOf pd_674845 rfl) rfl (by show 2 * 0 + _ ≤ _; exact Nat.le_of_eq rfl) (hb hby at_85)
      have N25 := Fr.app N24 Nq25
      refine Go.st (S' := T25.setTop (mkF m 88 #[.val (.int p1), .val (.int p2), .val (.int (0 : Int32)), .val (.ref b7), .val (.int (1 : Int32))] [(.int (1 : Int32))])) st25 ?_
      exact own_retN X25 hx hlk hret (by simp) (hb hby at_88) eq25 ⟨rfl, N25⟩ (by decide) (by decide)
    · refine Go.st (S' := T19.setTop (mkF m 76 #[.val (.int p1), .val (.int p2), .val (.int (0 : Int32)), .val (.ref b7), .unset] [(.int (2 : Int32))])) (fun _ k => by rw [hk]; exact k) ?_
      refine Go.st (S' := T19.setTop (mkF m 78 #[.val (.int p1), .val (.int p2), .val (.int (0 : Int32)), .val (.ref b7), .val (.int (2 : Int32))] [])) (fun _ k => XS.istore X19.here hx rfl (hb hby at_76) rfl (l' := #[.val (.int p1), .val (.int p2), .val (.int (0 : Int32)), .val (.ref b7), .val (.int (2 : Int32))]) rfl k) ?_
      refine Go.st (S' := T19.setTop (mkF m 79 #[.val (.int p1), .val (.int p2), .val (.int (0 : Int32)), .val (.ref b7), .val (.int (2 : Int32))] [(.ref b7)])) (fun _ k => XS.aloadN X19.here hx rfl (hb hby at_78) rfl rfl k) ?_
      refine Go.st (S' := T19.setTop (mkF m 81 #[.val (.int p1), .val (.int p2), .val (.int (0 : Int32)), .val (.ref b7), .val (.int (2 : Int32))] [(.int (2 : Int32)), (.ref b7)])) (fun _ k => XS.iload X19.here hx rfl (hb hby at_79) rfl k) ?_
      refine Go.st (S' := T19.setTop (mkF m 82 #[.val (.int p1), .val (.int p2), .val (.int (0 : Int32)), .val (.ref b7), .val (.int (2 : Int32))] [(.ref w_RX)])) (own_ldR X19 hx hZ e19 V19 rfl ⟨by decide, by decide⟩ rfl (g := (mkF m 81 #[.val (.int p1), .val (.int p2), .val (.int (0 : Int32)), .val (.ref b7), .val (.int (2 : Int32))] [(.int (2 : Int32)), (.ref b7)])) rfl rfl (hb hby at_81)) ?_
      obtain ⟨_, T27, L27, X27, ⟨rfl, Nq27, eq27⟩, st27⟩ := own_callV X19 hx hZ hown (ww hw 23 rfl) (ww hw 24 rfl) (notFace_of_selects (args := #[]) (mvT hZ (ww hw 26 rfl))) (ww hw 26 rfl) (ww hw 25 rfl) (ww hw 2 rfl) (ww hw 27 rfl) (by decide) e19 (E_RX.ext O19) (rm2 l Z a0 hw [] w_NL w_RS w_RX w_S w_SRX w_X hS w_RX (3 : Int32) h19 O19 (F_RX_code.ext O19)) 0 (by decide) (by decide) (by decide) (by decide) (g := (mkF m 82 #[.val (.int p1), .val (.int p2), .val (.int (0 : Int32)), .val (.ref b7), .val (.int (2 : Int32))] [(.ref w_RX)])) rfl (by rw [hml]; rfl) [] [] rfl (lenOf pd_428473 rfl) rfl (by show 2 * 0 + _ ≤ _; exact Nat.le_of_eq rfl) (hb hby at_82)
      have N27 := Fr.app N19 Nq27
      refine Go.st (S' := T27.setTop (mkF m 85 #[.val (.int p1), .val (.int p2), .val (.int (0 : Int32)), .val (.ref b7), .val (.int (2 : Int32))] [(.int (3 : Int32))])) st27 ?_
      obtain ⟨_, T28, L28, X28, ⟨rfl, Nq28, eq28⟩, st28⟩ := own_callS X27 hx hZ hown (ww hw 0 rfl) (ww hw 1 rfl) (ww hw 2 rfl) (ww hw 3 rfl) (by decide) eq27 (rm1 l Z a0 hw [] w_NL w_RS w_RX w_S w_SRX w_X hS (3 : Int32) (1 : Int32) (by decide) h19 O19) 0 (by decide) (by decide) (by decide) (by decide) (g := (mkF m 85 #[.val (.int p1), .val (.int p2), .val (.int (0 : Int32)), .val (.ref b7), .val (.int (2 : Int32))] [(.int (3 : Int32))])) rfl (by rw [hml]; rfl) [(.int (3 : Int32))] [] rfl (lenOf pd_674845 rfl) rfl (by show 2 * 0 + _ ≤ _; exact Nat.le_of_eq rfl) (hb hby at_85)
      have N28 := Fr.app N27 Nq28
      refine Go.st (S' := T28.setTop (mkF m 88 #[.val (.int p1), .val (.int p2), .val (.int (0 : Int32)), .val (.ref b7), .val (.int (2 : Int32))] [(.int (1 : Int32))])) st28 ?_
      exact own_retN X28 hx hlk hret (by simp) (hb hby at_88) eq28 ⟨rfl, N28⟩ (by decide) (by decide)
    · refine Go.st (S' := T19.setTop (mkF m 76 #[.val (.int p1), .val (.int p2), .val (.int (0 : Int32)), .val (.ref b7), .unset] [(.int (3 : Int32))])) (fun _ k => by rw [hk]; exact k) ?_
      refine Go.st (S' := T19.setTop (mkF m 78 #[.val (.int p1), .val (.int p2), .val (.int (0 : Int32)), .val (.ref b7), .val (.int (3 : Int32))] [])) (fun _ k => XS.istore X19.here hx rfl (hb hby at_76) rfl (l' := #[.val (.int p1), .val (.int p2), .val (.int (0 : Int32)), .val (.ref b7), .val (.int (3 : Int32))]) rfl k) ?_
      refine Go.st (S' := T19.setTop (mkF m 79 #[.val (.int p1), .val (.int p2), .val (.int (0 : Int32)), .val (.ref b7), .val (.int (3 : Int32))] [(.ref b7)])) (fun _ k => XS.aloadN X19.here hx rfl (hb hby at_78) rfl rfl k) ?_
      refine Go.st (S' := T19.setTop (mkF m 81 #[.val (.int p1), .val (.int p2), .val (.int (0 : Int32)), .val (.ref b7), .val (.int (3 : Int32))] [(.int (3 : Int32)), (.ref b7)])) (fun _ k => XS.iload X19.here hx rfl (hb hby at_79) rfl k) ?_
      refine Go.st (S' := T19.setTop (mkF m 82 #[.val (.int p1), .val (.int p2), .val (.int (0 : Int32)), .val (.ref b7), .val (.int (3 : Int32))] [(.ref w_S)])) (own_ldR X19 hx hZ e19 V19 rfl ⟨by decide, by decide⟩ rfl (g := (mkF m 81 #[.val (.int p1), .val (.int p2), .val (.int (0 : Int32)), .val (.ref b7), .val (.int (3 : Int32))] [(.int (3 : Int32)), (.ref b7)])) rfl rfl (hb hby at_81)) ?_
      obtain ⟨_, T30, L30, X30, ⟨rfl, Nq30, eq30⟩, st30⟩ := own_callV X19 hx hZ hown (ww hw 23 rfl) (ww hw 24 rfl) (notFace_of_selects (args := #[]) (mvT hZ (ww hw 26 rfl))) (ww hw 26 rfl) (ww hw 25 rfl) (ww hw 2 rfl) (ww hw 27 rfl) (by decide) e19 (E_S.ext O19) (rm2 l Z a0 hw [] w_NL w_RS w_RX w_S w_SRX w_X hS w_S (4 : Int32) h19 O19 (F_S_code.ext O19)) 0 (by decide) (by decide) (by decide) (by decide) (g := (mkF m 82 #[.val (.int p1), .val (.int p2), .val (.int (0 : Int32)), .val (.ref b7), .val (.int (3 : Int32))] [(.ref w_S)])) rfl (by rw [hml]; rfl) [] [] rfl (lenOf pd_428473 rfl) rfl (by show 2 * 0 + _ ≤ _; exact Nat.le_of_eq rfl) (hb hby at_82)
      have N30 := Fr.app N19 Nq30
      refine Go.st (S' := T30.setTop (mkF m 85 #[.val (.int p1), .val (.int p2), .val (.int (0 : Int32)), .val (.ref b7), .val (.int (3 : Int32))] [(.int (4 : Int32))])) st30 ?_
      obtain ⟨_, T31, L31, X31, ⟨rfl, Nq31, eq31⟩, st31⟩ := own_callS X30 hx hZ hown (ww hw 0 rfl) (ww hw 1 rfl) (ww hw 2 rfl) (ww hw 3 rfl) (by decide) eq30 (rm1 l Z a0 hw [] w_NL w_RS w_RX w_S w_SRX w_X hS (4 : Int32) (1 : Int32) (by decide) h19 O19) 0 (by decide) (by decide) (by decide) (by decide) (g := (mkF m 85 #[.val (.int p1), .val (.int p2), .val (.int (0 : Int32)), .val (.ref b7), .val (.int (3 : Int32))] [(.int (4 : Int32))])) rfl (by rw [hml]; rfl) [(.int (4 : Int32))] [] rfl (lenOf pd_674845 rfl) rfl (by show 2 * 0 + _ ≤ _; exact Nat.le_of_eq rfl) (hb hby at_85)
      have N31 := Fr.app N30 Nq31
      refine Go.st (S' := T31.setTop (mkF m 88 #[.val (.int p1), .val (.int p2), .val (.int (0 : Int32)), .val (.ref b7), .val (.int (3 : Int32))] [(.int (1 : Int32))])) st31 ?_
      exact own_retN X31 hx hlk hret (by simp) (hb hby at_88) eq31 ⟨rfl, N31⟩ (by decide) (by decide)
    · refine Go.st (S' := T19.setTop (mkF m 76 #[.val (.int p1), .val (.int p2), .val (.int (0 : Int32)), .val (.ref b7), .unset] [(.int (4 : Int32))])) (fun _ k => by rw [hk]; exact k) ?_
      refine Go.st (S' := T19.setTop (mkF m 78 #[.val (.int p1), .val (.int p2), .val (.int (0 : Int32)), .val (.ref b7), .val (.int (4 : Int32))] [])) (fun _ k => XS.istore X19.here hx rfl (hb hby at_76) rfl (l' := #[.val (.int p1), .val (.int p2), .val (.int (0 : Int32)), .val (.ref b7), .val (.int (4 : Int32))]) rfl k) ?_
      refine Go.st (S' := T19.setTop (mkF m 79 #[.val (.int p1), .val (.int p2), .val (.int (0 : Int32)), .val (.ref b7), .val (.int (4 : Int32))] [(.ref b7)])) (fun _ k => XS.aloadN X19.here hx rfl (hb hby at_78) rfl rfl k) ?_
      refine Go.st (S' := T19.setTop (mkF m 81 #[.val (.int p1), .val (.int p2), .val (.int (0 : Int32)), .val (.ref b7), .val (.int (4 : Int32))] [(.int (4 : Int32)), (.ref b7)])) (fun _ k => XS.iload X19.here hx rfl (hb hby at_79) rfl k) ?_
      refine Go.st (S' := T19.setTop (mkF m 82 #[.val (.int p1), .val (.int p2), .val (.int (0 : Int32)), .val (.ref b7), .val (.int (4 : Int32))] [(.ref w_SRX)])) (own_ldR X19 hx hZ e19 V19 rfl ⟨by decide, by decide⟩ rfl (g := (mkF m 81 #[.val (.int p1), .val (.int p2), .val (.int (0 : Int32)), .val (.ref b7), .val (.int (4 : Int32))] [(.int (4 : Int32)), (.ref b7)])) rfl rfl (hb hby at_81)) ?_
      obtain ⟨_, T33, L33, X33, ⟨rfl, Nq33, eq33⟩, st33⟩ := own_callV X19 hx hZ hown (ww hw 23 rfl) (ww hw 24 rfl) (notFace_of_selects (args := #[]) (mvT hZ (ww hw 26 rfl))) (ww hw 26 rfl) (ww hw 25 rfl) (ww hw 2 rfl) (ww hw 27 rfl) (by decide) e19 (E_SRX.ext O19) (rm2 l Z a0 hw [] w_NL w_RS w_RX w_S w_SRX w_X hS w_SRX (5 : Int32) h19 O19 (F_SRX_code.ext O19)) 0 (by decide) (by decide) (by decide) (by decide) (g := (mkF m 82 #[.val (.int p1), .val (.int p2), .val (.int (0 : Int32)), .val (.ref b7), .val (.int (4 : Int32))] [(.ref w_SRX)])) rfl (by rw [hml]; rfl) [] [] rfl (lenOf pd_428473 rfl) rfl (by show 2 * 0 + _ ≤ _; exact Nat.le_of_eq rfl) (hb hby at_82)
      have N33 := Fr.app N19 Nq33
      refine Go.st (S' := T33.setTop (mkF m 85 #[.val (.int p1), .val (.int p2), .val (.int (0 : Int32)), .val (.ref b7), .val (.int (4 : Int32))] [(.int (5 : Int32))])) st33 ?_
      obtain ⟨_, T34, L34, X34, ⟨rfl, Nq34, eq34⟩, st34⟩ := own_callS X33 hx hZ hown (ww hw 0 rfl) (ww hw 1 rfl) (ww hw 2 rfl) (ww hw 3 rfl) (by decide) eq33 (rm1 l Z a0 hw [] w_NL w_RS w_RX w_S w_SRX w_X hS (5 : Int32) (1 : Int32) (by decide) h19 O19) 0 (by decide) (by decide) (by decide) (by decide) (g := (mkF m 85 #[.val (.int p1), .val (.int p2), .val (.int (0 : Int32)), .val (.ref b7), .val (.int (4 : Int32))] [(.int (5 : Int32))])) rfl (by rw [hml]; rfl) [(.int (5 : Int32))] [] rfl (lenOf pd_674845 rfl) rfl (by show 2 * 0 + _ ≤ _; exact Nat.le_of_eq rfl) (hb hby at_85)
      have N34 := Fr.app N33 Nq34
      refine Go.st (S' := T34.setTop (mkF m 88 #[.val (.int p1), .val (.int p2), .val (.int (0 : Int32)), .val (.ref b7), .val (.int (4 : Int32))] [(.int (1 : Int32))])) st34 ?_
      exact own_retN X34 hx hlk hret (by simp) (hb hby at_88) eq34 ⟨rfl, N34⟩ (by decide) (by decide)
    · refine Go.st (S' := T19.setTop (mkF m 76 #[.val (.int p1), .val (.int p2), .val (.int (0 : Int32)), .val (.ref b7), .unset] [(.int (5 : Int32))])) (fun _ k => by rw [hk]; exact k) ?_
      refine Go.st (S' := T19.setTop (mkF m 78 #[.val (.int p1), .val (.int p2), .val (.int (0 : Int32)), .val (.ref b7), .val (.int (5 : Int32))] [])) (fun _ k => XS.istore X19.here hx rfl (hb hby at_76) rfl (l' := #[.val (.int p1), .val (.int p2), .val (.int (0 : Int32)), .val (.ref b7), .val (.int (5 : Int32))]) rfl k) ?_
      refine Go.st (S' := T19.setTop (mkF m 79 #[.val (.int p1), .val (.int p2), .val (.int (0 : Int32)), .val (.ref b7), .val (.int (5 : Int32))] [(.ref b7)])) (fun _ k => XS.aloadN X19.here hx rfl (hb hby at_78) rfl rfl k) ?_
      refine Go.st (S' := T19.setTop (mkF m 81 #[.val (.int p1), .val (.int p2), .val (.int (0 : Int32)), .val (.ref b7), .val (.int (5 : Int32))] [(.int (5 : Int32)), (.ref b7)])) (fun _ k => XS.iload X19.here hx rfl (hb hby at_79) rfl k) ?_
      refine Go.st (S' := T19.setTop (mkF m 82 #[.val (.int p1), .val (.int p2), .val (.int (0 : Int32)), .val (.ref b7), .val (.int (5 : Int32))] [(.ref w_X)])) (own_ldR X19 hx hZ e19 V19 rfl ⟨by decide, by decide⟩ rfl (g := (mkF m 81 #[.val (.int p1), .val (.int p2), .val (.int (0 : Int32)), .val (.ref b7), .val (.int (5 : Int32))] [(.int (5 : Int32)), (.ref b7)])) rfl rfl (hb hby at_81)) ?_
      obtain ⟨_, T36, L36, X36, ⟨rfl, Nq36, eq36⟩, st36⟩ := own_callV X19 hx hZ hown (ww hw 23 rfl) (ww hw 24 rfl) (notFace_of_selects (args := #[]) (mvT hZ (ww hw 26 rfl))) (ww hw 26 rfl) (ww hw 25 rfl) (ww hw 2 rfl) (ww hw 27 rfl) (by decide) e19 (E_X.ext O19) (rm2 l Z a0 hw [] w_NL w_RS w_RX w_S w_SRX w_X hS w_X (6 : Int32) h19 O19 (F_X_code.ext O19)) 0 (by decide) (by decide) (by decide) (by decide) (g := (mkF m 82 #[.val (.int p1), .val (.int p2), .val (.int (0 : Int32)), .val (.ref b7), .val (.int (5 : Int32))] [(.ref w_X)])) rfl (by rw [hml]; rfl) [] [] rfl (lenOf pd_428473 rfl) rfl (by show 2 * 0 + _ ≤ _; exact Nat.le_of_eq rfl) (hb hby at_82)
      have N36 := Fr.app N19 Nq36
      refine Go.st (S' := T36.setTop (mkF m 85 #[.val (.int p1), .val (.int p2), .val (.int (0 : Int32)), .val (.ref b7), .val (.int (5 : Int32))] [(.int (6 : Int32))])) st36 ?_
      obtain ⟨_, T37, L37, X37, ⟨rfl, Nq37, eq37⟩, st37⟩ := own_callS X36 hx hZ hown (ww hw 0 rfl) (ww hw 1 rfl) (ww hw 2 rfl) (ww hw 3 rfl) (by decide) eq36 (rm1 l Z a0 hw [] w_NL w_RS w_RX w_S w_SRX w_X hS (6 : Int32) (1 : Int32) (by decide) h19 O19) 0 (by decide) (by decide) (by decide) (by decide) (g := (mkF m 85 #[.val (.int p1), .val (.int p2), .val (.int (0 : Int32)), .val (.ref b7), .val (.int (5 : Int32))] [(.int (6 : Int32))])) rfl (by rw [hml]; rfl) [(.int (6 : Int32))] [] rfl (lenOf pd_674845 rfl) rfl (by show 2 * 0 + _ ≤ _; exact Nat.le_of_eq rfl) (hb hby at_85)
      have N37 := Fr.app N36 Nq37
      refine Go.st (S' := T37.setTop (mkF m 88 #[.val (.int p1), .val (.int p2), .val (.int (0 : Int32)), .val (.ref b7), .val (.int (5 : Int32))] [(.int (1 : Int32))])) st37 ?_
      exact own_retN X37 hx hlk hret (by simp) (hb hby at_88) eq37 ⟨rfl, N37⟩ (by decide) (by decide)
  · refine Go.st (S' := T0.setTop (mkF m 5 #[.val (.int p1), .val (.int p2), .unset, .unset, .unset] [])) (fun _ k => XS.icmpNo X0.here hx rfl (hb hby at_2) rfl (flt hc2).1 k) ?_
    refine Go.st (S' := T0.setTop (mkF m 6 #[.val (.int p1), .val (.int p2), .unset, .unset, .unset] [(.int p1)])) (fun _ k => XS.iloadN X0.here hx rfl (hb hby at_5) rfl k) ?_
    refine Go.st (S' := T0.setTop (mkF m 8 #[.val (.int p1), .val (.int p2), .unset, .unset, .unset] [(.int (6 : Int32)), (.int p1)])) (fun _ k => XS.bipush X0.here hx rfl (hb hby at_6) k) ?_
    by_cases hc8 : (6 : Int32) < p1
    · refine Go.st (S' := T0.setTop (mkF m 15 #[.val (.int p1), .val (.int p2), .unset, .unset, .unset] [])) (fun _ k => XS.icmpYes X0.here hx rfl (pc0 := 8) (pc' := 15) rfl (hb hby at_8) rfl (tlt hc8).2.2.1 (by decide) (by decide) k) ?_
      refine Go.st (S' := T0.setTop (mkF m 16 #[.val (.int p1), .val (.int p2), .unset, .unset, .unset] [(.int (0 : Int32))])) (fun _ k => XS.iconst X0.here hx rfl (hb hby at_15) k) ?_
      refine Go.st (S' := T0.setTop (mkF m 17 #[.val (.int p1), .val (.int p2), .val (.int (0 : Int32)), .unset, .unset] [])) (fun _ k => XS.istoreN X0.here hx rfl (hb hby at_16) rfl (l' := #[.val (.int p1), .val (.int p2), .val (.int (0 : Int32)), .unset, .unset]) rfl k) ?_
      refine Go.st (S' := T0.setTop (mkF m 18 #[.val (.int p1), .val (.int p2), .val (.int (0 : Int32)), .unset, .unset] [(.int p1)])) (fun _ k => XS.iloadN X0.here hx rfl (hb hby at_17) rfl k) ?_
      obtain ⟨_, T38, L38, X38, ⟨rfl, Nq38, eq38⟩, st38⟩ := own_callS X0 hx hZ hown (ww hw 0 rfl) (ww hw 1 rfl) (ww hw 2 rfl) (ww hw 3 rfl) (by decide) e0 (rm1 l Z a0 hw [] w_NL w_RS w_RX w_S w_SRX w_X hS p1 (isF p1) rfl h0 O0) 0 (by decide) (by decide) (by decide) (by decide) (g := (mkF m 18 #[.val (.int p1), .val (.int p2), .val (.int (0 : Int32)), .unset, .unset] [(.int p1)])) rfl (by rw [hml]; rfl) [(.int p1)] [] rfl (lenOf pd_674845 rfl) rfl (by show 2 * 0 + _ ≤ _; exact Nat.le_of_eq rfl) (hb hby at_18)
      have N38 := Fr.app N0 Nq38
      refine Go.st (S' := T38.setTop (mkF m 21 #[.val (.int p1), .val (.int p2), .val (.int (0 : Int32)), .unset, .unset] [(.int (isF p1))])) st38 ?_
      refine Go.st (S' := T38.setTop (mkF m 22 #[.val (.int p1), .val (.int p2), .val (.int (0 : Int32)), .unset, .unset] [(.int (0 : Int32)), (.int (isF p1))])) (fun _ k => XS.iloadN X38.here hx rfl (hb hby at_21) rfl k) ?_
      refine Go.st (S' := T38.setTop (mkF m 27 #[.val (.int p1), .val (.int p2), .val (.int (0 : Int32)), .unset, .unset] [])) (fun _ k => XS.icmpYes X38.here hx rfl (pc0 := 22) (pc' := 27) rfl (hb hby at_22) rfl (teq (by simp [isF, hc2, hc8])).1 (by decide) (by decide) k) ?_
      refine Go.st (S' := T38.setTop (mkF m 29 #[.val (.int p1), .val (.int p2), .val (.int (0 : Int32)), .unset, .unset] [(.int (6 : Int32))])) (fun _ k => XS.bipush X38.here hx rfl (hb hby at_27) k) ?_
      obtain ⟨T39, h39, k39, X39, e39, E39, A39, Ov39, st39⟩ := newR X38 hx hZ hown (ww hw 8 rfl) (ww hw 9 rfl) eq38 (g := (mkF m 29 #[.val (.int p1), .val (.int p2), .val (.int (0 : Int32)), .unset, .unset] [(.int (6 : Int32))])) rfl (hb hby at_29) rfl (by decide) (cap := 6) (by decide) (by decide) (by decide) (by decide)
      obtain ⟨b39, g39⟩ : ∃ z, z = h0.size := ⟨_, rfl⟩
      rw [← g39] at A39 st39
      have gz39 : Z.heap.size ≤ b39 := Nat.le_trans O0.1 (Nat.le_of_eq g39.symm)
      have O39 : Ext Z.heap h39 := own_Ext.trans O0 E39
      have V39 : Arv Z h39 b39 k39 (.object "com/example/grendel/grendel/LockMode") (6 : Int32) [.null, .null, .null, .null, .null, .null] .null := (Arv.new A39 (by decide)).pad (pad_rep [] .null 6)
      refine Go.st (S' := T39.setTop (mkF m 32 #[.val (.int p1), .val (.int p2), .val (.int (0 : Int32)), .unset, .unset] [(.ref b39)])) st39 ?_
      refine Go.st (S' := T39.setTop (mkF m 33 #[.val (.int p1), .val (.int p2), .val (.int (0 : Int32)), .unset, .unset] [(.ref b39), (.ref b39)])) (fun _ k => XS.dup X39.here hx rfl (hb hby at_32) rfl rfl k) ?_
      refine Go.st (S' := T39.setTop (mkF m 34 #[.val (.int p1), .val (.int p2), .val (.int (0 : Int32)), .unset, .unset] [(.int (0 : Int32)), (.ref b39), (.ref b39)])) (fun _ k => XS.iconst X39.here hx rfl (hb hby at_33) k) ?_
      obtain ⟨T40, X40, e40, st40⟩ := getS2 X39 hx hZ hown (host := "") (Or.inl (ww hw 10 rfl)) Via.refl e39 (S_NL.ext O39) (g := (mkF m 34 #[.val (.int p1), .val (.int p2), .val (.int (0 : Int32)), .unset, .unset] [(.int (0 : Int32)), (.ref b39), (.ref b39)])) rfl (hb hby at_34)
      refine Go.st (S' := T40.setTop (mkF m 37 #[.val (.int p1), .val (.int p2), .val (.int (0 : Int32)), .unset, .unset] [(.ref w_NL), (.int (0 : Int32)), (.ref b39), (.ref b39)])) st40 ?_
      obtain ⟨T41, h41, X41, e41, W41, V41, st41⟩ := own_stR X40 hx hZ e40 V39 Ov39 (Ins.self (E_NL.ext O39)) (j := (0 : Int32)) ⟨by decide, by decide⟩ 0 rfl (Nat.le_of_ble_eq_true rfl) (g := (mkF m 37 #[.val (.int p1), .val (.int p2), .val (.int (0 : Int32)), .unset, .unset] [(.ref w_NL), (.int (0 : Int32)), (.ref b39), (.ref b39)])) rfl rfl (hb hby at_37)
      have N41 := Fr.snoc X41 N38 gz39
      have V41 : Arv Z h41 b39 k39 (.object "com/example/grendel/grendel/LockMode") (6 : Int32) [(.ref w_NL), .null, .null, .null, .null, .null] .null := V41
      have O41 : Ext Z.heap h41 := own_Ext.wr O39 W41 gz39
      refine Go.st (S' := T41.setTop (mkF m 38 #[.val (.int p1), .val (.int p2), .val (.int (0 : Int32)), .unset, .unset] [(.ref b39)])) st41 ?_
      refine Go.st (S' := T41.setTop (mkF m 39 #[.val (.int p1), .val (.int p2), .val (.int (0 : Int32)), .unset, .unset] [(.ref b39), (.ref b39)])) (fun _ k => XS.dup X41.here hx rfl (hb hby at_38) rfl rfl k) ?_
      refine Go.st (S' := T41.setTop (mkF m 40 #[.val (.int p1), .val (.int p2), .val (.int (0 : Int32)), .unset, .unset] [(.int (1 : Int32)), (.ref b39), (.ref b39)])) (fun _ k => XS.iconst X41.here hx rfl (hb hby at_39) k) ?_
      obtain ⟨T42, X42, e42, st42⟩ := getS2 X41 hx hZ hown (host := "") (Or.inl (ww hw 12 rfl)) Via.refl e41 (S_RS.ext O41) (g := (mkF m 40 #[.val (.int p1), .val (.int p2), .val (.int (0 : Int32)), .unset, .unset] [(.int (1 : Int32)), (.ref b39), (.ref b39)])) rfl (hb hby at_40)
      refine Go.st (S' := T42.setTop (mkF m 43 #[.val (.int p1), .val (.int p2), .val (.int (0 : Int32)), .unset, .unset] [(.ref w_RS), (.int (1 : Int32)), (.ref b39), (.ref b39)])) st42 ?_
      obtain ⟨T43, h43, X43, e43, W43, V43, st43⟩ := own_stR X42 hx hZ e42 V41 Ov39 (Ins.self (E_RS.ext O41)) (j := (1 : Int32)) ⟨by decide, by decide⟩ 1 rfl (Nat.le_of_ble_eq_true rfl) (g := (mkF m 43 #[.val (.int p1), .val (.int p2), .val (.int (0 : Int32)), .unset, .unset] [(.ref w_RS), (.int (1 : Int32)), (.ref b39), (.ref b39)])) rfl rfl (hb hby at_43)
      have N43 := Fr.snoc X43 N41 gz39
      have V43 : Arv Z h43 b39 k39 (.object "com/example/grendel/grendel/LockMode") (6 : Int32) [(.ref w_NL), (.ref w_RS), .null, .null, .null, .null] .null := V43
      have O43 : Ext Z.heap h43 := own_Ext.wr O41 W43 gz39
      refine Go.st (S' := T43.setTop (mkF m 44 #[.val (.int p1), .val (.int p2), .val (.int (0 : Int32)), .unset, .unset] [(.ref b39)])) st43 ?_
      refine Go.st (S' := T43.setTop (mkF m 45 #[.val (.int p1), .val (.int p2), .val (.int (0 : Int32)), .unset, .unset] [(.ref b39), (.ref b39)])) (fun _ k => XS.dup X43.here hx rfl (hb hby at_44) rfl rfl k) ?_
      refine Go.st (S' := T43.setTop (mkF m 46 #[.val (.int p1), .val (.int p2), .val (.int (0 : Int32)), .unset, .unset] [(.int (2 : Int32)), (.ref b39), (.ref b39)])) (fun _ k => XS.iconst X43.here hx rfl (hb hby at_45) k) ?_
      obtain ⟨T44, X44, e44, st44⟩ := getS2 X43 hx hZ hown (host := "") (Or.inl (ww hw 14 rfl)) Via.refl e43 (S_RX.ext O43) (g := (mkF m 46 #[.val (.int p1), .val (.int p2), .val (.int (0 : Int32)), .unset, .unset] [(.int (2 : Int32)), (.ref b39), (.ref b39)])) rfl (hb hby at_46)
      refine Go.st (S' := T44.setTop (mkF m 49 #[.val (.int p1), .val (.int p2), .val (.int (0 : Int32)), .unset, .unset] [(.ref w_RX), (.int (2 : Int32)), (.ref b39), (.ref b39)])) st44 ?_
      obtain ⟨T45, h45, X45, e45, W45, V45, st45⟩ := own_stR X44 hx hZ e44 V43 Ov39 (Ins.self (E_RX.ext O43)) (j := (2 : Int32)) ⟨by decide, by decide⟩ 2 rfl (Nat.le_of_ble_eq_true rfl) (g := (mkF m 49 #[.val (.int p1), .val (.int p2), .val (.int (0 : Int32)), .unset, .unset] [(.ref w_RX), (.int (2 : Int32)), (.ref b39), (.ref b39)])) rfl rfl (hb hby at_49)
      have N45 := Fr.snoc X45 N43 gz39
      have V45 : Arv Z h45 b39 k39 (.object "com/example/grendel/grendel/LockMode") (6 : Int32) [(.ref w_NL), (.ref w_RS), (.ref w_RX), .null, .null, .null] .null := V45
      have O45 : Ext Z.heap h45 := own_Ext.wr O43 W45 gz39
      refine Go.st (S' := T45.setTop (mkF m 50 #[.val (.int p1), .val (.int p2), .val (.int (0 : Int32)), .unset, .unset] [(.ref b39)])) st45 ?_
      refine Go.st (S' := T45.setTop (mkF m 51 #[.val (.int p1), .val (.int p2), .val (.int (0 : Int32)), .unset, .unset] [(.ref b39), (.ref b39)])) (fun _ k => XS.dup X45.here hx rfl (hb hby at_50) rfl rfl k) ?_
      refine Go.st (S' := T45.setTop (mkF m 52 #[.val (.int p1), .val (.int p2), .val (.int (0 : Int32)), .unset, .unset] [(.int (3 : Int32)), (.ref b39), (.ref b39)])) (fun _ k => XS.iconst X45.here hx rfl (hb hby at_51) k) ?_
      obtain ⟨T46, X46, e46, st46⟩ := getS2 X45 hx hZ hown (host := "") (Or.inl (ww hw 16 rfl)) Via.refl e45 (S_S.ext O45) (g := (mkF m 52 #[.val (.int p1), .val (.int p2), .val (.int (0 : Int32)), .unset, .unset] [(.int (3 : Int32)), (.ref b39), (.ref b39)])) rfl (hb hby at_52)
      refine Go.st (S' := T46.setTop (mkF m 55 #[.val (.int p1), .val (.int p2), .val (.int (0 : Int32)), .unset, .unset] [(.ref w_S), (.int (3 : Int32)), (.ref b39), (.ref b39)])) st46 ?_
      obtain ⟨T47, h47, X47, e47, W47, V47, st47⟩ := own_stR X46 hx hZ e46 V45 Ov39 (Ins.self (E_S.ext O45)) (j := (3 : Int32)) ⟨by decide, by decide⟩ 3 rfl (Nat.le_of_ble_eq_true rfl) (g := (mkF m 55 #[.val (.int p1), .val (.int p2), .val (.int (0 : Int32)), .unset, .unset] [(.ref w_S), (.int (3 : Int32)), (.ref b39), (.ref b39)])) rfl rfl (hb hby at_55)
      have N47 := Fr.snoc X47 N45 gz39
      have V47 : Arv Z h47 b39 k39 (.object "com/example/grendel/grendel/LockMode") (6 : Int32) [(.ref w_NL), (.ref w_RS), (.ref w_RX), (.ref w_S), .null, .null] .null := V47
      have O47 : Ext Z.heap h47 := own_Ext.wr O45 W47 gz39
      refine Go.st (S' := T47.setTop (mkF m 56 #[.val (.int p1), .val (.int p2), .val (.int (0 : Int32)), .unset, .unset] [(.ref b39)])) st47 ?_
      refine Go.st (S' := T47.setTop (mkF m 57 #[.val (.int p1), .val (.int p2), .val (.int (0 : Int32)), .unset, .unset] [(.ref b39), (.ref b39)])) (fun _ k => XS.dup X47.here hx rfl (hb hby at_56) rfl rfl k) ?_
      refine Go.st (S' := T47.setTop (mkF m 58 #[.val (.int p1), .val (.int p2), .val (.int (0 : Int32)), .unset, .unset] [(.int (4 : Int32)), (.ref b39), (.ref b39)])) (fun _ k => XS.iconst X47.here hx rfl (hb hby at_57) k) ?_
      obtain ⟨T48, X48, e48, st48⟩ := getS2 X47 hx hZ hown (host := "") (Or.inl (ww hw 18 rfl)) Via.refl e47 (S_SRX.ext O47) (g := (mkF m 58 #[.val (.int p1), .val (.int p2), .val (.int (0 : Int32)), .unset, .unset] [(.int (4 : Int32)), (.ref b39), (.ref b39)])) rfl (hb hby at_58)
      refine Go.st (S' := T48.setTop (mkF m 61 #[.val (.int p1), .val (.int p2), .val (.int (0 : Int32)), .unset, .unset] [(.ref w_SRX), (.int (4 : Int32)), (.ref b39), (.ref b39)])) st48 ?_
      obtain ⟨T49, h49, X49, e49, W49, V49, st49⟩ := own_stR X48 hx hZ e48 V47 Ov39 (Ins.self (E_SRX.ext O47)) (j := (4 : Int32)) ⟨by decide, by decide⟩ 4 rfl (Nat.le_of_ble_eq_true rfl) (g := (mkF m 61 #[.val (.int p1), .val (.int p2), .val (.int (0 : Int32)), .unset, .unset] [(.ref w_SRX), (.int (4 : Int32)), (.ref b39), (.ref b39)])) rfl rfl (hb hby at_61)
      have N49 := Fr.snoc X49 N47 gz39
      have V49 : Arv Z h49 b39 k39 (.object "com/example/grendel/grendel/LockMode") (6 : Int32) [(.ref w_NL), (.ref w_RS), (.ref w_RX), (.ref w_S), (.ref w_SRX), .null] .null := V49
      have O49 : Ext Z.heap h49 := own_Ext.wr O47 W49 gz39
      refine Go.st (S' := T49.setTop (mkF m 62 #[.val (.int p1), .val (.int p2), .val (.int (0 : Int32)), .unset, .unset] [(.ref b39)])) st49 ?_
      refine Go.st (S' := T49.setTop (mkF m 63 #[.val (.int p1), .val (.int p2), .val (.int (0 : Int32)), .unset, .unset] [(.ref b39), (.ref b39)])) (fun _ k => XS.dup X49.here hx rfl (hb hby at_62) rfl rfl k) ?_
      refine Go.st (S' := T49.setTop (mkF m 64 #[.val (.int p1), .val (.int p2), .val (.int (0 : Int32)), .unset, .unset] [(.int (5 : Int32)), (.ref b39), (.ref b39)])) (fun _ k => XS.iconst X49.here hx rfl (hb hby at_63) k) ?_
      obtain ⟨T50, X50, e50, st50⟩ := getS2 X49 hx hZ hown (host := "") (Or.inl (ww hw 20 rfl)) Via.refl e49 (S_X.ext O49) (g := (mkF m 64 #[.val (.int p1), .val (.int p2), .val (.int (0 : Int32)), .unset, .unset] [(.int (5 : Int32)), (.ref b39), (.ref b39)])) rfl (hb hby at_64)
      refine Go.st (S' := T50.setTop (mkF m 67 #[.val (.int p1), .val (.int p2), .val (.int (0 : Int32)), .unset, .unset] [(.ref w_X), (.int (5 : Int32)), (.ref b39), (.ref b39)])) st50 ?_
      obtain ⟨T51, h51, X51, e51, W51, V51, st51⟩ := own_stR X50 hx hZ e50 V49 Ov39 (Ins.self (E_X.ext O49)) (j := (5 : Int32)) ⟨by decide, by decide⟩ 5 rfl (Nat.le_of_ble_eq_true rfl) (g := (mkF m 67 #[.val (.int p1), .val (.int p2), .val (.int (0 : Int32)), .unset, .unset] [(.ref w_X), (.int (5 : Int32)), (.ref b39), (.ref b39)])) rfl rfl (hb hby at_67)
      have N51 := Fr.snoc X51 N49 gz39
      have V51 : Arv Z h51 b39 k39 (.object "com/example/grendel/grendel/LockMode") (6 : Int32) [(.ref w_NL), (.ref w_RS), (.ref w_RX), (.ref w_S), (.ref w_SRX), (.ref w_X)] .null := V51
      have O51 : Ext Z.heap h51 := own_Ext.wr O49 W51 gz39
      refine Go.st (S' := T51.setTop (mkF m 68 #[.val (.int p1), .val (.int p2), .val (.int (0 : Int32)), .unset, .unset] [(.ref b39)])) st51 ?_
      refine Go.st (S' := T51.setTop (mkF m 69 #[.val (.int p1), .val (.int p2), .val (.int (0 : Int32)), .val (.ref b39), .unset] [])) (fun _ k => XS.astoreN X51.here hx rfl (hb hby at_68) rfl rfl (l' := #[.val (.int p1), .val (.int p2), .val (.int (0 : Int32)), .val (.ref b39), .unset]) rfl k) ?_
      refine Go.st (S' := T51.setTop (mkF m 70 #[.val (.int p1), .val (.int p2), .val (.int (0 : Int32)), .val (.ref b39), .unset] [(.int p2)])) (fun _ k => XS.iloadN X51.here hx rfl (hb hby at_69) rfl k) ?_
      refine Go.st (S' := T51.setTop (mkF m 72 #[.val (.int p1), .val (.int p2), .val (.int (0 : Int32)), .val (.ref b39), .unset] [(.int (2147483647 : Int32)), (.int p2)])) (X51.ldcInt hx hown (mvT hZ (ww hw 22 rfl)) (g := (mkF m 70 #[.val (.int p1), .val (.int p2), .val (.int (0 : Int32)), .val (.ref b39), .unset] [(.int p2)])) rfl (hb hby at_70)) ?_
      refine Go.st (S' := T51.setTop (mkF m 73 #[.val (.int p1), .val (.int p2), .val (.int (0 : Int32)), .val (.ref b39), .unset] [(.int (p2 &&& (2147483647 : Int32)))])) (fun _ k => XS.iand X51.here hx rfl (hb hby at_72) rfl k) ?_
      refine Go.st (S' := T51.setTop (mkF m 75 #[.val (.int p1), .val (.int p2), .val (.int (0 : Int32)), .val (.ref b39), .unset] [(.int (6 : Int32)), (.int (p2 &&& (2147483647 : Int32)))])) (fun _ k => XS.bipush X51.here hx rfl (hb hby at_73) k) ?_
      refine Go.st (S' := T51.setTop (mkF m 76 #[.val (.int p1), .val (.int p2), .val (.int (0 : Int32)), .val (.ref b39), .unset] [(.int ((p2 &&& (2147483647 : Int32)) % (6 : Int32)))])) (fun _ k => iremM X51 hx rfl (hb hby at_75) rfl (by decide) k) ?_
      rcases own_rem6 p2 with hk | hk | hk | hk | hk | hk
      · refine Go.st (S' := T51.setTop (mkF m 76 #[.val (.int p1), .val (.int p2), .val (.int (0 : Int32)), .val (.ref b39), .unset] [(.int (0 : Int32))])) (fun _ k => by rw [hk]; exact k) ?_
        refine Go.st (S' := T51.setTop (mkF m 78 #[.val (.int p1), .val (.int p2), .val (.int (0 : Int32)), .val (.ref b39), .val (.int (0 : Int32))] [])) (fun _ k => XS.istore X51.here hx rfl (hb hby at_76) rfl (l' := #[.val (.int p1), .val (.int p2), .val (.int (0 : Int32)), .val (.ref b39), .val (.int (0 : Int32))]) rfl k) ?_
        refine Go.st (S' := T51.setTop (mkF m 79 #[.val (.int p1), .val (.int p2), .val (.int (0 : Int32)), .val (.ref b39), .val (.int (0 : Int32))] [(.ref b39)])) (fun _ k => XS.aloadN X51.here hx rfl (hb hby at_78) rfl rfl k) ?_
        refine Go.st (S' := T51.setTop (mkF m 81 #[.val (.int p1), .val (.int p2), .val (.int (0 : Int32)), .val (.ref b39), .val (.int (0 : Int32))] [(.int (0 : Int32)), (.ref b39)])) (fun _ k => XS.iload X51.here hx rfl (hb hby at_79) rfl k) ?_
        refine Go.st (S' := T51.setTop (mkF m 82 #[.val (.int p1), .val (.int p2), .val (.int (0 : Int32)), .val (.ref b39), .val (.int (0 : Int32))] [(.ref w_NL)])) (own_ldR X51 hx hZ e51 V51 rfl ⟨by decide, by decide⟩ rfl (g := (mkF m 81 #[.val (.int p1), .val (.int p2), .val (.int (0 : Int32)), .val (.ref b39), .val (.int (0 : Int32))] [(.int (0 : Int32)), (.ref b39)])) rfl rfl (hb hby at_81)) ?_
        obtain ⟨_, T53, L53, X53, ⟨rfl, Nq53, eq53⟩, st53⟩ := own_callV X51 hx hZ hown (ww hw 23 rfl) (ww hw 24 rfl) (notFace_of_selects (args := #[]) (mvT hZ (ww hw 26 rfl))) (ww hw 26 rfl) (ww hw 25 rfl) (ww hw 2 rfl) (ww hw 27 rfl) (by decide) e51 (E_NL.ext O51) (rm2 l Z a0 hw [] w_NL w_RS w_RX w_S w_SRX w_X hS w_NL (1 : Int32) h51 O51 (F_NL_code.ext O51)) 0 (by decide) (by decide) (by decide) (by decide) (g := (mkF m 82 #[.val (.int p1), .val (.int p2), .val (.int (0 : Int32)), .val (.ref b39), .val (.int (0 : Int32))] [(.ref w_NL)])) rfl (by rw [hml]; rfl) [] [] rfl (lenOf pd_428473 rfl) rfl (by show 2 * 0 + _ ≤ _; exact Nat.le_of_eq rfl) (hb hby at_82)
        have N53 := Fr.app N51 Nq53
        refine Go.st (S' := T53.setTop (mkF m 85 #[.val (.int p1), .val (.int p2), .val (.int (0 : Int32)), .val (.ref b39), .val (.int (0 : Int32))] [(.int (1 : Int32))])) st53 ?_
        obtain ⟨_, T54, L54, X54, ⟨rfl, Nq54, eq54⟩, st54⟩ := own_callS X53 hx hZ hown (ww hw 0 rfl) (ww hw 1 rfl) (ww hw 2 rfl) (ww hw 3 rfl) (by decide) eq53 (rm1 l Z a0 hw [] w_NL w_RS w_RX w_S w_SRX w_X hS (1 : Int32) (1 : Int32) (by decide) h51 O51) 0 (by decide) (by decide) (by decide) (by decide) (g := (mkF m 85 #[.val (.int p1), .val (.int p2), .val (.int (0 : Int32)), .val (.ref b39), .val (.int (0 : Int32))] [(.int (1 : Int32))])) rfl (by rw [hml]; rfl) [(.int (1 : Int32))] [] rfl (lenOf pd_674845 rfl) rfl (by show 2 * 0 + _ ≤ _; exact Nat.le_of_eq rfl) (hb hby at_85)
        have N54 := Fr.app N53 Nq54
        refine Go.st (S' := T54.setTop (mkF m 88 #[.val (.int p1), .val (.int p2), .val (.int (0 : Int32)), .val (.ref b39), .val (.int (0 : Int32))] [(.int (1 : Int32))])) st54 ?_
        exact own_retN X54 hx hlk hret (by simp) (hb hby at_88) eq54 ⟨rfl, N54⟩ (by decide) (by decide)
      · refine Go.st (S' := T51.setTop (mkF m 76 #[.val (.int p1), .val (.int p2), .val (.int (0 : Int32)), .val (.ref b39), .unset] [(.int (1 : Int32))])) (fun _ k => by rw [hk]; exact k) ?_
        refine Go.st (S' := T51.setTop (mkF m 78 #[.val (.int p1), .val (.int p2), .val (.int (0 : Int32)), .val (.ref b39), .val (.int (1 : Int32))] [])) (fun _ k => XS.istore X51.here hx rfl (hb hby at_76) rfl (l' := #[.val (.int p1), .val (.int p2), .val (.int (0 : Int32)), .val (.ref b39), .val (.int (1 : Int32))]) rfl k) ?_
        refine Go.st (S' := T51.setTop (mkF m 79 #[.val (.int p1), .val (.int p2), .val (.int (0 : Int32)), .val (.ref b39), .val (.int (1 : Int32))] [(.ref b39)])) (fun _ k => XS.aloadN X51.here hx rfl (hb hby at_78) rfl rfl k) ?_
        refine Go.st (S' := T51.setTop (mkF m 81 #[.val (.int p1), .val (.int p2), .val (.int (0 : Int32)), .val (.ref b39), .val (.int (1 : Int32))] [(.int (1 : Int32)), (.ref b39)])) (fun _ k => XS.iload X51.here hx rfl (hb hby at_79) rfl k) ?_
        refine Go.st (S' := T51.setTop (mkF m 82 #[.val (.int p1), .val (.int p2), .val (.int (0 : Int32)), .val (.ref b39), .val (.int (1 : Int32))] [(.ref w_RS)])) (own_ldR X51 hx hZ e51 V51 rfl ⟨by decide, by decide⟩ rfl (g := (mkF m 81 #[.val (.int p1), .val (.int p2), .val (.int (0 : Int32)), .val (.ref b39), .val (.int (1 : Int32))] [(.int (1 : Int32)), (.ref b39)])) rfl rfl (hb hby at_81)) ?_
        obtain ⟨_, T56, L56, X56, ⟨rfl, Nq56, eq56⟩, st56⟩ := own_callV X51 hx hZ hown (ww hw 23 rfl) (ww hw 24 rfl) (notFace_of_selects (args := #[]) (mvT hZ (ww hw 26 rfl))) (ww hw 26 rfl) (ww hw 25 rfl) (ww hw 2 rfl) (ww hw 27 rfl) (by decide) e51 (E_RS.ext O51) (rm2 l Z a0 hw [] w_NL w_RS w_RX w_S w_SRX w_X hS w_RS (2 : Int32) h51 O51 (F_RS_code.ext O51)) 0 (by decide) (by decide) (by decide) (by decide) (g := (mkF m 82 #[.val (.int p1), .val (.int p2), .val (.int (0 : Int32)), .val (.ref b39), .val (.int (1 : Int32))] [(.ref w_RS)])) rfl (by rw [hml]; rfl) [] [] rfl (lenOf pd_428473 rfl) rfl (by show 2 * 0 + _ ≤ _; exact Nat.le_of_eq rfl) (hb hby at_82)
        have N56 := Fr.app N51 Nq56
        refine Go.st (S' := T56.setTop (mkF m 85 #[.val (.int p1), .val (.int p2), .val (.int (0 : Int32)), .val (.ref b39), .val (.int (1 : Int32))] [(.int (2 : Int32))])) st56 ?_
        obtain ⟨_, T57, L57, X57, ⟨rfl, Nq57, eq57⟩, st57⟩ := own_callS X56 hx hZ hown (ww hw 0 rfl) (ww hw 1 rfl) (ww hw 2 rfl) (ww hw 3 rfl) (by decide) eq56 (rm1 l Z a0 hw [] w_NL w_RS w_RX w_S w_SRX w_X hS (2 : Int32) (1 : Int32) (by decide) h51 O51) 0 (by decide) (by decide) (by decide) (by decide) (g := (mkF m 85 #[.val (.int p1), .val (.int p2), .val (.int (0 : Int32)), .val (.ref b39), .val (.int (1 : Int32))] [(.int (2 : Int32))])) rfl (by rw [hml]; rfl) [(.int (2 : Int32))] [] rfl (lenOf pd_674845 rfl) rfl (by show 2 * 0 + _ ≤ _; exact Nat.le_of_eq rfl) (hb hby at_85)
        have N57 := Fr.app N56 Nq57
        refine Go.st (S' := T57.setTop (mkF m 88 #[.val (.int p1), .val (.int p2), .val (.int (0 : Int32)), .val (.ref b39), .val (.int (1 : Int32))] [(.int (1 : Int32))])) st57 ?_
        exact own_retN X57 hx hlk hret (by simp) (hb hby at_88) eq57 ⟨rfl, N57⟩ (by decide) (by decide)
      · refine Go.st (S' := T51.setTop (mkF m 76 #[.val (.int p1), .val (.int p2), .val (.int (0 : Int32)), .val (.ref b39), .unset] [(.int (2 : Int32))])) (fun _ k => by rw [hk]; exact k) ?_
        refine Go.st (S' := T51.setTop (mkF m 78 #[.val (.int p1), .val (.int p2), .val (.int (0 : Int32)), .val (.ref b39), .val (.int (2 : Int32))] [])) (fun _ k => XS.istore X51.here hx rfl (hb hby at_76) rfl (l' := #[.val (.int p1), .val (.int p2), .val (.int (0 : Int32)), .val (.ref b39), .val (.int (2 : Int32))]) rfl k) ?_
        refine Go.st (S' := T51.setTop (mkF m 79 #[.val (.int p1), .val (.int p2), .val (.int (0 : Int32)), .val (.ref b39), .val (.int (2 : Int32))] [(.ref b39)])) (fun _ k => XS.aloadN X51.here hx rfl (hb hby at_78) rfl rfl k) ?_
        refine Go.st (S' := T51.setTop (mkF m 81 #[.val (.int p1), .val (.int p2), .val (.int (0 : Int32)), .val (.ref b39), .val (.int (2 : Int32))] [(.int (2 : Int32)), (.ref b39)])) (fun _ k => XS.iload X51.here hx rfl (hb hby at_79) rfl k) ?_
        refine Go.st (S' := T51.setTop (mkF m 82 #[.val (.int p1), .val (.int p2), .val (.int (0 : Int32)), .val (.ref b39), .val (.int (2 : Int32))] [(.ref w_RX)])) (own_ldR X51 hx hZ e51 V51 rfl ⟨by decide, by decide⟩ rfl (g := (mkF m 81 #[.val (.int p1), .val (.int p2), .val (.int (0 : Int32)), .val (.ref b39), .val (.int (2 : Int32))] [(.int (2 : Int32)), (.ref b39)])) rfl rfl (hb hby at_81)) ?_
        obtain ⟨_, T59, L59, X59, ⟨rfl, Nq59, eq59⟩, st59⟩ := own_callV X51 hx hZ hown (ww hw 23 rfl) (ww hw 24 rfl) (notFace_of_selects (args := #[]) (mvT hZ (ww hw 26 rfl))) (ww hw 26 rfl) (ww hw 25 rfl) (ww hw 2 rfl) (ww hw 27 rfl) (by decide) e51 (E_RX.ext O51) (rm2 l Z a0 hw [] w_NL w_RS w_RX w_S w_SRX w_X hS w_RX (3 : Int32) h51 O51 (F_RX_code.ext O51)) 0 (by decide) (by decide) (by decide) (by decide) (g := (mkF m 82 #[.val (.int p1), .val (.int p2), .val (.int (0 : Int32)), .val (.ref b39), .val (.int (2 : Int32))] [(.ref w_RX)])) rfl (by rw [hml]; rfl) [] [] rfl (lenOf pd_428473 rfl) rfl (by show 2 * 0 + _ ≤ _; exact Nat.le_of_eq rfl) (hb hby at_82)
        have N59 := Fr.app N51 Nq59
        refine Go.st (S' := T59.setTop (mkF m 85 #[.val (.int p1), .val (.int p2), .val (.int (0 : Int32)), .val (.ref b39), .val (.int (2 : Int32))] [(.int (3 : Int32))])) st59 ?_
        obtain ⟨_, T60, L60, X60, ⟨rfl, Nq60, eq60⟩, st60⟩ := own_callS X59 hx hZ hown (ww hw 0 rfl) (ww hw 1 rfl) (ww hw 2 rfl) (ww hw 3 rfl) (by decide) eq59 (rm1 l Z a0 hw [] w_NL w_RS w_RX w_S w_SRX w_X hS (3 : Int32) (1 : Int32) (by decide) h51 O51) 0 (by decide) (by decide) (by decide) (by decide) (g := (mkF m 85 #[.val (.int p1), .val (.int p2), .val (.int (0 : Int32)), .val (.ref b39), .val (.int (2 : Int32))] [(.int (3 : Int32))])) rfl (by rw [hml]; rfl) [(.int (3 : Int32))] [] rfl (lenOf pd_674845 rfl) rfl (by show 2 * 0 + _ ≤ _; exact Nat.le_of_eq rfl) (hb hby at_85)
        have N60 := Fr.app N59 Nq60
        refine Go.st (S' := T60.setTop (mkF m 88 #[.val (.int p1), .val (.int p2), .val (.int (0 : Int32)), .val (.ref b39), .val (.int (2 : Int32))] [(.int (1 : Int32))])) st60 ?_
        exact own_retN X60 hx hlk hret (by simp) (hb hby at_88) eq60 ⟨rfl, N60⟩ (by decide) (by decide)
      · refine Go.st (S' := T51.setTop (mkF m 76 #[.val (.int p1), .val (.int p2), .val (.int (0 : Int32)), .val (.ref b39), .unset] [(.int (3 : Int32))])) (fun _ k => by rw [hk]; exact k) ?_
        refine Go.st (S' := T51.setTop (mkF m 78 #[.val (.int p1), .val (.int p2), .val (.int (0 : Int32)), .val (.ref b39), .val (.int (3 : Int32))] [])) (fun _ k => XS.istore X51.here hx rfl (hb hby at_76) rfl (l' := #[.val (.int p1), .val (.int p2), .val (.int (0 : Int32)), .val (.ref b39), .val (.int (3 : Int32))]) rfl k) ?_
        refine Go.st (S' := T51.setTop (mkF m 79 #[.val (.int p1), .val (.int p2), .val (.int (0 : Int32)), .val (.ref b39), .val (.int (3 : Int32))] [(.ref b39)])) (fun _ k => XS.aloadN X51.here hx rfl (hb hby at_78) rfl rfl k) ?_
        refine Go.st (S' := T51.setTop (mkF m 81 #[.val (.int p1), .val (.int p2), .val (.int (0 : Int32)), .val (.ref b39), .val (.int (3 : Int32))] [(.int (3 : Int32)), (.ref b39)])) (fun _ k => XS.iload X51.here hx rfl (hb hby at_79) rfl k) ?_
        refine Go.st (S' := T51.setTop (mkF m 82 #[.val (.int p1), .val (.int p2), .val (.int (0 : Int32)), .val (.ref b39), .val (.int (3 : Int32))] [(.ref w_S)])) (own_ldR X51 hx hZ e51 V51 rfl ⟨by decide, by decide⟩ rfl (g := (mkF m 81 #[.val (.int p1), .val (.int p2), .val (.int (0 : Int32)), .val (.ref b39), .val (.int (3 : Int32))] [(.int (3 : Int32)), (.ref b39)])) rfl rfl (hb hby at_81)) ?_
        obtain ⟨_, T62, L62, X62, ⟨rfl, Nq62, eq62⟩, st62⟩ := own_callV X51 hx hZ hown (ww hw 23 rfl) (ww hw 24 rfl) (notFace_of_selects (args := #[]) (mvT hZ (ww hw 26 rfl))) (ww hw 26 rfl) (ww hw 25 rfl) (ww hw 2 rfl) (ww hw 27 rfl) (by decide) e51 (E_S.ext O51) (rm2 l Z a0 hw [] w_NL w_RS w_RX w_S w_SRX w_X hS w_S (4 : Int32) h51 O51 (F_S_code.ext O51)) 0 (by decide) (by decide) (by decide) (by decide) (g := (mkF m 82 #[.val (.int p1), .val (.int p2), .val (.int (0 : Int32)), .val (.ref b39), .val (.int (3 : Int32))] [(.ref w_S)])) rfl (by rw [hml]; rfl) [] [] rfl (lenOf pd_428473 rfl) rfl (by show 2 * 0 + _ ≤ _; exact Nat.le_of_eq rfl) (hb hby at_82)
        have N62 := Fr.app N51 Nq62
        refine Go.st (S' := T62.setTop (mkF m 85 #[.val (.int p1), .val (.int p2), .val (.int (0 : Int32)), .val (.ref b39), .val (.int (3 : Int32))] [(.int (4 : Int32))])) st62 ?_
        obtain ⟨_, T63, L63, X63, ⟨rfl, Nq63, eq63⟩, st63⟩ := own_callS X62 hx hZ hown (ww hw 0 rfl) (ww hw 1 rfl) (ww hw 2 rfl) (ww hw 3 rfl) (by decide) eq62 (rm1 l Z a0 hw [] w_NL w_RS w_RX w_S w_SRX w_X hS (4 : Int32) (1 : Int32) (by decide) h51 O51) 0 (by decide) (by decide) (by decide) (by decide) (g := (mkF m 85 #[.val (.int p1), .val (.int p2), .val (.int (0 : Int32)), .val (.ref b39), .val (.int (3 : Int32))] [(.int (4 : Int32))])) rfl (by rw [hml]; rfl) [(.int (4 : Int32))] [] rfl (lenOf pd_674845 rfl) rfl (by show 2 * 0 + _ ≤ _; exact Nat.le_of_eq rfl) (hb hby at_85)
        have N63 := Fr.app N62 Nq63
        refine Go.st (S' := T63.setTop (mkF m 88 #[.val (.int p1), .val (.int p2), .val (.int (0 : Int32)), .val (.ref b39), .val (.int (3 : Int32))] [(.int (1 : Int32))])) st63 ?_
        exact own_retN X63 hx hlk hret (by simp) (hb hby at_88) eq63 ⟨rfl, N63⟩ (by decide) (by decide)
      · refine Go.st (S' := T51.setTop (mkF m 76 #[.val (.int p1), .val (.int p2), .val (.int (0 : Int32)), .val (.ref b39), .unset] [(.int (4 : Int32))])) (fun _ k => by rw [hk]; exact k) ?_
        refine Go.st (S' := T51.setTop (mkF m 78 #[.val (.int p1), .val (.int p2), .val (.int (0 : Int32)), .val (.ref b39), .val (.int (4 : Int32))] [])) (fun _ k => XS.istore X51.here hx rfl (hb hby at_76) rfl (l' := #[.val (.int p1), .val (.int p2), .val (.int (0 : Int32)), .val (.ref b39), .val (.int (4 : Int32))]) rfl k) ?_
        refine Go.st (S' := T51.setTop (mkF m 79 #[.val (.int p1), .val (.int p2), .val (.int (0 : Int32)), .val (.ref b39), .val (.int (4 : Int32))] [(.ref b39)])) (fun _ k => XS.aloadN X51.here hx rfl (hb hby at_78) rfl rfl k) ?_
        refine Go.st (S' := T51.setTop (mkF m 81 #[.val (.int p1), .val (.int p2), .val (.int (0 : Int32)), .val (.ref b39), .val (.int (4 : Int32))] [(.int (4 : Int32)), (.ref b39)])) (fun _ k => XS.iload X51.here hx rfl (hb hby at_79) rfl k) ?_
        refine Go.st (S' := T51.setTop (mkF m 82 #[.val (.int p1), .val (.int p2), .val (.int (0 : Int32)), .val (.ref b39), .val (.int (4 : Int32))] [(.ref w_SRX)])) (own_ldR X51 hx hZ e51 V51 rfl ⟨by decide, by decide⟩ rfl (g := (mkF m 81 #[.val (.int p1), .val (.int p2), .val (.int (0 : Int32)), .val (.ref b39), .val (.int (4 : Int32))] [(.int (4 : Int32)), (.ref b39)])) rfl rfl (hb hby at_81)) ?_
        obtain ⟨_, T65, L65, X65, ⟨rfl, Nq65, eq65⟩, st65⟩ := own_callV X51 hx hZ hown (ww hw 23 rfl) (ww hw 24 rfl) (notFace_of_selects (args := #[]) (mvT hZ (ww hw 26 rfl))) (ww hw 26 rfl) (ww hw 25 rfl) (ww hw 2 rfl) (ww hw 27 rfl) (by decide) e51 (E_SRX.ext O51) (rm2 l Z a0 hw [] w_NL w_RS w_RX w_S w_SRX w_X hS w_SRX (5 : Int32) h51 O51 (F_SRX_code.ext O51)) 0 (by decide) (by decide) (by decide) (by decide) (g := (mkF m 82 #[.val (.int p1), .val (.int p2), .val (.int (0 : Int32)), .val (.ref b39), .val (.int (4 : Int32))] [(.ref w_SRX)])) rfl (by rw [hml]; rfl) [] [] rfl (lenOf pd_428473 rfl) rfl (by show 2 * 0 + _ ≤ _; exact Nat.le_of_eq rfl) (hb hby at_82)
        have N65 := Fr.app N51 Nq65
        refine Go.st (S' := T65.setTop (mkF m 85 #[.val (.int p1), .val (.int p2), .val (.int (0 : Int32)), .val (.ref b39), .val (.int (4 : Int32))] [(.int (5 : Int32))])) st65 ?_
        obtain ⟨_, T66, L66, X66, ⟨rfl, Nq66, eq66⟩, st66⟩ := own_callS X65 hx hZ hown (ww hw 0 rfl) (ww hw 1 rfl) (ww hw 2 rfl) (ww hw 3 rfl) (by decide) eq65 (rm1 l Z a0 hw [] w_NL w_RS w_RX w_S w_SRX w_X hS (5 : Int32) (1 : Int32) (by decide) h51 O51) 0 (by decide) (by decide) (by decide) (by decide) (g := (mkF m 85 #[.val (.int p1), .val (.int p2), .val (.int (0 : Int32)), .val (.ref b39), .val (.int (4 : Int32))] [(.int (5 : Int32))])) rfl (by rw [hml]; rfl) [(.int (5 : Int32))] [] rfl (lenOf pd_674845 rfl) rfl (by show 2 * 0 + _ ≤ _; exact Nat.le_of_eq rfl) (hb hby at_85)
        have N66 := Fr.app N65 Nq66
        refine Go.st (S' := T66.setTop (mkF m 88 #[.val (.int p1), .val (.int p2), .val (.int (0 : Int32)), .val (.ref b39), .val (.int (4 : Int32))] [(.int (1 : Int32))])) st66 ?_
        exact own_retN X66 hx hlk hret (by simp) (hb hby at_88) eq66 ⟨rfl, N66⟩ (by decide) (by decide)
      · refine Go.st (S' := T51.setTop (mkF m 76 #[.val (.int p1), .val (.int p2), .val (.int (0 : Int32)), .val (.ref b39), .unset] [(.int (5 : Int32))])) (fun _ k => by rw [hk]; exact k) ?_
        refine Go.st (S' := T51.setTop (mkF m 78 #[.val (.int p1), .val (.int p2), .val (.int (0 : Int32)), .val (.ref b39), .val (.int (5 : Int32))] [])) (fun _ k => XS.istore X51.here hx rfl (hb hby at_76) rfl (l' := #[.val (.int p1), .val (.int p2), .val (.int (0 : Int32)), .val (.ref b39), .val (.int (5 : Int32))]) rfl k) ?_
        refine Go.st (S' := T51.setTop (mkF m 79 #[.val (.int p1), .val (.int p2), .val (.int (0 : Int32)), .val (.ref b39), .val (.int (5 : Int32))] [(.ref b39)])) (fun _ k => XS.aloadN X51.here hx rfl (hb hby at_78) rfl rfl k) ?_
        refine Go.st (S' := T51.setTop (mkF m 81 #[.val (.int p1), .val (.int p2), .val (.int (0 : Int32)), .val (.ref b39), .val (.int (5 : Int32))] [(.int (5 : Int32)), (.ref b39)])) (fun _ k => XS.iload X51.here hx rfl (hb hby at_79) rfl k) ?_
        refine Go.st (S' := T51.setTop (mkF m 82 #[.val (.int p1), .val (.int p2), .val (.int (0 : Int32)), .val (.ref b39), .val (.int (5 : Int32))] [(.ref w_X)])) (own_ldR X51 hx hZ e51 V51 rfl ⟨by decide, by decide⟩ rfl (g := (mkF m 81 #[.val (.int p1), .val (.int p2), .val (.int (0 : Int32)), .val (.ref b39), .val (.int (5 : Int32))] [(.int (5 : Int32)), (.ref b39)])) rfl rfl (hb hby at_81)) ?_
        obtain ⟨_, T68, L68, X68, ⟨rfl, Nq68, eq68⟩, st68⟩ := own_callV X51 hx hZ hown (ww hw 23 rfl) (ww hw 24 rfl) (notFace_of_selects (args := #[]) (mvT hZ (ww hw 26 rfl))) (ww hw 26 rfl) (ww hw 25 rfl) (ww hw 2 rfl) (ww hw 27 rfl) (by decide) e51 (E_X.ext O51) (rm2 l Z a0 hw [] w_NL w_RS w_RX w_S w_SRX w_X hS w_X (6 : Int32) h51 O51 (F_X_code.ext O51)) 0 (by decide) (by decide) (by decide) (by decide) (g := (mkF m 82 #[.val (.int p1), .val (.int p2), .val (.int (0 : Int32)), .val (.ref b39), .val (.int (5 : Int32))] [(.ref w_X)])) rfl (by rw [hml]; rfl) [] [] rfl (lenOf pd_428473 rfl) rfl (by show 2 * 0 + _ ≤ _; exact Nat.le_of_eq rfl) (hb hby at_82)
        have N68 := Fr.app N51 Nq68
        refine Go.st (S' := T68.setTop (mkF m 85 #[.val (.int p1), .val (.int p2), .val (.int (0 : Int32)), .val (.ref b39), .val (.int (5 : Int32))] [(.int (6 : Int32))])) st68 ?_
        obtain ⟨_, T69, L69, X69, ⟨rfl, Nq69, eq69⟩, st69⟩ := own_callS X68 hx hZ hown (ww hw 0 rfl) (ww hw 1 rfl) (ww hw 2 rfl) (ww hw 3 rfl) (by decide) eq68 (rm1 l Z a0 hw [] w_NL w_RS w_RX w_S w_SRX w_X hS (6 : Int32) (1 : Int32) (by decide) h51 O51) 0 (by decide) (by decide) (by decide) (by decide) (g := (mkF m 85 #[.val (.int p1), .val (.int p2), .val (.int (0 : Int32)), .val (.ref b39), .val (.int (5 : Int32))] [(.int (6 : Int32))])) rfl (by rw [hml]; rfl) [(.int (6 : Int32))] [] rfl (lenOf pd_674845 rfl) rfl (by show 2 * 0 + _ ≤ _; exact Nat.le_of_eq rfl) (hb hby at_85)
        have N69 := Fr.app N68 Nq69
        refine Go.st (S' := T69.setTop (mkF m 88 #[.val (.int p1), .val (.int p2), .val (.int (0 : Int32)), .val (.ref b39), .val (.int (5 : Int32))] [(.int (1 : Int32))])) st69 ?_
        exact own_retN X69 hx hlk hret (by simp) (hb hby at_88) eq69 ⟨rfl, N69⟩ (by decide) (by decide)
    · refine Go.st (S' := T0.setTop (mkF m 11 #[.val (.int p1), .val (.int p2), .unset, .unset, .unset] [])) (fun _ k => XS.icmpNo X0.here hx rfl (hb hby at_8) rfl (flt hc8).2.2.1 k) ?_
      refine Go.st (S' := T0.setTop (mkF m 12 #[.val (.int p1), .val (.int p2), .unset, .unset, .unset] [(.int (1 : Int32))])) (fun _ k => XS.iconst X0.here hx rfl (hb hby at_11) k) ?_
      refine Go.st (S' := T0.setTop (mkF m 16 #[.val (.int p1), .val (.int p2), .unset, .unset, .unset] [(.int (1 : Int32))])) (fun _ k => XS.goto X0.here hx rfl (pc0 := 12) (pc' := 16) rfl (hb hby at_12) (by decide) (by decide) k) ?_
      refine Go.st (S' := T0.setTop (mkF m 17 #[.val (.int p1), .val (.int p2), .val (.int (1 : Int32)), .unset, .unset] [])) (fun _ k => XS.istoreN X0.here hx rfl (hb hby at_16) rfl (l' := #[.val (.int p1), .val (.int p2), .val (.int (1 : Int32)), .unset, .unset]) rfl k) ?_
      refine Go.st (S' := T0.setTop (mkF m 18 #[.val (.int p1), .val (.int p2), .val (.int (1 : Int32)), .unset, .unset] [(.int p1)])) (fun _ k => XS.iloadN X0.here hx rfl (hb hby at_17) rfl k) ?_
      obtain ⟨_, T70, L70, X70, ⟨rfl, Nq70, eq70⟩, st70⟩ := own_callS X0 hx hZ hown (ww hw 0 rfl) (ww hw 1 rfl) (ww hw 2 rfl) (ww hw 3 rfl) (by decide) e0 (rm1 l Z a0 hw [] w_NL w_RS w_RX w_S w_SRX w_X hS p1 (isF p1) rfl h0 O0) 0 (by decide) (by decide) (by decide) (by decide) (g := (mkF m 18 #[.val (.int p1), .val (.int p2), .val (.int (1 : Int32)), .unset, .unset] [(.int p1)])) rfl (by rw [hml]; rfl) [(.int p1)] [] rfl (lenOf pd_674845 rfl) rfl (by show 2 * 0 + _ ≤ _; exact Nat.le_of_eq rfl) (hb hby at_18)
      have N70 := Fr.app N0 Nq70
      refine Go.st (S' := T70.setTop (mkF m 21 #[.val (.int p1), .val (.int p2), .val (.int (1 : Int32)), .unset, .unset] [(.int (isF p1))])) st70 ?_
      refine Go.st (S' := T70.setTop (mkF m 22 #[.val (.int p1), .val (.int p2), .val (.int (1 : Int32)), .unset, .unset] [(.int (1 : Int32)), (.int (isF p1))])) (fun _ k => XS.iloadN X70.here hx rfl (hb hby at_21) rfl k) ?_
      refine Go.st (S' := T70.setTop (mkF m 27 #[.val (.int p1), .val (.int p2), .val (.int (1 : Int32)), .unset, .unset] [])) (fun _ k => XS.icmpYes X70.here hx rfl (pc0 := 22) (pc' := 27) rfl (hb hby at_22) rfl (teq (by simp [isF, hc2, hc8])).1 (by decide) (by decide) k) ?_
      refine Go.st (S' := T70.setTop (mkF m 29 #[.val (.int p1), .val (.int p2), .val (.int (1 : Int32)), .unset, .unset] [(.int (6 : Int32))])) (fun _ k => XS.bipush X70.here hx rfl (hb hby at_27) k) ?_
      obtain ⟨T71, h71, k71, X71, e71, E71, A71, Ov71, st71⟩ := newR X70 hx hZ hown (ww hw 8 rfl) (ww hw 9 rfl) eq70 (g := (mkF m 29 #[.val (.int p1), .val (.int p2), .val (.int (1 : Int32)), .unset, .unset] [(.int (6 : Int32))])) rfl (hb hby at_29) rfl (by decide) (cap := 6) (by decide) (by decide) (by decide) (by decide)
      obtain ⟨b71, g71⟩ : ∃ z, z = h0.size := ⟨_, rfl⟩
      rw [← g71] at A71 st71
      have gz71 : Z.heap.size ≤ b71 := Nat.le_trans O0.1 (Nat.le_of_eq g71.symm)
      have O71 : Ext Z.heap h71 := own_Ext.trans O0 E71
      have V71 : Arv Z h71 b71 k71 (.object "com/example/grendel/grendel/LockMode") (6 : Int32) [.null, .null, .null, .null, .null, .null] .null := (Arv.new A71 (by decide)).pad (pad_rep [] .null 6)
      refine Go.st (S' := T71.setTop (mkF m 32 #[.val (.int p1), .val (.int p2), .val (.int (1 : Int32)), .unset, .unset] [(.ref b71)])) st71 ?_
      refine Go.st (S' := T71.setTop (mkF m 33 #[.val (.int p1), .val (.int p2), .val (.int (1 : Int32)), .unset, .unset] [(.ref b71), (.ref b71)])) (fun _ k => XS.dup X71.here hx rfl (hb hby at_32) rfl rfl k) ?_
      refine Go.st (S' := T71.setTop (mkF m 34 #[.val (.int p1), .val (.int p2), .val (.int (1 : Int32)), .unset, .unset] [(.int (0 : Int32)), (.ref b71), (.ref b71)])) (fun _ k => XS.iconst X71.here hx rfl (hb hby at_33) k) ?_
      obtain ⟨T72, X72, e72, st72⟩ := getS2 X71 hx hZ hown (host := "") (Or.inl (ww hw 10 rfl)) Via.refl e71 (S_NL.ext O71) (g := (mkF m 34 #[.val (.int p1), .val (.int p2), .val (.int (1 : Int32)), .unset, .unset] [(.int (0 : Int32)), (.ref b71), (.ref b71)])) rfl (hb hby at_34)
      refine Go.st (S' := T72.setTop (mkF m 37 #[.val (.int p1), .val (.int p2), .val (.int (1 : Int32)), .unset, .unset] [(.ref w_NL), (.int (0 : Int32)), (.ref b71), (.ref b71)])) st72 ?_
      obtain ⟨T73, h73, X73, e73, W73, V73, st73⟩ := own_stR X72 hx hZ e72 V71 Ov71 (Ins.self (E_NL.ext O71)) (j := (0 : Int32)) ⟨by decide, by decide⟩ 0 rfl (Nat.le_of_ble_eq_true rfl) (g := (mkF m 37 #[.val (.int p1), .val (.int p2), .val (.int (1 : Int32)), .unset, .unset] [(.ref w_NL), (.int (0 : Int32)), (.ref b71), (.ref b71)])) rfl rfl (hb hby at_37)
      have N73 := Fr.snoc X73 N70 gz71
      have V73 : Arv Z h73 b71 k71 (.object "com/example/grendel/grendel/LockMode") (6 : Int32) [(.ref w_NL), .null, .null, .null, .null, .null] .null := V73
      have O73 : Ext Z.heap h73 := own_Ext.wr O71 W73 gz71
      refine Go.st (S' := T73.setTop (mkF m 38 #[.val (.int p1), .val (.int p2), .val (.int (1 : Int32)), .unset, .unset] [(.ref b71)])) st73 ?_
      refine Go.st (S' := T73.setTop (mkF m 39 #[.val (.int p1), .val (.int p2), .val (.int (1 : Int32)), .unset, .unset] [(.ref b71), (.ref b71)])) (fun _ k => XS.dup X73.here hx rfl (hb hby at_38) rfl rfl k) ?_
      refine Go.st (S' := T73.setTop (mkF m 40 #[.val (.int p1), .val (.int p2), .val (.int (1 : Int32)), .unset, .unset] [(.int (1 : Int32)), (.ref b71), (.ref b71)])) (fun _ k => XS.iconst X73.here hx rfl (hb hby at_39) k) ?_
      obtain ⟨T74, X74, e74, st74⟩ := getS2 X73 hx hZ hown (host := "") (Or.inl (ww hw 12 rfl)) Via.refl e73 (S_RS.ext O73) (g := (mkF m 40 #[.val (.int p1), .val (.int p2), .val (.int (1 : Int32)), .unset, .unset] [(.int (1 : Int32)), (.ref b71), (.ref b71)])) rfl (hb hby at_40)
      refine Go.st (S' := T74.setTop (mkF m 43 #[.val (.int p1), .val (.int p2), .val (.int (1 : Int32)), .unset, .unset] [(.ref w_RS), (.int (1 : Int32)), (.ref b71), (.ref b71)])) st74 ?_
      obtain ⟨T75, h75, X75, e75, W75, V75, st75⟩ := own_stR X74 hx hZ e74 V73 Ov71 (Ins.self (E_RS.ext O73)) (j := (1 : Int32)) ⟨by decide, by decide⟩ 1 rfl (Nat.le_of_ble_eq_true rfl) (g := (mkF m 43 #[.val (.int p1), .val (.int p2), .val (.int (1 : Int32)), .unset, .unset] [(.ref w_RS), (.int (1 : Int32)), (.ref b71), (.ref b71)])) rfl rfl (hb hby at_43)
      have N75 := Fr.snoc X75 N73 gz71
      have V75 : Arv Z h75 b71 k71 (.object "com/example/grendel/grendel/LockMode") (6 : Int32) [(.ref w_NL), (.ref w_RS), .null, .null, .null, .null] .null := V75
      have O75 : Ext Z.heap h75 := own_Ext.wr O73 W75 gz71
      refine Go.st (S' := T75.setTop (mkF m 44 #[.val (.int p1), .val (.int p2), .val (.int (1 : Int32)), .unset, .unset] [(.ref b71)])) st75 ?_
      refine Go.st (S' := T75.setTop (mkF m 45 #[.val (.int p1), .val (.int p2), .val (.int (1 : Int32)), .unset, .unset] [(.ref b71), (.ref b71)])) (fun _ k => XS.dup X75.here hx rfl (hb hby at_44) rfl rfl k) ?_
      refine Go.st (S' := T75.setTop (mkF m 46 #[.val (.int p1), .val (.int p2), .val (.int (1 : Int32)), .unset, .unset] [(.int (2 : Int32)), (.ref b71), (.ref b71)])) (fun _ k => XS.iconst X75.here hx rfl (hb hby at_45) k) ?_
      obtain ⟨T76, X76, e76, st76⟩ := getS2 X75 hx hZ hown (host := "") (Or.inl (ww hw 14 rfl)) Via.refl e75 (S_RX.ext O75) (g := (mkF m 46 #[.val (.int p1), .val (.int p2), .val (.int (1 : Int32)), .unset, .unset] [(.int (2 : Int32)), (.ref b71), (.ref b71)])) rfl (hb hby at_46)
      refine Go.st (S' := T76.setTop (mkF m 49 #[.val (.int p1), .val (.int p2), .val (.int (1 : Int32)), .unset, .unset] [(.ref w_RX), (.int (2 : Int32)), (.ref b71), (.ref b71)])) st76 ?_
      obtain ⟨T77, h77, X77, e77, W77, V77, st77⟩ := own_stR X76 hx hZ e76 V75 Ov71 (Ins.self (E_RX.ext O75)) (j := (2 : Int32)) ⟨by decide, by decide⟩ 2 rfl (Nat.le_of_ble_eq_true rfl) (g := (mkF m 49 #[.val (.int p1), .val (.int p2), .val (.int (1 : Int32)), .unset, .unset] [(.ref w_RX), (.int (2 : Int32)), (.ref b71), (.ref b71)])) rfl rfl (hb hby at_49)
      have N77 := Fr.snoc X77 N75 gz71
      have V77 : Arv Z h77 b71 k71 (.object "com/example/grendel/grendel/LockMode") (6 : Int32) [(.ref w_NL), (.ref w_RS), (.ref w_RX), .null, .null, .null] .null := V77
      have O77 : Ext Z.heap h77 := own_Ext.wr O75 W77 gz71
      refine Go.st (S' := T77.setTop (mkF m 50 #[.val (.int p1), .val (.int p2), .val (.int (1 : Int32)), .unset, .unset] [(.ref b71)])) st77 ?_
      refine Go.st (S' := T77.setTop (mkF m 51 #[.val (.int p1), .val (.int p2), .val (.int (1 : Int32)), .unset, .unset] [(.ref b71), (.ref b71)])) (fun _ k => XS.dup X77.here hx rfl (hb hby at_50) rfl rfl k) ?_
      refine Go.st (S' := T77.setTop (mkF m 52 #[.val (.int p1), .val (.int p2), .val (.int (1 : Int32)), .unset, .unset] [(.int (3 : Int32)), (.ref b71), (.ref b71)])) (fun _ k => XS.iconst X77.here hx rfl (hb hby at_51) k) ?_
      obtain ⟨T78, X78, e78, st78⟩ := getS2 X77 hx hZ hown (host := "") (Or.inl (ww hw 16 rfl)) Via.refl e77 (S_S.ext O77) (g := (mkF m 52 #[.val (.int p1), .val (.int p2), .val (.int (1 : Int32)), .unset, .unset] [(.int (3 : Int32)), (.ref b71), (.ref b71)])) rfl (hb hby at_52)
      refine Go.st (S' := T78.setTop (mkF m 55 #[.val (.int p1), .val (.int p2), .val (.int (1 : Int32)), .unset, .unset] [(.ref w_S), (.int (3 : Int32)), (.ref b71), (.ref b71)])) st78 ?_
      obtain ⟨T79, h79, X79, e79, W79, V79, st79⟩ := own_stR X78 hx hZ e78 V77 Ov71 (Ins.self (E_S.ext O77)) (j := (3 : Int32)) ⟨by decide, by decide⟩ 3 rfl (Nat.le_of_ble_eq_true rfl) (g := (mkF m 55 #[.val (.int p1), .val (.int p2), .val (.int (1 : Int32)), .unset, .unset] [(.ref w_S), (.int (3 : Int32)), (.ref b71), (.ref b71)])) rfl rfl (hb hby at_55)
      have N79 := Fr.snoc X79 N77 gz71
      have V79 : Arv Z h79 b71 k71 (.object "com/example/grendel/grendel/LockMode") (6 : Int32) [(.ref w_NL), (.ref w_RS), (.ref w_RX), (.ref w_S), .null, .null] .null := V79
      have O79 : Ext Z.heap h79 := own_Ext.wr O77 W79 gz71
      refine Go.st (S' := T79.setTop (mkF m 56 #[.val (.int p1), .val (.int p2), .val (.int (1 : Int32)), .unset, .unset] [(.ref b71)])) st79 ?_
      refine Go.st (S' := T79.setTop (mkF m 57 #[.val (.int p1), .val (.int p2), .val (.int (1 : Int32)), .unset, .unset] [(.ref b71), (.ref b71)])) (fun _ k => XS.dup X79.here hx rfl (hb hby at_56) rfl rfl k) ?_
      refine Go.st (S' := T79.setTop (mkF m 58 #[.val (.int p1), .val (.int p2), .val (.int (1 : Int32)), .unset, .unset] [(.int (4 : Int32)), (.ref b71), (.ref b71)])) (fun _ k => XS.iconst X79.here hx rfl (hb hby at_57) k) ?_
      obtain ⟨T80, X80, e80, st80⟩ := getS2 X79 hx hZ hown (host := "") (Or.inl (ww hw 18 rfl)) Via.refl e79 (S_SRX.ext O79) (g := (mkF m 58 #[.val (.int p1), .val (.int p2), .val (.int (1 : Int32)), .unset, .unset] [(.int (4 : Int32)), (.ref b71), (.ref b71)])) rfl (hb hby at_58)
      refine Go.st (S' := T80.setTop (mkF m 61 #[.val (.int p1), .val (.int p2), .val (.int (1 : Int32)), .unset, .unset] [(.ref w_SRX), (.int (4 : Int32)), (.ref b71), (.ref b71)])) st80 ?_
      obtain ⟨T81, h81, X81, e81, W81, V81, st81⟩ := own_stR X80 hx hZ e80 V79 Ov71 (Ins.self (E_SRX.ext O79)) (j := (4 : Int32)) ⟨by decide, by decide⟩ 4 rfl (Nat.le_of_ble_eq_true rfl) (g := (mkF m 61 #[.val (.int p1), .val (.int p2), .val (.int (1 : Int32)), .unset, .unset] [(.ref w_SRX), (.int (4 : Int32)), (.ref b71), (.ref b71)])) rfl rfl (hb hby at_61)
      have N81 := Fr.snoc X81 N79 gz71
      have V81 : Arv Z h81 b71 k71 (.object "com/example/grendel/grendel/LockMode") (6 : Int32) [(.ref w_NL), (.ref w_RS), (.ref w_RX), (.ref w_S), (.ref w_SRX), .null] .null := V81
      have O81 : Ext Z.heap h81 := own_Ext.wr O79 W81 gz71
      refine Go.st (S' := T81.setTop (mkF m 62 #[.val (.int p1), .val (.int p2), .val (.int (1 : Int32)), .unset, .unset] [(.ref b71)])) st81 ?_
      refine Go.st (S' := T81.setTop (mkF m 63 #[.val (.int p1), .val (.int p2), .val (.int (1 : Int32)), .unset, .unset] [(.ref b71), (.ref b71)])) (fun _ k => XS.dup X81.here hx rfl (hb hby at_62) rfl rfl k) ?_
      refine Go.st (S' := T81.setTop (mkF m 64 #[.val (.int p1), .val (.int p2), .val (.int (1 : Int32)), .unset, .unset] [(.int (5 : Int32)), (.ref b71), (.ref b71)])) (fun _ k => XS.iconst X81.here hx rfl (hb hby at_63) k) ?_
      obtain ⟨T82, X82, e82, st82⟩ := getS2 X81 hx hZ hown (host := "") (Or.inl (ww hw 20 rfl)) Via.refl e81 (S_X.ext O81) (g := (mkF m 64 #[.val (.int p1), .val (.int p2), .val (.int (1 : Int32)), .unset, .unset] [(.int (5 : Int32)), (.ref b71), (.ref b71)])) rfl (hb hby at_64)
      refine Go.st (S' := T82.setTop (mkF m 67 #[.val (.int p1), .val (.int p2), .val (.int (1 : Int32)), .unset, .unset] [(.ref w_X), (.int (5 : Int32)), (.ref b71), (.ref b71)])) st82 ?_
      obtain ⟨T83, h83, X83, e83, W83, V83, st83⟩ := own_stR X82 hx hZ e82 V81 Ov71 (Ins.self (E_X.ext O81)) (j := (5 : Int32)) ⟨by decide, by decide⟩ 5 rfl (Nat.le_of_ble_eq_true rfl) (g := (mkF m 67 #[.val (.int p1), .val (.int p2), .val (.int (1 : Int32)), .unset, .unset] [(.ref w_X), (.int (5 : Int32)), (.ref b71), (.ref b71)])) rfl rfl (hb hby at_67)
      have N83 := Fr.snoc X83 N81 gz71
      have V83 : Arv Z h83 b71 k71 (.object "com/example/grendel/grendel/LockMode") (6 : Int32) [(.ref w_NL), (.ref w_RS), (.ref w_RX), (.ref w_S), (.ref w_SRX), (.ref w_X)] .null := V83
      have O83 : Ext Z.heap h83 := own_Ext.wr O81 W83 gz71
      refine Go.st (S' := T83.setTop (mkF m 68 #[.val (.int p1), .val (.int p2), .val (.int (1 : Int32)), .unset, .unset] [(.ref b71)])) st83 ?_
      refine Go.st (S' := T83.setTop (mkF m 69 #[.val (.int p1), .val (.int p2), .val (.int (1 : Int32)), .val (.ref b71), .unset] [])) (fun _ k => XS.astoreN X83.here hx rfl (hb hby at_68) rfl rfl (l' := #[.val (.int p1), .val (.int p2), .val (.int (1 : Int32)), .val (.ref b71), .unset]) rfl k) ?_
      refine Go.st (S' := T83.setTop (mkF m 70 #[.val (.int p1), .val (.int p2), .val (.int (1 : Int32)), .val (.ref b71), .unset] [(.int p2)])) (fun _ k => XS.iloadN X83.here hx rfl (hb hby at_69) rfl k) ?_
      refine Go.st (S' := T83.setTop (mkF m 72 #[.val (.int p1), .val (.int p2), .val (.int (1 : Int32)), .val (.ref b71), .unset] [(.int (2147483647 : Int32)), (.int p2)])) (X83.ldcInt hx hown (mvT hZ (ww hw 22 rfl)) (g := (mkF m 70 #[.val (.int p1), .val (.int p2), .val (.int (1 : Int32)), .val (.ref b71), .unset] [(.int p2)])) rfl (hb hby at_70)) ?_
      refine Go.st (S' := T83.setTop (mkF m 73 #[.val (.int p1), .val (.int p2), .val (.int (1 : Int32)), .val (.ref b71), .unset] [(.int (p2 &&& (2147483647 : Int32)))])) (fun _ k => XS.iand X83.here hx rfl (hb hby at_72) rfl k) ?_
      refine Go.st (S' := T83.setTop (mkF m 75 #[.val (.int p1), .val (.int p2), .val (.int (1 : Int32)), .val (.ref b71), .unset] [(.int (6 : Int32)), (.int (p2 &&& (2147483647 : Int32)))])) (fun _ k => XS.bipush X83.here hx rfl (hb hby at_73) k) ?_
      refine Go.st (S' := T83.setTop (mkF m 76 #[.val (.int p1), .val (.int p2), .val (.int (1 : Int32)), .val (.ref b71), .unset] [(.int ((p2 &&& (2147483647 : Int32)) % (6 : Int32)))])) (fun _ k => iremM X83 hx rfl (hb hby at_75) rfl (by decide) k) ?_
      rcases own_rem6 p2 with hk | hk | hk | hk | hk | hk
      · refine Go.st (S' := T83.setTop (mkF m 76 #[.val (.int p1), .val (.int p2), .val (.int (1 : Int32)), .val (.ref b71), .unset] [(.int (0 : Int32))])) (fun _ k => by rw [hk]; exact k) ?_
        refine Go.st (S' := T83.setTop (mkF m 78 #[.val (.int p1), .val (.int p2), .val (.int (1 : Int32)), .val (.ref b71), .val (.int (0 : Int32))] [])) (fun _ k => XS.istore X83.here hx rfl (hb hby at_76) rfl (l' := #[.val (.int p1), .val (.int p2), .val (.int (1 : Int32)), .val (.ref b71), .val (.int (0 : Int32))]) rfl k) ?_
        refine Go.st (S' := T83.setTop (mkF m 79 #[.val (.int p1), .val (.int p2), .val (.int (1 : Int32)), .val (.ref b71), .val (.int (0 : Int32))] [(.ref b71)])) (fun _ k => XS.aloadN X83.here hx rfl (hb hby at_78) rfl rfl k) ?_
        refine Go.st (S' := T83.setTop (mkF m 81 #[.val (.int p1), .val (.int p2), .val (.int (1 : Int32)), .val (.ref b71), .val (.int (0 : Int32))] [(.int (0 : Int32)), (.ref b71)])) (fun _ k => XS.iload X83.here hx rfl (hb hby at_79) rfl k) ?_
        refine Go.st (S' := T83.setTop (mkF m 82 #[.val (.int p1), .val (.int p2), .val (.int (1 : Int32)), .val (.ref b71), .val (.int (0 : Int32))] [(.ref w_NL)])) (own_ldR X83 hx hZ e83 V83 rfl ⟨by decide, by decide⟩ rfl (g := (mkF m 81 #[.val (.int p1), .val (.int p2), .val (.int (1 : Int32)), .val (.ref b71), .val (.int (0 : Int32))] [(.int (0 : Int32)), (.ref b71)])) rfl rfl (hb hby at_81)) ?_
        obtain ⟨_, T85, L85, X85, ⟨rfl, Nq85, eq85⟩, st85⟩ := own_callV X83 hx hZ hown (ww hw 23 rfl) (ww hw 24 rfl) (notFace_of_selects (args := #[]) (mvT hZ (ww hw 26 rfl))) (ww hw 26 rfl) (ww hw 25 rfl) (ww hw 2 rfl) (ww hw 27 rfl) (by decide) e83 (E_NL.ext O83) (rm2 l Z a0 hw [] w_NL w_RS w_RX w_S w_SRX w_X hS w_NL (1 : Int32) h83 O83 (F_NL_code.ext O83)) 0 (by decide) (by decide) (by decide) (by decide) (g := (mkF m 82 #[.val (.int p1), .val (.int p2), .val (.int (1 : Int32)), .val (.ref b71), .val (.int (0 : Int32))] [(.ref w_NL)])) rfl (by rw [hml]; rfl) [] [] rfl (lenOf pd_428473 rfl) rfl (by show 2 * 0 + _ ≤ _; exact Nat.le_of_eq rfl) (hb hby at_82)
        have N85 := Fr.app N83 Nq85
        refine Go.st (S' := T85.setTop (mkF m 85 #[.val (.int p1), .val (.int p2), .val (.int (1 : Int32)), .val (.ref b71), .val (.int (0 : Int32))] [(.int (1 : Int32))])) st85 ?_
        obtain ⟨_, T86, L86, X86, ⟨rfl, Nq86, eq86⟩, st86⟩ := own_callS X85 hx hZ hown (ww hw 0 rfl) (ww hw 1 rfl) (ww hw 2 rfl) (ww hw 3 rfl) (by decide) eq85 (rm1 l Z a0 hw [] w_NL w_RS w_RX w_S w_SRX w_X hS (1 : Int32) (1 : Int32) (by decide) h83 O83) 0 (by decide) (by decide) (by decide) (by decide) (g := (mkF m 85 #[.val (.int p1), .val (.int p2), .val (.int (1 : Int32)), .val (.ref b71), .val (.int (0 : Int32))] [(.int (1 : Int32))])) rfl (by rw [hml]; rfl) [(.int (1 : Int32))] [] rfl (lenOf pd_674845 rfl) rfl (by show 2 * 0 + _ ≤ _; exact Nat.le_of_eq rfl) (hb hby at_85)
        have N86 := Fr.app N85 Nq86
        refine Go.st (S' := T86.setTop (mkF m 88 #[.val (.int p1), .val (.int p2), .val (.int (1 : Int32)), .val (.ref b71), .val (.int (0 : Int32))] [(.int (1 : Int32))])) st86 ?_
        exact own_retN X86 hx hlk hret (by simp) (hb hby at_88) eq86 ⟨rfl, N86⟩ (by decide) (by decide)
      · refine Go.st (S' := T83.setTop (mkF m 76 #[.val (.int p1), .val (.int p2), .val (.int (1 : Int32)), .val (.ref b71), .unset] [(.int (1 : Int32))])) (fun _ k => by rw [hk]; exact k) ?_
        refine Go.st (S' := T83.setTop (mkF m 78 #[.val (.int p1), .val (.int p2), .val (.int (1 : Int32)), .val (.ref b71), .val (.int (1 : Int32))] [])) (fun _ k => XS.istore X83.here hx rfl (hb hby at_76) rfl (l' := #[.val (.int p1), .val (.int p2), .val (.int (1 : Int32)), .val (.ref b71), .val (.int (1 : Int32))]) rfl k) ?_
        refine Go.st (S' := T83.setTop (mkF m 79 #[.val (.int p1), .val (.int p2), .val (.int (1 : Int32)), .val (.ref b71), .val (.int (1 : Int32))] [(.ref b71)])) (fun _ k => XS.aloadN X83.here hx rfl (hb hby at_78) rfl rfl k) ?_
        refine Go.st (S' := T83.setTop (mkF m 81 #[.val (.int p1), .val (.int p2), .val (.int (1 : Int32)), .val (.ref b71), .val (.int (1 : Int32))] [(.int (1 : Int32)), (.ref b71)])) (fun _ k => XS.iload X83.here hx rfl (hb hby at_79) rfl k) ?_
        refine Go.st (S' := T83.setTop (mkF m 82 #[.val (.int p1), .val (.int p2), .val (.int (1 : Int32)), .val (.ref b71), .val (.int (1 : Int32))] [(.ref w_RS)])) (own_ldR X83 hx hZ e83 V83 rfl ⟨by decide, by decide⟩ rfl (g := (mkF m 81 #[.val (.int p1), .val (.int p2), .val (.int (1 : Int32)), .val (.ref b71), .val (.int (1 : Int32))] [(.int (1 : Int32)), (.ref b71)])) rfl rfl (hb hby at_81)) ?_
        obtain ⟨_, T88, L88, X88, ⟨rfl, Nq88, eq88⟩, st88⟩ := own_callV X83 hx hZ hown (ww hw 23 rfl) (ww hw 24 rfl) (notFace_of_selects (args := #[]) (mvT hZ (ww hw 26 rfl))) (ww hw 26 rfl) (ww hw 25 rfl) (ww hw 2 rfl) (ww hw 27 rfl) (by decide) e83 (E_RS.ext O83) (rm2 l Z a0 hw [] w_NL w_RS w_RX w_S w_SRX w_X hS w_RS (2 : Int32) h83 O83 (F_RS_code.ext O83)) 0 (by decide) (by decide) (by decide) (by decide) (g := (mkF m 82 #[.val (.int p1), .val (.int p2), .val (.int (1 : Int32)), .val (.ref b71), .val (.int (1 : Int32))] [(.ref w_RS)])) rfl (by rw [hml]; rfl) [] [] rfl (lenOf pd_428473 rfl) rfl (by show 2 * 0 + _ ≤ _; exact Nat.le_of_eq rfl) (hb hby at_82)
        have N88 := Fr.app N83 Nq88
        refine Go.st (S' := T88.setTop (mkF m 85 #[.val (.int p1), .val (.int p2), .val (.int (1 : Int32)), .val (.ref b71), .val (.int (1 : Int32))] [(.int (2 : Int32))])) st88 ?_
        obtain ⟨_, T89, L89, X89, ⟨rfl, Nq89, eq89⟩, st89⟩ := own_callS X88 hx hZ hown (ww hw 0 rfl) (ww hw 1 rfl) (ww hw 2 rfl) (ww hw 3 rfl) (by decide) eq88 (rm1 l Z a0 hw [] w_NL w_RS w_RX w_S w_SRX w_X hS (2 : Int32) (1 : Int32) (by decide) h83 O83) 0 (by decide) (by decide) (by decide) (by decide) (g := (mkF m 85 #[.val (.int p1), .val (.int p2), .val (.int (1 : Int32)), .val (.ref b71), .val (.int (1 : Int32))] [(.int (2 : Int32))])) rfl (by rw [hml]; rfl) [(.int (2 : Int32))] [] rfl (lenOf pd_674845 rfl) rfl (by show 2 * 0 + _ ≤ _; exact Nat.le_of_eq rfl) (hb hby at_85)
        have N89 := Fr.app N88 Nq89
        refine Go.st (S' := T89.setTop (mkF m 88 #[.val (.int p1), .val (.int p2), .val (.int (1 : Int32)), .val (.ref b71), .val (.int (1 : Int32))] [(.int (1 : Int32))])) st89 ?_
        exact own_retN X89 hx hlk hret (by simp) (hb hby at_88) eq89 ⟨rfl, N89⟩ (by decide) (by decide)
      · refine Go.st (S' := T83.setTop (mkF m 76 #[.val (.int p1), .val (.int p2), .val (.int (1 : Int32)), .val (.ref b71), .unset] [(.int (2 : Int32))])) (fun _ k => by rw [hk]; exact k) ?_
        refine Go.st (S' := T83.setTop (mkF m 78 #[.val (.int p1), .val (.int p2), .val (.int (1 : Int32)), .val (.ref b71), .val (.int (2 : Int32))] [])) (fun _ k => XS.istore X83.here hx rfl (hb hby at_76) rfl (l' := #[.val (.int p1), .val (.int p2), .val (.int (1 : Int32)), .val (.ref b71), .val (.int (2 : Int32))]) rfl k) ?_
        refine Go.st (S' := T83.setTop (mkF m 79 #[.val (.int p1), .val (.int p2), .val (.int (1 : Int32)), .val (.ref b71), .val (.int (2 : Int32))] [(.ref b71)])) (fun _ k => XS.aloadN X83.here hx rfl (hb hby at_78) rfl rfl k) ?_
        refine Go.st (S' := T83.setTop (mkF m 81 #[.val (.int p1), .val (.int p2), .val (.int (1 : Int32)), .val (.ref b71), .val (.int (2 : Int32))] [(.int (2 : Int32)), (.ref b71)])) (fun _ k => XS.iload X83.here hx rfl (hb hby at_79) rfl k) ?_
        refine Go.st (S' := T83.setTop (mkF m 82 #[.val (.int p1), .val (.int p2), .val (.int (1 : Int32)), .val (.ref b71), .val (.int (2 : Int32))] [(.ref w_RX)])) (own_ldR X83 hx hZ e83 V83 rfl ⟨by decide, by decide⟩ rfl (g := (mkF m 81 #[.val (.int p1), .val (.int p2), .val (.int (1 : Int32)), .val (.ref b71), .val (.int (2 : Int32))] [(.int (2 : Int32)), (.ref b71)])) rfl rfl (hb hby at_81)) ?_
        obtain ⟨_, T91, L91, X91, ⟨rfl, Nq91, eq91⟩, st91⟩ := own_callV X83 hx hZ hown (ww hw 23 rfl) (ww hw 24 rfl) (notFace_of_selects (args := #[]) (mvT hZ (ww hw 26 rfl))) (ww hw 26 rfl) (ww hw 25 rfl) (ww hw 2 rfl) (ww hw 27 rfl) (by decide) e83 (E_RX.ext O83) (rm2 l Z a0 hw [] w_NL w_RS w_RX w_S w_SRX w_X hS w_RX (3 : Int32) h83 O83 (F_RX_code.ext O83)) 0 (by decide) (by decide) (by decide) (by decide) (g := (mkF m 82 #[.val (.int p1), .val (.int p2), .val (.int (1 : Int32)), .val (.ref b71), .val (.int (2 : Int32))] [(.ref w_RX)])) rfl (by rw [hml]; rfl) [] [] rfl (lenOf pd_428473 rfl) rfl (by show 2 * 0 + _ ≤ _; exact Nat.le_of_eq rfl) (hb hby at_82)
        have N91 := Fr.app N83 Nq91
        refine Go.st (S' := T91.setTop (mkF m 85 #[.val (.int p1), .val (.int p2), .val (.int (1 : Int32)), .val (.ref b71), .val (.int (2 : Int32))] [(.int (3 : Int32))])) st91 ?_
        obtain ⟨_, T92, L92, X92, ⟨rfl, Nq92, eq92⟩, st92⟩ := own_callS X91 hx hZ hown (ww hw 0 rfl) (ww hw 1 rfl) (ww hw 2 rfl) (ww hw 3 rfl) (by decide) eq91 (rm1 l Z a0 hw [] w_NL w_RS w_RX w_S w_SRX w_X hS (3 : Int32) (1 : Int32) (by decide) h83 O83) 0 (by decide) (by decide) (by decide) (by decide) (g := (mkF m 85 #[.val (.int p1), .val (.int p2), .val (.int (1 : Int32)), .val (.ref b71), .val (.int (2 : Int32))] [(.int (3 : Int32))])) rfl (by rw [hml]; rfl) [(.int (3 : Int32))] [] rfl (lenOf pd_674845 rfl) rfl (by show 2 * 0 + _ ≤ _; exact Nat.le_of_eq rfl) (hb hby at_85)
        have N92 := Fr.app N91 Nq92
        refine Go.st (S' := T92.setTop (mkF m 88 #[.val (.int p1), .val (.int p2), .val (.int (1 : Int32)), .val (.ref b71), .val (.int (2 : Int32))] [(.int (1 : Int32))])) st92 ?_
        exact own_retN X92 hx hlk hret (by simp) (hb hby at_88) eq92 ⟨rfl, N92⟩ (by decide) (by decide)
      · refine Go.st (S' := T83.setTop (mkF m 76 #[.val (.int p1), .val (.int p2), .val (.int (1 : Int32)), .val (.ref b71), .unset] [(.int (3 : Int32))])) (fun _ k => by rw [hk]; exact k) ?_
        refine Go.st (S' := T83.setTop (mkF m 78 #[.val (.int p1), .val (.int p2), .val (.int (1 : Int32)), .val (.ref b71), .val (.int (3 : Int32))] [])) (fun _ k => XS.istore X83.here hx rfl (hb hby at_76) rfl (l' := #[.val (.int p1), .val (.int p2), .val (.int (1 : Int32)), .val (.ref b71), .val (.int (3 : Int32))]) rfl k) ?_
        refine Go.st (S' := T83.setTop (mkF m 79 #[.val (.int p1), .val (.int p2), .val (.int (1 : Int32)), .val (.ref b71), .val (.int (3 : Int32))] [(.ref b71)])) (fun _ k => XS.aloadN X83.here hx rfl (hb hby at_78) rfl rfl k) ?_
        refine Go.st (S' := T83.setTop (mkF m 81 #[.val (.int p1), .val (.int p2), .val (.int (1 : Int32)), .val (.ref b71), .val (.int (3 : Int32))] [(.int (3 : Int32)), (.ref b71)])) (fun _ k => XS.iload X83.here hx rfl (hb hby at_79) rfl k) ?_
        refine Go.st (S' := T83.setTop (mkF m 82 #[.val (.int p1), .val (.int p2), .val (.int (1 : Int32)), .val (.ref b71), .val (.int (3 : Int32))] [(.ref w_S)])) (own_ldR X83 hx hZ e83 V83 rfl ⟨by decide, by decide⟩ rfl (g := (mkF m 81 #[.val (.int p1), .val (.int p2), .val (.int (1 : Int32)), .val (.ref b71), .val (.int (3 : Int32))] [(.int (3 : Int32)), (.ref b71)])) rfl rfl (hb hby at_81)) ?_
        obtain ⟨_, T94, L94, X94, ⟨rfl, Nq94, eq94⟩, st94⟩ := own_callV X83 hx hZ hown (ww hw 23 rfl) (ww hw 24 rfl) (notFace_of_selects (args := #[]) (mvT hZ (ww hw 26 rfl))) (ww hw 26 rfl) (ww hw 25 rfl) (ww hw 2 rfl) (ww hw 27 rfl) (by decide) e83 (E_S.ext O83) (rm2 l Z a0 hw [] w_NL w_RS w_RX w_S w_SRX w_X hS w_S (4 : Int32) h83 O83 (F_S_code.ext O83)) 0 (by decide) (by decide) (by decide) (by decide) (g := (mkF m 82 #[.val (.int p1), .val (.int p2), .val (.int (1 : Int32)), .val (.ref b71), .val (.int (3 : Int32))] [(.ref w_S)])) rfl (by rw [hml]; rfl) [] [] rfl (lenOf pd_428473 rfl) rfl (by show 2 * 0 + _ ≤ _; exact Nat.le_of_eq rfl) (hb hby at_82)
        have N94 := Fr.app N83 Nq94
        refine Go.st (S' := T94.setTop (mkF m 85 #[.val (.int p1), .val (.int p2), .val (.int (1 : Int32)), .val (.ref b71), .val (.int (3 : Int32))] [(.int (4 : Int32))])) st94 ?_
        obtain ⟨_, T95, L95, X95, ⟨rfl, Nq95, eq95⟩, st95⟩ := own_callS X94 hx hZ hown (ww hw 0 rfl) (ww hw 1 rfl) (ww hw 2 rfl) (ww hw 3 rfl) (by decide) eq94 (rm1 l Z a0 hw [] w_NL w_RS w_RX w_S w_SRX w_X hS (4 : Int32) (1 : Int32) (by decide) h83 O83) 0 (by decide) (by decide) (by decide) (by decide) (g := (mkF m 85 #[.val (.int p1), .val (.int p2), .val (.int (1 : Int32)), .val (.ref b71), .val (.int (3 : Int32))] [(.int (4 : Int32))])) rfl (by rw [hml]; rfl) [(.int (4 : Int32))] [] rfl (lenOf pd_674845 rfl) rfl (by show 2 * 0 + _ ≤ _; exact Nat.le_of_eq rfl) (hb hby at_85)
        have N95 := Fr.app N94 Nq95
        refine Go.st (S' := T95.setTop (mkF m 88 #[.val (.int p1), .val (.int p2), .val (.int (1 : Int32)), .val (.ref b71), .val (.int (3 : Int32))] [(.int (1 : Int32))])) st95 ?_
        exact own_retN X95 hx hlk hret (by simp) (hb hby at_88) eq95 ⟨rfl, N95⟩ (by decide) (by decide)
      · refine Go.st (S' := T83.setTop (mkF m 76 #[.val (.int p1), .val (.int p2), .val (.int (1 : Int32)), .val (.ref b71), .unset] [(.int (4 : Int32))])) (fun _ k => by rw [hk]; exact k) ?_
        refine Go.st (S' := T83.setTop (mkF m 78 #[.val (.int p1), .val (.int p2), .val (.int (1 : Int32)), .val (.ref b71), .val (.int (4 : Int32))] [])) (fun _ k => XS.istore X83.here hx rfl (hb hby at_76) rfl (l' := #[.val (.int p1), .val (.int p2), .val (.int (1 : Int32)), .val (.ref b71), .val (.int (4 : Int32))]) rfl k) ?_
        refine Go.st (S' := T83.setTop (mkF m 79 #[.val (.int p1), .val (.int p2), .val (.int (1 : Int32)), .val (.ref b71), .val (.int (4 : Int32))] [(.ref b71)])) (fun _ k => XS.aloadN X83.here hx rfl (hb hby at_78) rfl rfl k) ?_
        refine Go.st (S' := T83.setTop (mkF m 81 #[.val (.int p1), .val (.int p2), .val (.int (1 : Int32)), .val (.ref b71), .val (.int (4 : Int32))] [(.int (4 : Int32)), (.ref b71)])) (fun _ k => XS.iload X83.here hx rfl (hb hby at_79) rfl k) ?_
        refine Go.st (S' := T83.setTop (mkF m 82 #[.val (.int p1), .val (.int p2), .val (.int (1 : Int32)), .val (.ref b71), .val (.int (4 : Int32))] [(.ref w_SRX)])) (own_ldR X83 hx hZ e83 V83 rfl ⟨by decide, by decide⟩ rfl (g := (mkF m 81 #[.val (.int p1), .val (.int p2), .val (.int (1 : Int32)), .val (.ref b71), .val (.int (4 : Int32))] [(.int (4 : Int32)), (.ref b71)])) rfl rfl (hb hby at_81)) ?_
        obtain ⟨_, T97, L97, X97, ⟨rfl, Nq97, eq97⟩, st97⟩ := own_callV X83 hx hZ hown (ww hw 23 rfl) (ww hw 24 rfl) (notFace_of_selects (args := #[]) (mvT hZ (ww hw 26 rfl))) (ww hw 26 rfl) (ww hw 25 rfl) (ww hw 2 rfl) (ww hw 27 rfl) (by decide) e83 (E_SRX.ext O83) (rm2 l Z a0 hw [] w_NL w_RS w_RX w_S w_SRX w_X hS w_SRX (5 : Int32) h83 O83 (F_SRX_code.ext O83)) 0 (by decide) (by decide) (by decide) (by decide) (g := (mkF m 82 #[.val (.int p1), .val (.int p2), .val (.int (1 : Int32)), .val (.ref b71), .val (.int (4 : Int32))] [(.ref w_SRX)])) rfl (by rw [hml]; rfl) [] [] rfl (lenOf pd_428473 rfl) rfl (by show 2 * 0 + _ ≤ _; exact Nat.le_of_eq rfl) (hb hby at_82)
        have N97 := Fr.app N83 Nq97
        refine Go.st (S' := T97.setTop (mkF m 85 #[.val (.int p1), .val (.int p2), .val (.int (1 : Int32)), .val (.ref b71), .val (.int (4 : Int32))] [(.int (5 : Int32))])) st97 ?_
        obtain ⟨_, T98, L98, X98, ⟨rfl, Nq98, eq98⟩, st98⟩ := own_callS X97 hx hZ hown (ww hw 0 rfl) (ww hw 1 rfl) (ww hw 2 rfl) (ww hw 3 rfl) (by decide) eq97 (rm1 l Z a0 hw [] w_NL w_RS w_RX w_S w_SRX w_X hS (5 : Int32) (1 : Int32) (by decide) h83 O83) 0 (by decide) (by decide) (by decide) (by decide) (g := (mkF m 85 #[.val (.int p1), .val (.int p2), .val (.int (1 : Int32)), .val (.ref b71), .val (.int (4 : Int32))] [(.int (5 : Int32))])) rfl (by rw [hml]; rfl) [(.int (5 : Int32))] [] rfl (lenOf pd_674845 rfl) rfl (by show 2 * 0 + _ ≤ _; exact Nat.le_of_eq rfl) (hb hby at_85)
        have N98 := Fr.app N97 Nq98
        refine Go.st (S' := T98.setTop (mkF m 88 #[.val (.int p1), .val (.int p2), .val (.int (1 : Int32)), .val (.ref b71), .val (.int (4 : Int32))] [(.int (1 : Int32))])) st98 ?_
        exact own_retN X98 hx hlk hret (by simp) (hb hby at_88) eq98 ⟨rfl, N98⟩ (by decide) (by decide)
      · refine Go.st (S' := T83.setTop (mkF m 76 #[.val (.int p1), .val (.int p2), .val (.int (1 : Int32)), .val (.ref b71), .unset] [(.int (5 : Int32))])) (fun _ k => by rw [hk]; exact k) ?_
        refine Go.st (S' := T83.setTop (mkF m 78 #[.val (.int p1), .val (.int p2), .val (.int (1 : Int32)), .val (.ref b71), .val (.int (5 : Int32))] [])) (fun _ k => XS.istore X83.here hx rfl (hb hby at_76) rfl (l' := #[.val (.int p1), .val (.int p2), .val (.int (1 : Int32)), .val (.ref b71), .val (.int (5 : Int32))]) rfl k) ?_
        refine Go.st (S' := T83.setTop (mkF m 79 #[.val (.int p1), .val (.int p2), .val (.int (1 : Int32)), .val (.ref b71), .val (.int (5 : Int32))] [(.ref b71)])) (fun _ k => XS.aloadN X83.here hx rfl (hb hby at_78) rfl rfl k) ?_
        refine Go.st (S' := T83.setTop (mkF m 81 #[.val (.int p1), .val (.int p2), .val (.int (1 : Int32)), .val (.ref b71), .val (.int (5 : Int32))] [(.int (5 : Int32)), (.ref b71)])) (fun _ k => XS.iload X83.here hx rfl (hb hby at_79) rfl k) ?_
        refine Go.st (S' := T83.setTop (mkF m 82 #[.val (.int p1), .val (.int p2), .val (.int (1 : Int32)), .val (.ref b71), .val (.int (5 : Int32))] [(.ref w_X)])) (own_ldR X83 hx hZ e83 V83 rfl ⟨by decide, by decide⟩ rfl (g := (mkF m 81 #[.val (.int p1), .val (.int p2), .val (.int (1 : Int32)), .val (.ref b71), .val (.int (5 : Int32))] [(.int (5 : Int32)), (.ref b71)])) rfl rfl (hb hby at_81)) ?_
        obtain ⟨_, T100, L100, X100, ⟨rfl, Nq100, eq100⟩, st100⟩ := own_callV X83 hx hZ hown (ww hw 23 rfl) (ww hw 24 rfl) (notFace_of_selects (args := #[]) (mvT hZ (ww hw 26 rfl))) (ww hw 26 rfl) (ww hw 25 rfl) (ww hw 2 rfl) (ww hw 27 rfl) (by decide) e83 (E_X.ext O83) (rm2 l Z a0 hw [] w_NL w_RS w_RX w_S w_SRX w_X hS w_X (6 : Int32) h83 O83 (F_X_code.ext O83)) 0 (by decide) (by decide) (by decide) (by decide) (g := (mkF m 82 #[.val (.int p1), .val (.int p2), .val (.int (1 : Int32)), .val (.ref b71), .val (.int (5 : Int32))] [(.ref w_X)])) rfl (by rw [hml]; rfl) [] [] rfl (lenOf pd_428473 rfl) rfl (by show 2 * 0 + _ ≤ _; exact Nat.le_of_eq rfl) (hb hby at_82)
        have N100 := Fr.app N83 Nq100
        refine Go.st (S' := T100.setTop (mkF m 85 #[.val (.int p1), .val (.int p2), .val (.int (1 : Int32)), .val (.ref b71), .val (.int (5 : Int32))] [(.int (6 : Int32))])) st100 ?_
        obtain ⟨_, T101, L101, X101, ⟨rfl, Nq101, eq101⟩, st101⟩ := own_callS X100 hx hZ hown (ww hw 0 rfl) (ww hw 1 rfl) (ww hw 2 rfl) (ww hw 3 rfl) (by decide) eq100 (rm1 l Z a0 hw [] w_NL w_RS w_RX w_S w_SRX w_X hS (6 : Int32) (1 : Int32) (by decide) h83 O83) 0 (by decide) (by decide) (by decide) (by decide) (g := (mkF m 85 #[.val (.int p1), .val (.int p2), .val (.int (1 : Int32)), .val (.ref b71), .val (.int (5 : Int32))] [(.int (6 : Int32))])) rfl (by rw [hml]; rfl) [(.int (6 : Int32))] [] rfl (lenOf pd_674845 rfl) rfl (by show 2 * 0 + _ ≤ _; exact Nat.le_of_eq rfl) (hb hby at_85)
        have N101 := Fr.app N100 Nq101
        refine Go.st (S' := T101.setTop (mkF m 88 #[.val (.int p1), .val (.int p2), .val (.int (1 : Int32)), .val (.ref b71), .val (.int (5 : Int32))] [(.int (1 : Int32))])) st101 ?_
        exact own_retN X101 hx hlk hret (by simp) (hb hby at_88) eq101 ⟨rfl, N101⟩ (by decide) (by decide)
set_option maxRecDepth 65536 in
set_option maxHeartbeats 400000000 in
theorem comes_1 {Post : Tables → Env → Array Value → State → Outcome → State → Prop} (hpost : ∀ tb e args s v u, (limb_1_1.after args s (.returned v) u = true ∧ limb_1_2.after args s (.returned v) u = true ∧ True) → FrameEnd s (.returned v) u (Jvm.fieldLocs frame_1_writes args s ++ Jvm.arrayLocs frame_1_arrays args s ++ Jvm.staticLocs frame_1_statics s) 16 128 → Post tb e args s (.returned v) u) :
    ArmFor flags0 classFile x code maxLocals ret World_1 tables_1 room_1 Calls_1 rest_1 Pre_1 Post := by
  intro l hfl _ _ p e ha hc hk s m args below hf hA hF happ hP
  obtain ⟨hcalls, hrest, hpre⟩ := hP
  obtain ⟨-, -, -, hnamed, -, -, -, hat⟩ := (Spec.applies_iff hf).mp happ
  obtain ⟨hg, hn⟩ := and_e (Cond.before_iff.mp (show (Jvm.Cond.and given_1 narrow_1).before args s = true from hpre))
  obtain ⟨hg1, hg2⟩ := and_e hg
  obtain ⟨hg3, hg4⟩ := and_e hg2
  obtain ⟨v0, v1, rfl⟩ : ∃ v0 v1 : Value, args = #[v0, v1] := by
    have hs : args.size = 2 := by simpa [Cond.value, given_1] using hg1
    obtain ⟨L⟩ := args
    match L, hs with
    | [v0, v1], _ => exact ⟨v0, v1, rfl⟩
  have hw := fun d (hd : d ∈ tables_1) => atoms_spec (ws := Jvm.Cond.code x code maxLocals ret :: tables_1) hat d (List.mem_cons_of_mem _ hd)
  have hfit : Fit s := fun {y c} hc i hi => by
    obtain ⟨ha, rfl⟩ := Array.getElem?_eq_some_iff.mp hc
    have q := List.all_eq_true.mp ((Array.all_eq_true_iff_forall_mem.mp hF) _ (Array.getElem_mem ha)) i (List.mem_range.mpr hi)
    simpa [Array.getElem?_eq_getElem hi] using q
  obtain ⟨i0, ei0⟩ := is_v hg3
  obtain rfl : v0 = (.int i0) := Option.some.inj ei0
  obtain ⟨i1, ei1⟩ := is_v hg4
  obtain rfl : v1 = (.int i1) := Option.some.inj ei1
  obtain ⟨hn1, hn2⟩ := and_e hn
  obtain ⟨hn3, hn4⟩ := and_e hn2
  obtain ⟨hn5, hn6⟩ := and_e hn4
  obtain ⟨hn7, hn8⟩ := and_e hn6
  obtain ⟨hn9, hn10⟩ := and_e hn8
  obtain ⟨hn11, hn12⟩ := and_e hn10
  obtain ⟨hn13, hn14⟩ := and_e hn12
  obtain ⟨hn15, hn16⟩ := and_e hn14
  obtain ⟨hn17, hn18⟩ := and_e hn16
  obtain ⟨hn19, hn20⟩ := and_e hn18
  obtain ⟨hn21, hn22⟩ := and_e hn20
  obtain ⟨w_NL, ev_NL⟩ := exa_v hn1
  have S_NL : Sta s s.heap "com/example/grendel/grendel/LockMode" "NL" "Lcom/example/grendel/grendel/LockMode;" (.ref w_NL) := Sta.start ev_NL (Or.inr ⟨(ww hw 2 rfl), (ww hw 5 rfl)⟩)
  have E_NL : Exa s s.heap w_NL "com/example/grendel/grendel/LockMode" := Exa.start ev_NL hn1
  have F_NL_code : Fld s s.heap w_NL "com/example/grendel/grendel/LockMode" "code" "I" (.int (1 : Int32)) := own_fldI ev_NL hn3
  obtain ⟨w_RS, ev_RS⟩ := exa_v hn5
  have S_RS : Sta s s.heap "com/example/grendel/grendel/LockMode" "RS" "Lcom/example/grendel/grendel/LockMode;" (.ref w_RS) := Sta.start ev_RS (Or.inr ⟨(ww hw 2 rfl), (ww hw 13 rfl)⟩)
  have E_RS : Exa s s.heap w_RS "com/example/grendel/grendel/LockMode" := Exa.start ev_RS hn5
  obtain ⟨w_RX, ev_RX⟩ := exa_v hn7
  have S_RX : Sta s s.heap "com/example/grendel/grendel/LockMode" "RX" "Lcom/example/grendel/grendel/LockMode;" (.ref w_RX) := Sta.start ev_RX (Or.inr ⟨(ww hw 2 rfl), (ww hw 15 rfl)⟩)
  have E_RX : Exa s s.heap w_RX "com/example/grendel/grendel/LockMode" := Exa.start ev_RX hn7
  obtain ⟨w_S, ev_S⟩ := exa_v hn9
  have S_S : Sta s s.heap "com/example/grendel/grendel/LockMode" "S" "Lcom/example/grendel/grendel/LockMode;" (.ref w_S) := Sta.start ev_S (Or.inr ⟨(ww hw 2 rfl), (ww hw 17 rfl)⟩)
  have E_S : Exa s s.heap w_S "com/example/grendel/grendel/LockMode" := Exa.start ev_S hn9
  obtain ⟨w_SRX, ev_SRX⟩ := exa_v hn11
  have S_SRX : Sta s s.heap "com/example/grendel/grendel/LockMode" "SRX" "Lcom/example/grendel/grendel/LockMode;" (.ref w_SRX) := Sta.start ev_SRX (Or.inr ⟨(ww hw 2 rfl), (ww hw 19 rfl)⟩)
  have E_SRX : Exa s s.heap w_SRX "com/example/grendel/grendel/LockMode" := Exa.start ev_SRX hn11
  obtain ⟨w_X, ev_X⟩ := exa_v hn13
  have S_X : Sta s s.heap "com/example/grendel/grendel/LockMode" "X" "Lcom/example/grendel/grendel/LockMode;" (.ref w_X) := Sta.start ev_X (Or.inr ⟨(ww hw 2 rfl), (ww hw 21 rfl)⟩)
  have E_X : Exa s s.heap w_X "com/example/grendel/grendel/LockMode" := Exa.start ev_X hn13
  have F_S_code : Fld s s.heap w_S "com/example/grendel/grendel/LockMode" "code" "I" (.int (4 : Int32)) := own_fldI ev_S hn15
  have F_X_code : Fld s s.heap w_X "com/example/grendel/grendel/LockMode" "code" "I" (.int (6 : Int32)) := own_fldI ev_X hn17
  have F_RS_code : Fld s s.heap w_RS "com/example/grendel/grendel/LockMode" "code" "I" (.int (2 : Int32)) := own_fldI ev_RS hn19
  have F_RX_code : Fld s s.heap w_RX "com/example/grendel/grendel/LockMode" "code" "I" (.int (3 : Int32)) := own_fldI ev_RX hn21
  have F_SRX_code : Fld s s.heap w_SRX "com/example/grendel/grendel/LockMode" "code" "I" (.int (5 : Int32)) := own_fldI ev_SRX hn22
  obtain ⟨n, o, h1, h2, h3, _, L, rfl, ⟨rfl, N⟩, hq⟩ := rm0 l s _ hw tables_1 w_NL w_RS w_RX w_S w_SRX w_X ⟨S_NL, E_NL, F_NL_code, S_RS, E_RS, S_RX, E_RX, S_S, E_S, S_SRX, E_SRX, S_X, E_X, F_S_code, F_X_code, F_RS_code, F_RX_code, F_SRX_code⟩ i0 i1 s.heap (own_Ext.refl _)  p e ha hc hk s m _ below hf ((Spec.applies_iff_loose hf).mp happ).1 ⟨rfl, State.Warmed39.refl s, rfl⟩ trivial
  refine ⟨n, _, h1, h2, h3, hpost _ _ _ _ _ _ ⟨Cond.after_iff.mpr rfl, Cond.after_iff.mpr (eq_i res_at (Term.int_eval (1)) rfl), trivial⟩ ⟨hq.1, hq.2.1, (hq.2.2.sift fun y hy => Or.inr (N y hy)).mono (by decide) (by decide)⟩⟩
theorem main_1_1 : Claimed_1_1 := comes_1 fun _ _ _ _ _ _ h hF => ⟨h.1, hF⟩
theorem main_1_2 : Claimed_1_2 := comes_1 fun _ _ _ _ _ _ h hF => ⟨h.2.1, hF⟩
end Jvm.Pilot.@@N@@
namespace Jvm.Pilot.@@N@@
open Jvm Jvm.ClassFile Sem Op Lib Jvm.Free Jvm.Stand Jvm.Pilot.@@N@@.Jvm.D
/-! MADE BY PROGRAM (witnessworld.py) out of the Statement's table words and the real class files: 13 classes; the members and pool entries that the words name. The judged class is class 1, her method 1. -/
namespace start1
open Jvm.ClassFile
def u (s : String) : CpInfo := .utf8 (stringToUtf16 s)
/-- a pool by its gaps: so many unusable entries, then the entry; so many at the end -/
def gap : Nat → List CpInfo → List CpInfo
  | 0, r => r
  | n + 1, r => .unusable :: gap n r
def poolList (es : List (Nat × CpInfo)) (last : Nat) : List CpInfo := es.foldr (fun e r => gap e.1 (e.2 :: r)) (gap last [])
def pool (es : List (Nat × CpInfo)) (last : Nat) : Array CpInfo := ⟨poolList es last⟩
def fileOf (pool : Array CpInfo) (this : Nat) (attrs : Array Attribute := #[]) (ms : Array MethodInfo := #[]) (fl : Nat := 33) (sup : Nat := 0) (ifs : Array Nat := #[]) (fds : Array FieldInfo := #[]) : ClassFile where
  minorVersion := 0
  majorVersion := 65
  constantPool := pool
  accessFlags := fl
  thisClass := this
  superClass := sup
  interfaces := ifs
  fields := fds
  methods := ms
  attributes := attrs
def plain (name : String) (sup : Option ClassId) : Class where
  name := name
  kind := .ordinary
  loader := none
  accessFlags := 33
  super := sup
  interfaces := #[]
  cf := none
  fields := #[]
  methods := #[]
  instanceTypes := #[]
  staticTypes := #[]
  resolved := #[]
  callSites := []
  init := .initialized
  statics := none
  mirror := none

def pool0 : Array CpInfo := pool [(5, u "<init>"), (0, u "()V"), (1, .class_ 10), (1, u "java/lang/Object")] 113

def k0m0 : Method := { name := "<init>", desc := "()V", sig := { parameters := [], returnType := none }, accessFlags := 1, code := none }
/-- java/lang/Object -/
def k0 : Class := { plain "java/lang/Object" none with
  accessFlags := 33
  interfaces := #[]
  cf := some (fileOf pool0 8 #[] #[{ accessFlags := 1, nameIndex := 5, descriptorIndex := 6, attributes := #[] }] 33 0 #[] #[])
  fields := #[]
  methods := #[k0m0]
  instanceTypes := #[]
  staticTypes := #[]
  resolved := Array.replicate 124 none
  statics := none }

def pool1 : Array CpInfo := pool [(2, .class_ 4), (1, u "java/lang/Object"), (0, u "<init>"), (0, u "()V"), (0, .methodref 8 9), (0, .class_ 10), (0, .nameAndType 11 12), (0, u "com/example/grendel/grendel/LockMode"), (0, u "isCode"), (0, u "(I)Z"), (0, .fieldref 8 14), (0, .nameAndType 15 16), (0, u "NL"), (0, u "Lcom/example/grendel/grendel/LockMode;"), (0, .fieldref 8 18), (0, .nameAndType 19 16), (0, u "RS"), (0, .fieldref 8 21), (0, .nameAndType 22 16), (0, u "RX"), (0, .fieldref 8 24), (0, .nameAndType 25 16), (0, u "S"), (0, .fieldref 8 27), (0, .nameAndType 28 16), (0, u "SRX"), (0, .fieldref 8 30), (0, .nameAndType 31 16), (0, u "X"), (0, .integer 2147483647), (0, .methodref 8 34), (0, .nameAndType 35 36), (0, u "code"), (0, u "()I"), (0, .class_ 38), (0, u "com/example/grendel/grendel/LockModeIsCodePinLaw"), (2, u "law"), (0, u "(II)Z")] 3

def k1m0 : Method := { name := "<init>", desc := "()V", sig := { parameters := [], returnType := none }, accessFlags := 2, code := none }
def k1c1 : Code := { maxStack := 4, maxLocals := 5, code := code, exceptionTable := #[], attributes := #[] }
def k1m1 : Method := { name := "law", desc := "(II)Z", sig := { parameters := [.int, .int], returnType := some .boolean }, accessFlags := 9, code := some k1c1 }
/-- com/example/grendel/grendel/LockModeIsCodePinLaw -/
def k1 : Class := { plain "com/example/grendel/grendel/LockModeIsCodePinLaw" (some 0) with
  accessFlags := 49
  interfaces := #[]
  cf := some (fileOf pool1 37 #[] #[{ accessFlags := 2, nameIndex := 5, descriptorIndex := 6, attributes := #[] }, { accessFlags := 9, nameIndex := 41, descriptorIndex := 42, attributes := #[] }] 49 2 #[] #[])
  fields := #[]
  methods := #[k1m0, k1m1]
  instanceTypes := #[]
  staticTypes := #[]
  resolved := Array.replicate 46 none
  statics := none }

def pool2 : Array CpInfo := pool [(1, .class_ 2), (0, u "java/lang/constant/Constable"), (0, .class_ 4), (0, u "java/lang/Object")] 6

/-- java/lang/constant/Constable -/
def k2 : Class := { plain "java/lang/constant/Constable" (some 0) with
  accessFlags := 1537
  interfaces := #[]
  cf := some (fileOf pool2 1 #[] #[] 1537 3 #[] #[])
  fields := #[]
  methods := #[]
  instanceTypes := #[]
  staticTypes := #[]
  resolved := Array.replicate 11 none
  statics := none }

def pool3 : Array CpInfo := pool [(1, .class_ 2), (0, u "java/lang/Comparable"), (0, .class_ 4), (0, u "java/lang/Object")] 7

/-- java/lang/Comparable -/
def k3 : Class := { plain "java/lang/Comparable" (some 0) with
  accessFlags := 1537
  interfaces := #[]
  cf := some (fileOf pool3 1 #[] #[] 1537 3 #[] #[])
  fields := #[]
  methods := #[]
  instanceTypes := #[]
  staticTypes := #[]
  resolved := Array.replicate 12 none
  statics := none }

def pool4 : Array CpInfo := pool [(1, .class_ 2), (0, u "java/io/Serializable"), (0, .class_ 4), (0, u "java/lang/Object")] 2

/-- java/io/Serializable -/
def k4 : Class := { plain "java/io/Serializable" (some 0) with
  accessFlags := 1537
  interfaces := #[]
  cf := some (fileOf pool4 1 #[] #[] 1537 3 #[] #[])
  fields := #[]
  methods := #[]
  instanceTypes := #[]
  staticTypes := #[]
  resolved := Array.replicate 7 none
  statics := none }

def pool5 : Array CpInfo := pool [(2, .class_ 4), (1, u "java/lang/Enum"), (0, u "name"), (0, u "Ljava/lang/String;"), (2, u "ordinal"), (0, u "I"), (1, .class_ 14), (1, u "java/lang/Object"), (4, u "hash"), (86, .class_ 108), (1, u "java/lang/Enum$EnumDesc"), (2, .class_ 112), (0, u "java/lang/constant/Constable"), (0, .class_ 114), (0, u "java/lang/Comparable"), (0, .class_ 116), (0, u "java/io/Serializable")] 87

/-- java/lang/Enum -/
def k5 : Class := { plain "java/lang/Enum" (some 0) with
  accessFlags := 1057
  interfaces := #[2, 3, 4]
  cf := some (fileOf pool5 2 #[.nestMembers #[106]] #[] 1057 12 #[111, 113, 115] #[{ accessFlags := 18, nameIndex := 5, descriptorIndex := 6, attributes := #[] }, { accessFlags := 18, nameIndex := 9, descriptorIndex := 10, attributes := #[] }, { accessFlags := 2, nameIndex := 19, descriptorIndex := 10, attributes := #[] }])
  fields := #[{ name := "name", type := (.object "java/lang/String"), accessFlags := 18, slot := 0, constantValue := 0 }, { name := "ordinal", type := .int, accessFlags := 18, slot := 1, constantValue := 0 }, { name := "hash", type := .int, accessFlags := 2, slot := 2, constantValue := 0 }]
  methods := #[]
  instanceTypes := #[(.object "java/lang/String"), .int, .int]
  staticTypes := #[]
  resolved := Array.replicate 204 none
  statics := none }

def pool6 : Array CpInfo := pool [(1, .class_ 2), (0, u "com/example/grendel/grendel/LockMode"), (0, .fieldref 1 4), (0, .nameAndType 5 6), (0, u "NL"), (0, u "Lcom/example/grendel/grendel/LockMode;"), (2, u "RS"), (2, u "RX"), (2, u "S"), (2, u "SRX"), (0, .fieldref 1 20), (0, .nameAndType 21 6), (0, u "X"), (2, u "$VALUES"), (0, u "[Lcom/example/grendel/grendel/LockMode;"), (6, .class_ 34), (1, u "java/lang/Enum"), (6, .fieldref 1 42), (0, .nameAndType 43 44), (0, u "code"), (0, u "I"), (5, u "()I"), (6, u "admitted"), (2, u "VALUES"), (93, u "isCode"), (0, u "(I)Z")] 25

def k6c0 : Code := { maxStack := 1, maxLocals := 1, code := prog_16_method_4_code, exceptionTable := #[], attributes := #[] }
def k6m0 : Method := { name := "code", desc := "()I", sig := { parameters := [], returnType := some .int }, accessFlags := 1, code := some k6c0 }
def k6c1 : Code := { maxStack := 2, maxLocals := 1, code := prog_16_method_5_code, exceptionTable := #[], attributes := #[] }
def k6m1 : Method := { name := "isCode", desc := "(I)Z", sig := { parameters := [.int], returnType := some .boolean }, accessFlags := 8, code := some k6c1 }
/-- com/example/grendel/grendel/LockMode -/
def k6 : Class := { plain "com/example/grendel/grendel/LockMode" (some 5) with
  accessFlags := 16433
  interfaces := #[]
  cf := some (fileOf pool6 1 #[] #[{ accessFlags := 1, nameIndex := 43, descriptorIndex := 50, attributes := #[] }, { accessFlags := 8, nameIndex := 154, descriptorIndex := 155, attributes := #[] }] 16433 32 #[] #[{ accessFlags := 16409, nameIndex := 5, descriptorIndex := 6, attributes := #[] }, { accessFlags := 16409, nameIndex := 9, descriptorIndex := 6, attributes := #[] }, { accessFlags := 16409, nameIndex := 12, descriptorIndex := 6, attributes := #[] }, { accessFlags := 16409, nameIndex := 15, descriptorIndex := 6, attributes := #[] }, { accessFlags := 16409, nameIndex := 18, descriptorIndex := 6, attributes := #[] }, { accessFlags := 16409, nameIndex := 21, descriptorIndex := 6, attributes := #[] }, { accessFlags := 26, nameIndex := 60, descriptorIndex := 25, attributes := #[] }, { accessFlags := 18, nameIndex := 43, descriptorIndex := 44, attributes := #[] }, { accessFlags := 18, nameIndex := 57, descriptorIndex := 44, attributes := #[] }, { accessFlags := 4122, nameIndex := 24, descriptorIndex := 25, attributes := #[] }])
  fields := #[{ name := "NL", type := (.object "com/example/grendel/grendel/LockMode"), accessFlags := 16409, slot := 0, constantValue := 0 }, { name := "RS", type := (.object "com/example/grendel/grendel/LockMode"), accessFlags := 16409, slot := 1, constantValue := 0 }, { name := "RX", type := (.object "com/example/grendel/grendel/LockMode"), accessFlags := 16409, slot := 2, constantValue := 0 }, { name := "S", type := (.object "com/example/grendel/grendel/LockMode"), accessFlags := 16409, slot := 3, constantValue := 0 }, { name := "SRX", type := (.object "com/example/grendel/grendel/LockMode"), accessFlags := 16409, slot := 4, constantValue := 0 }, { name := "X", type := (.object "com/example/grendel/grendel/LockMode"), accessFlags := 16409, slot := 5, constantValue := 0 }, { name := "VALUES", type := (.array (.object "com/example/grendel/grendel/LockMode")), accessFlags := 26, slot := 6, constantValue := 0 }, { name := "code", type := .int, accessFlags := 18, slot := 3, constantValue := 0 }, { name := "admitted", type := .int, accessFlags := 18, slot := 4, constantValue := 0 }, { name := "$VALUES", type := (.array (.object "com/example/grendel/grendel/LockMode")), accessFlags := 4122, slot := 7, constantValue := 0 }]
  methods := #[k6m0, k6m1]
  instanceTypes := #[(.object "java/lang/String"), .int, .int, .int, .int]
  staticTypes := #[(.object "com/example/grendel/grendel/LockMode"), (.object "com/example/grendel/grendel/LockMode"), (.object "com/example/grendel/grendel/LockMode"), (.object "com/example/grendel/grendel/LockMode"), (.object "com/example/grendel/grendel/LockMode"), (.object "com/example/grendel/grendel/LockMode"), (.array (.object "com/example/grendel/grendel/LockMode")), (.array (.object "com/example/grendel/grendel/LockMode"))]
  resolved := Array.replicate 181 none
  statics := some 0 }

def pool7 : Array CpInfo := pool [(1, u "java/lang/Cloneable"), (0, .class_ 1), (0, u "java/lang/Object"), (0, .class_ 3)] 3

/-- java/lang/Cloneable -/
def k7 : Class := { plain "java/lang/Cloneable" (some 0) with
  accessFlags := 1537
  interfaces := #[]
  cf := some (fileOf pool7 2 #[] #[] 1537 4 #[] #[])
  fields := #[]
  methods := #[]
  instanceTypes := #[]
  staticTypes := #[]
  resolved := Array.replicate 8 none
  statics := none }

/-- the primitive byte -/
def k8 : Class := { plain "byte" none with kind := .primitive 'B', accessFlags := 0x411 }
/-- [B -/
def k9 : Class := { plain "[B" (some 0) with kind := .array 8 .byte, interfaces := #[7, 4], accessFlags := 1041 }

/-- the primitive int -/
def k10 : Class := { plain "int" none with kind := .primitive 'I', accessFlags := 0x411 }
/-- [I -/
def k11 : Class := { plain "[I" (some 0) with kind := .array 10 .int, interfaces := #[7, 4], accessFlags := 1041 }

/-- [Lcom/example/grendel/grendel/LockMode; -/
def k12 : Class := { plain "[Lcom/example/grendel/grendel/LockMode;" (some 0) with kind := .array 6 (.object "com/example/grendel/grendel/LockMode"), interfaces := #[7, 4], accessFlags := 1041 }

def heap : Heap := #[{ cls := 6, slots := #[.ref 1, .ref 2, .ref 3, .ref 4, .ref 5, .ref 6, .null, .null], vm := .statics 6 },
  { cls := 6, slots := #[.null, .int 0, .int 0, .int (1), .int 0], vm := .none },
  { cls := 6, slots := #[.null, .int 0, .int 0, .int (2), .int 0], vm := .none },
  { cls := 6, slots := #[.null, .int 0, .int 0, .int (3), .int 0], vm := .none },
  { cls := 6, slots := #[.null, .int 0, .int 0, .int (4), .int 0], vm := .none },
  { cls := 6, slots := #[.null, .int 0, .int 0, .int (5), .int 0], vm := .none },
  { cls := 6, slots := #[.null, .int 0, .int 0, .int (6), .int 0], vm := .none }]
def classes : Array Class := #[k0, k1, k2, k3, k4, k5, k6, k7, k8, k9, k10, k11, k12]
def interned : List (Array UInt16 × Addr) := []
def slotsUsed : Nat := 38
def theMethod : MethodId := ⟨1, 1⟩
def args0 : Array Value := #[.int 5, .int 3]
def aboutOver (below : List Frame) : State where
  vm := { classes := classes, interned := interned.toArray }
  heap := heap
  slotsUsed := slotsUsed
  threads := #[{ frames := .invoking theMethod args0 :: below }]
def below0 : List Frame := [.native { method := ⟨0, 0⟩, args := #[] }]
def about1 : State := aboutOver below0
def p0 : Program := .bare "" "" ""
def e0 : Env := launch0.env 0 0 0
theorem w_frames : about1.frames = Frame.invoking theMethod args0 :: below0 := rfl
set_option maxRecDepth 65536 in
theorem w_args : argsFit about1.vm theMethod args0 = true := by decide +kernel
set_option maxRecDepth 65536 in
theorem w_heap : heapFits about1 = true := by decide +kernel
set_option maxRecDepth 65536 in
theorem w_runnable : about1.curStatus? = some .runnable := by decide +kernel
set_option maxRecDepth 65536 in
theorem w_alone : about1.alone = true := by decide +kernel
set_option maxRecDepth 65536 in
theorem w_named : about1.methodNamed? x = some theMethod := by decide +kernel
set_option maxRecDepth 65536 in
theorem w_hears : about1.hears theMethod below0 = true := by decide +kernel
set_option maxRecDepth 65536 in
theorem w_ripe : about1.ripe theMethod args0 below0 = true := by decide +kernel
theorem w_running : about1.status = .running := rfl
set_option maxRecDepth 65536 in
theorem w_room : about1.hasRoom e0.platform room_1 = true :=
  launch0.hasRoom_least _ room_1 (by decide +kernel) (by decide +kernel) (by decide +kernel) (by decide +kernel) (by decide +kernel) (by decide +kernel)
theorem allAtoms_all (ts : List Jvm.Cond) (a : Array Jvm.Value) (st : Jvm.State) : (allAtoms ts).before a st = ts.all (fun c => c.before a st) := by
  induction ts with
  | nil => rfl
  | cons c t ih =>
    show (Jvm.Cond.and c (allAtoms t)).before a st = _
    rw [Jvm.Cond.before_and, ih, List.all_cons]
def words1 : List Jvm.Cond := Jvm.Cond.code x code maxLocals ret :: tables_1
/-- a 'code' word, met by the world's own term for the bytes: nothing is compared byte by byte -/
theorem code_word {y : MethodName} {bytes : ByteArray} {mx : Nat} {rt : Option FieldType} {a : Array Value} {s : State} {m : MethodId} {meth : Method} {c : Code} (h1 : s.methodNamed? y = some m) (h2 : s.vm.method? m = some meth) (h3 : meth.code = some c) (h4 : c.code = bytes)
    (h5 : (c.maxLocals == mx && c.exceptionTable.isEmpty && decide (c.maxStack ≤ mostOperands) && decide (meth.sig.returnType = rt) && !meth.locks && decide (parseMethodDescriptor y.desc = some meth.sig)) = true) : (Jvm.Cond.code y bytes mx rt).before a s = true := by
  simp only [Bool.and_eq_true, beq_iff_eq, Bool.not_eq_true', decide_eq_true_eq] at h5
  obtain ⟨⟨⟨⟨⟨g1, g2⟩, g3⟩, g4⟩, g5⟩, g6⟩ := h5
  simp [Cond.before, Cond.holds, Cond.value, h1, h2, h3, h4, g1, g2, g3, g4, g5, g6]
def isCode : Jvm.Cond → Bool
  | .code _ _ _ _ => true
  | _ => false
theorem all_split {L : List Jvm.Cond} {P : Jvm.Cond → Bool} (h1 : L.all (fun c => isCode c || P c) = true) (h2 : ∀ c ∈ L.filter isCode, P c = true) : L.all P = true := by
  refine List.all_eq_true.mpr fun c hc => ?_
  have h := List.all_eq_true.mp h1 c hc
  rcases Bool.eq_false_or_eq_true (isCode c) with hi | hi
  · exact h2 c (List.mem_filter.mpr ⟨hc, hi⟩)
  · simpa [hi] using h
set_option maxRecDepth 65536 in
theorem w_c0 : (Jvm.Cond.code x code maxLocals ret).before args0 about1 = true := code_word (m := ⟨1, 1⟩) (meth := k1m1) (c := k1c1) (by decide +kernel) rfl rfl rfl (by decide +kernel)
set_option maxRecDepth 65536 in
theorem w_c1 : (Jvm.Cond.code ({ cls := "com/example/grendel/grendel/LockMode", name := "isCode", desc := "(I)Z" } : Jvm.MethodName) prog_16_method_5_code (1 : Nat) (Option.some Jvm.ClassFile.FieldType.boolean)).before args0 about1 = true := code_word (m := ⟨6, 1⟩) (meth := k6m1) (c := k6c1) (by decide +kernel) rfl rfl rfl (by decide +kernel)
set_option maxRecDepth 65536 in
theorem w_c2 : (Jvm.Cond.code ({ cls := "com/example/grendel/grendel/LockMode", name := "code", desc := "()I" } : Jvm.MethodName) prog_16_method_4_code (1 : Nat) (Option.some Jvm.ClassFile.FieldType.int)).before args0 about1 = true := code_word (m := ⟨6, 0⟩) (meth := k6m0) (c := k6c0) (by decide +kernel) rfl rfl rfl (by decide +kernel)
def codes1 : List Jvm.Cond := [Jvm.Cond.code x code maxLocals ret, Jvm.Cond.code ({ cls := "com/example/grendel/grendel/LockMode", name := "isCode", desc := "(I)Z" } : Jvm.MethodName) prog_16_method_5_code (1 : Nat) (Option.some Jvm.ClassFile.FieldType.boolean), Jvm.Cond.code ({ cls := "com/example/grendel/grendel/LockMode", name := "code", desc := "()I" } : Jvm.MethodName) prog_16_method_4_code (1 : Nat) (Option.some Jvm.ClassFile.FieldType.int)]
set_option maxRecDepth 65536 in
theorem codes_eq : words1.filter isCode = codes1 := rfl
theorem w_codes : ∀ c ∈ words1.filter isCode, c.before args0 about1 = true := by
  rw [codes_eq]
  intro c hc
  simp only [codes1, List.mem_cons, List.not_mem_nil, or_false] at hc
  rcases hc with rfl | rfl | rfl
  · exact w_c0
  · exact w_c1
  · exact w_c2
set_option maxRecDepth 65536 in
theorem w_t1 : (words1.take 24).all (fun c => isCode c || c.before args0 about1) = true := by decide +kernel
set_option maxRecDepth 65536 in
theorem w_t2 : (words1.drop 24).all (fun c => isCode c || c.before args0 about1) = true := by decide +kernel
theorem w_tables : (allAtoms (Jvm.Cond.code x code maxLocals ret :: tables_1)).before args0 about1 = true := by
  rw [allAtoms_all]
  show words1.all (fun c => c.before args0 about1) = true
  refine all_split ?_ w_codes
  rw [← List.take_append_drop 24 words1, List.all_append, w_t1, w_t2]
  rfl
set_option maxRecDepth 65536 in
theorem w_case : (Jvm.Cond.and given_1 narrow_1).before args0 about1 = true := by decide +kernel
theorem w_applies : (headSpec (Jvm.Cond.code x code maxLocals ret :: tables_1) room_1).applies x e0.platform about1 = true :=
  (Spec.applies_iff w_frames).mpr ⟨w_running, w_runnable, w_alone, w_named, w_hears, w_ripe, w_room, w_tables⟩
theorem atStart : AtStart classFile x code maxLocals ret World_1 tables_1 room_1 Calls_1 rest_1 Pre_1 launch0 p0 e0 about1 theMethod args0 below0 :=
  ⟨lists_1, trivial, launch0.admits_env _ _ _, launch0.least_env, fairChoices_fair.cas, fairChoices_fair.clock, w_frames, w_args, w_heap, w_applies, trivial, trivial, w_case⟩
end start1
theorem witness_1 : WitnessClaimed_1 := ⟨start1.p0, start1.e0, start1.about1, start1.theMethod, start1.args0, start1.below0, start1.atStart⟩
end Jvm.Pilot.@@N@@
