import JvmDerived
import JvmDerived.Pilot.@@N@@Statement
import JvmDerived.Pilot.@@N@@Code
set_option linter.unusedVariables false
set_option linter.unusedSimpArgs false
@@BLOCK:NumsL.lean.txt@@
namespace Jvm.Pilot.@@N@@
open Jvm Jvm.ClassFile Sem Op Lib Jvm.Free Jvm.Stand Jvm.LawKit Jvm.RoadKit Bundle Jvm.Pilot.@@N@@.Jvm.D
section OwnKit
variable {p : Program} {l : Launch} {e : Env} {R : Room} {s : State} {m : MethodId} {args : Array Value} {below : List Frame} {meth : Method} {c : Code} {T : State} {locs : List Loc} {cells slots : Nat} {Z : State} {a0 : Array Value} {h h' : Heap}
/-- from S the run comes to an end of which P holds -/
def Go (p : Program) (e : Env) (below : List Frame) (P : State → Outcome → Prop) (S : State) : Prop :=
  ∃ s₂ o, Steps p.tables e below S s₂ ∧ s₂.status = .running ∧ Ended s₂ below o ∧ P s₂ o
/-- what a contract says of the end -/
def Ret (s : State) (Q : Option Value → Heap → List Loc → Prop) (cs sl : Nat) : State → Outcome → Prop :=
  fun s₂ o => ∃ v L, o = .returned v ∧ Q v s₂.heap L ∧ FrameEnd s o s₂ L cs sl
theorem Go.st {P : State → Outcome → Prop} {S S' : State} (k : ∀ t, Steps p.tables e below S' t → Steps p.tables e below S t) (g : Go p e below P S') : Go p e below P S := by
  obtain ⟨t, o, q, r⟩ := g
  exact ⟨t, o, k t q, r⟩
/-- a contract in this family: entered with these arguments on this heap -/
abbrev Con (l : Launch) (Z : State) (h0 : Heap) (y : MethodName) (bytes : ByteArray) (maxL : Nat) (ret : Option FieldType) (ws : List Jvm.Cond) (rm : Room) (as' : Array Value) (Q : Option Value → Heap → List Loc → Prop) : Prop :=
  MetFree l y (head1 (Jvm.Cond.code y bytes maxL ret :: ws) rm) (fun a U => a = as' ∧ Z.Warmed39 U.vm ∧ U.heap = h0) (fun _ _ _ _ _ => True) (fun _ U o U' => ∃ v L, o = .returned v ∧ Q v U'.heap L ∧ FrameEnd U o U' L rm.cells rm.slots)
theorem own_con {h0 : Heap} {y : MethodName} {bytes : ByteArray} {maxL : Nat} {ret : Option FieldType} {ws : List Jvm.Cond} {rm : Room} {as' : Array Value} {Q : Option Value → Heap → List Loc → Prop} (hpl : plainFor y = true)
    (body : ∀ (p : Program) (e : Env) (s : State) (m : MethodId) (below : List Frame) (meth : Method) (c : Code) (T : State), Stand p l e rm s m as' below meth c T [] 0 0 → p.tables.exec = Jvm.exec → c.code = bytes → c.maxLocals = maxL → s.vm.findClass y.cls = some m.cls → meth.name = y.name → meth.sig.returnType = ret → meth.locks = false → Z.Warmed39 s.vm → T.heap = h0 →
      Go p e below (Ret s Q rm.cells rm.slots) (T.setTop (entryFrame m as' maxL))) : Con l Z h0 y bytes maxL ret ws rm as' Q := by
  refine MetFree.of_bodySF hpl hisR ?_
  intro p e s m args below meth c s₁ Bd hml0 hP hK
  obtain ⟨rfl, hZ, hh⟩ := hP
  exact body p e s m below meth c s₁ (Stand.of_body Bd) Bd.exec Bd.bytes hml0 (findClass_of_methodNamed Bd.named) (name_of_methodNamed Bd.named Bd.method).1 Bd.returns Bd.notSynchronized hZ (by rw [← hh, Bd.state]; rfl)
theorem own_callS (X : Stand p l e R s m args below meth c T locs cells slots) (hx : p.tables.exec = Jvm.exec) (hZ : Z.Warmed39 s.vm)
    {own : String} {index : Nat} {y : MethodName} {bytes : ByteArray} {maxL : Nat} {ret : Option FieldType} {rm : Room} {as' : Array Value} {Q : Option Value → Heap → List Loc → Prop}
    (hown : s.vm.findClass own = some m.cls) (w1 : (Jvm.Cond.methodLink own index y).before a0 Z = true) (w2 : (Jvm.Cond.static y).before a0 Z = true) (w3 : (Jvm.Cond.initialized y.cls).before a0 Z = true) (w4 : (Jvm.Cond.code y bytes maxL ret).before a0 Z = true)
    (hy : y.cls ≠ "java/lang/invoke/MethodHandle" ∧ y.cls ≠ "java/lang/invoke/VarHandle") (eT : T.heap = h) (hM : Con l Z h y bytes maxL ret [] rm as' Q)
    (W : Nat) (hf : rm.frames + 1 ≤ R.frames) (hl : W + (maxL + 11) + rm.locals ≤ R.locals) (hc : cells + rm.cells ≤ R.cells) (hs : slots + rm.slots ≤ R.slots)
    {g : JFrame} (hg : g.method = m) (hsize : g.locals.size = c.maxLocals) (argsL rest : List Value) (has : argsL.toArray = as') (hlen : ∀ sig, parseMethodDescriptor y.desc = some sig → argsL.length = sig.parameters.length) (hstack : g.stack = argsL.reverse ++ rest) (hW : 2 * g.monitorRoom + (rest.map fun v => v.category).sum ≤ W)
    (hd : decode c.code g.pc = .ok (.invokestatic index, 3)) :
    ∃ (v : Option Value) (T' : State) (L : List Loc), Stand p l e R s m args below meth c T' (locs ++ L) (cells + rm.cells) (slots + rm.slots) ∧ Q v T'.heap L ∧ ∀ t, Steps p.tables e below (T'.setTop { g with pc := g.pc + 3, stack := v.toList ++ rest }) t → Steps p.tables e below (T.setTop g) t := by
  obtain ⟨v, _, ⟨T', L', k', n'⟩, -, X', ⟨L, hQ, l1, l2, l3⟩, st⟩ := Jvm.LawKit.callS X hx hown (mvT hZ w1) (mvT hZ w2) (mvT hZ w3) (mvT hZ w4) hy (backOf (W := W) hM hZ w4 w3 hf hl) hg hsize hlen hstack hW hd (fun _ _ => ⟨has, eT, hc, hs⟩)
  dsimp only [Pt.U, Pt.locs, Pt.cells, Pt.slots] at X' l1 l2 l3 st hQ
  subst l1 l2 l3
  exact ⟨v, T', L, X', hQ, st⟩
theorem own_callV (X : Stand p l e R s m args below meth c T locs cells slots) (hx : p.tables.exec = Jvm.exec) (hZ : Z.Warmed39 s.vm)
    {own C : String} {index : Nat} {y z : MethodName} {bytes : ByteArray} {maxL : Nat} {ret : Option FieldType} {rm : Room} {as' : Array Value} {Q : Option Value → Heap → List Loc → Prop} {b : Addr}
    (hown : s.vm.findClass own = some m.cls) (w1 : (Jvm.Cond.methodLink own index y).before a0 Z = true) (w2 : (Jvm.Cond.declares y).before a0 Z = true) (hnf : NotFace s y) (w4 : (Jvm.Cond.selects C y z).before a0 Z = true) (w5 : (Jvm.Cond.instanceMethod z).before a0 Z = true) (w3 : (Jvm.Cond.initialized z.cls).before a0 Z = true) (w6 : (Jvm.Cond.code z bytes maxL ret).before a0 Z = true)
    (hy : y.cls ≠ "java/lang/invoke/MethodHandle" ∧ y.cls ≠ "java/lang/invoke/VarHandle") (eT : T.heap = h) (E : Exa Z h b C) (hM : Con l Z h z bytes maxL ret [] rm as' Q)
    (W : Nat) (hf : rm.frames + 1 ≤ R.frames) (hl : W + (maxL + 11) + rm.locals ≤ R.locals) (hc : cells + rm.cells ≤ R.cells) (hs : slots + rm.slots ≤ R.slots)
    {g : JFrame} (hg : g.method = m) (hsize : g.locals.size = c.maxLocals) (argsL rest : List Value) (has : (.ref b :: argsL).toArray = as') (hlen : ∀ sig, parseMethodDescriptor y.desc = some sig → argsL.length = sig.parameters.length) (hstack : g.stack = argsL.reverse ++ .ref b :: rest) (hW : 2 * g.monitorRoom + (rest.map fun v => v.category).sum ≤ W)
    (hd : decode c.code g.pc = .ok (.invokevirtual index, 3)) :
    ∃ (v : Option Value) (T' : State) (L : List Loc), Stand p l e R s m args below meth c T' (locs ++ L) (cells + rm.cells) (slots + rm.slots) ∧ Q v T'.heap L ∧ ∀ t, Steps p.tables e below (T'.setTop { g with pc := g.pc + 3, stack := v.toList ++ rest }) t → Steps p.tables e below (T.setTop g) t := by
  obtain ⟨cq, kq, qa, qb, qc⟩ := isOf hZ eT E
  obtain ⟨v, _, ⟨T', L', k', n'⟩, -, X', ⟨L, hQ, l1, l2, l3⟩, st⟩ := X.virtualBack hx hown (mvT hZ w1) (mvT hZ w2) hnf (mvT hZ w4) (mvT hZ w5) hy (backOf (W := W) hM hZ w6 w3 hf hl) qa qc hg hsize (Steps.refl _) hlen hstack hW hd (fun _ _ => ⟨has, eT, hc, hs⟩)
  dsimp only [Pt.U, Pt.locs, Pt.cells, Pt.slots] at X' l1 l2 l3 st hQ
  subst l1 l2 l3
  exact ⟨v, T', L, X', hQ, fun t k => st.trans k⟩
theorem own_callI (X : Stand p l e R s m args below meth c T locs cells slots) (hx : p.tables.exec = Jvm.exec) (hZ : Z.Warmed39 s.vm)
    {own : String} {index : Nat} {y : MethodName} {bytes : ByteArray} {maxL : Nat} {rm : Room} {as' : Array Value} {Q : Option Value → Heap → List Loc → Prop} {b : Addr} (hy1 : y.name = "<init>")
    (hown : s.vm.findClass own = some m.cls) (w1 : (Jvm.Cond.methodLink own index y).before a0 Z = true) (w5 : (Jvm.Cond.instanceMethod y).before a0 Z = true) (w3 : (Jvm.Cond.initialized y.cls).before a0 Z = true) (w6 : (Jvm.Cond.code y bytes maxL none).before a0 Z = true)
    (hy : y.cls ≠ "java/lang/invoke/MethodHandle" ∧ y.cls ≠ "java/lang/invoke/VarHandle") (eT : T.heap = h) (hM : Con l Z h y bytes maxL none [] rm as' Q)
    (W : Nat) (hf : rm.frames + 1 ≤ R.frames) (hl : W + (maxL + 11) + rm.locals ≤ R.locals) (hc : cells + rm.cells ≤ R.cells) (hs : slots + rm.slots ≤ R.slots)
    {g : JFrame} (hg : g.method = m) (hsize : g.locals.size = c.maxLocals) (argsL rest : List Value) (has : (.ref b :: argsL).toArray = as') (hlen : ∀ sig, parseMethodDescriptor y.desc = some sig → argsL.length = sig.parameters.length) (hstack : g.stack = argsL.reverse ++ .ref b :: rest) (hW : 2 * g.monitorRoom + (rest.map fun v => v.category).sum ≤ W)
    (hd : decode c.code g.pc = .ok (.invokespecial index, 3)) :
    ∃ (v : Option Value) (T' : State) (L : List Loc), Stand p l e R s m args below meth c T' (locs ++ L) (cells + rm.cells) (slots + rm.slots) ∧ Q v T'.heap L ∧ ∀ t, Steps p.tables e below (T'.setTop { g with pc := g.pc + 3, stack := v.toList ++ rest }) t → Steps p.tables e below (T.setTop g) t := by
  obtain ⟨v, _, ⟨T', L', k', n'⟩, -, X', ⟨L, hQ, l1, l2, l3⟩, st⟩ := X.specialBack hx hy1 hown (mvT hZ w1) (mvT hZ w5) (mvT hZ w6) hy (backOf (W := W) hM hZ w6 w3 hf hl) hg hsize (Steps.refl _) hlen hstack hW hd (fun _ _ => ⟨has, eT, hc, hs⟩)
  dsimp only [Pt.U, Pt.locs, Pt.cells, Pt.slots] at X' l1 l2 l3 st hQ
  subst l1 l2 l3
  exact ⟨v, T', L, X', hQ, fun t k => st.trans k⟩
/-- the end of a walk -/
theorem own_fin (X : Stand p l e R s m args below meth c T locs cells slots) (hlk : meth.locks = false) {v : Option Value} (hv : meth.sig.returnType = none → v = none) {Q : Option Value → Heap → List Loc → Prop} {cs sl : Nat} (eT : T.heap = h) (hQ : Q v h locs) (hc : cells ≤ cs) (hs : slots ≤ sl) {S : State}
    (k : ∀ fs : List Frame, (∀ (f : JFrame) (acts : List Action), f.method = m → f.locked = none → f.entered = [] → (doReturn e (T.setTop f) acts v).1 = T.setFrames fs) → Steps p.tables e below S (T.setFrames fs)) : Go p e below (Ret s Q cs sl) S := by
  obtain ⟨fs, hr, hrun, hended, hW, hsame⟩ := X.leave hv hlk
  refine ⟨_, _, k fs hr, hrun, hended, _, _, rfl, ?_, ⟨_, rfl⟩, hW, hsame.mono hc hs⟩
  have q : (T.setFrames fs).heap = h := eT
  rw [q]; exact hQ
theorem own_retO (X : Stand p l e R s m args below meth c T locs cells slots) (hx : p.tables.exec = Jvm.exec) (hlk : meth.locks = false) {pc : Nat} {Ls : Array Slot} {w : Value} {t : FieldType} {i : Instr} {rest : List Value} (hret : meth.sig.returnType = some t) (hn : narrow t w = w)
    (hi : (i = .ireturn ∧ (t = .int ∨ t = .boolean ∨ t = .byte ∨ t = .char ∨ t = .short) ∧ ∃ z, w = .int z) ∨ (i = .lreturn ∧ t = .long ∧ ∃ z, w = .long z) ∨ (i = .dreturn ∧ t = .double ∧ ∃ z, w = .double z) ∨ (i = .freturn ∧ t = .float ∧ ∃ z, w = .float z) ∨ (i = .areturn ∧ t.isReference = true ∧ w.isRef = true))
    (hd : decode c.code pc = .ok (i, 1)) {Q : Option Value → Heap → List Loc → Prop} {cs sl : Nat} (eT : T.heap = h) (hQ : Q (some w) h locs) (hc : cells ≤ cs) (hs : slots ≤ sl) : Go p e below (Ret s Q cs sl) (T.setTop (mkF m pc Ls (w :: rest))) :=
  own_fin X hlk (fun q => by rw [hret] at q; cases q) eT hQ hc hs fun fs hr => retOut X hx hret hn hi hd hr
theorem own_retI (X : Stand p l e R s m args below meth c T locs cells slots) (hx : p.tables.exec = Jvm.exec) (hlk : meth.locks = false) {pc : Nat} {Ls : Array Slot} {w : Int32} {rest : List Value} (hret : meth.sig.returnType = some .int)
    (hd : decode c.code pc = .ok (.ireturn, 1)) {Q : Option Value → Heap → List Loc → Prop} {cs sl : Nat} (eT : T.heap = h) (hQ : Q (some (.int w)) h locs) (hc : cells ≤ cs) (hs : slots ≤ sl) : Go p e below (Ret s Q cs sl) (T.setTop (mkF m pc Ls (.int w :: rest))) :=
  own_retO X hx hlk hret rfl (Or.inl ⟨rfl, Or.inl rfl, _, rfl⟩) hd eT hQ hc hs
theorem own_retJ (X : Stand p l e R s m args below meth c T locs cells slots) (hx : p.tables.exec = Jvm.exec) (hlk : meth.locks = false) {pc : Nat} {Ls : Array Slot} {w : Int64} {rest : List Value} (hret : meth.sig.returnType = some .long)
    (hd : decode c.code pc = .ok (.lreturn, 1)) {Q : Option Value → Heap → List Loc → Prop} {cs sl : Nat} (eT : T.heap = h) (hQ : Q (some (.long w)) h locs) (hc : cells ≤ cs) (hs : slots ≤ sl) : Go p e below (Ret s Q cs sl) (T.setTop (mkF m pc Ls (.long w :: rest))) :=
  own_retO X hx hlk hret rfl (Or.inr (Or.inl ⟨rfl, rfl, _, rfl⟩)) hd eT hQ hc hs
theorem own_retA (X : Stand p l e R s m args below meth c T locs cells slots) (hx : p.tables.exec = Jvm.exec) (hlk : meth.locks = false) {pc : Nat} {Ls : Array Slot} {w : Value} {t : FieldType} {rest : List Value} (hret : meth.sig.returnType = some t) (hn : narrow t w = w) (ht : t.isReference = true) (hw : w.isRef = true)
    (hd : decode c.code pc = .ok (.areturn, 1)) {Q : Option Value → Heap → List Loc → Prop} {cs sl : Nat} (eT : T.heap = h) (hQ : Q (some w) h locs) (hc : cells ≤ cs) (hs : slots ≤ sl) : Go p e below (Ret s Q cs sl) (T.setTop (mkF m pc Ls (w :: rest))) :=
  own_retO X hx hlk hret hn (Or.inr (Or.inr (Or.inr (Or.inr ⟨rfl, ht, hw⟩)))) hd eT hQ hc hs
theorem own_retN (X : Stand p l e R s m args below meth c T locs cells slots) (hx : p.tables.exec = Jvm.exec) (hlk : meth.locks = false) {pc : Nat} {Ls : Array Slot} {z : Int32} {t : FieldType} {rest : List Value} (hret : meth.sig.returnType = some t) (ht : t = .boolean ∨ t = .byte ∨ t = .char ∨ t = .short)
    (hd : decode c.code pc = .ok (.ireturn, 1)) {Q : Option Value → Heap → List Loc → Prop} {cs sl : Nat} (eT : T.heap = h) (hQ : Q (some (.int (nar t z))) h locs) (hc : cells ≤ cs) (hs : slots ≤ sl) : Go p e below (Ret s Q cs sl) (T.setTop (mkF m pc Ls (.int z :: rest))) :=
  own_fin X hlk (fun q => by rw [hret] at q; cases q) eT hQ hc hs fun fs hr => retN X hx hret ht hd hr
theorem own_retV (X : Stand p l e R s m args below meth c T locs cells slots) (hx : p.tables.exec = Jvm.exec) (hlk : meth.locks = false) {pc : Nat} {Ls : Array Slot} (hret : meth.sig.returnType = none)
    (hd : decode c.code pc = .ok (.return_, 1)) {Q : Option Value → Heap → List Loc → Prop} {cs sl : Nat} (eT : T.heap = h) (hQ : Q none h locs) (hc : cells ≤ cs) (hs : slots ≤ sl) : Go p e below (Ret s Q cs sl) (T.setTop (mkF m pc Ls [])) :=
  own_fin X hlk (fun _ => rfl) eT hQ hc hs fun fs hr => X.returnOut hx hret hd hr
theorem own_Llt {x y : Int64} (h : x < y) : ifCond.holds .lt (lcmpW x y) = true ∧ ifCond.holds .ge (lcmpW x y) = false := by
  have q := (lc_lt x y).mpr h; rw [← lcW] at q; exact ⟨(if0 _ _).trans (tlt q).1, (if0 _ _).trans (tlt q).2.1⟩
theorem own_Lnlt {x y : Int64} (h : ¬ x < y) : ifCond.holds .lt (lcmpW x y) = false ∧ ifCond.holds .ge (lcmpW x y) = true := by
  have q : ¬ lcmpW x y < 0 := fun r => h ((lc_lt x y).mp (by rw [← lcW]; exact r)); exact ⟨(if0 _ _).trans (flt q).1, (if0 _ _).trans (flt q).2.1⟩
theorem own_Lgt {x y : Int64} (h : y < x) : ifCond.holds .gt (lcmpW x y) = true ∧ ifCond.holds .le (lcmpW x y) = false := by
  have q := (lc_gt x y).mpr h; rw [← lcW] at q; exact ⟨(if0 _ _).trans (tlt q).2.2.1, (if0 _ _).trans (tlt q).2.2.2⟩
theorem own_Lngt {x y : Int64} (h : ¬ y < x) : ifCond.holds .gt (lcmpW x y) = false ∧ ifCond.holds .le (lcmpW x y) = true := by
  have q : ¬ 0 < lcmpW x y := fun r => h ((lc_gt x y).mp (by rw [← lcW]; exact r)); exact ⟨(if0 _ _).trans (flt q).2.2.1, (if0 _ _).trans (flt q).2.2.2⟩
theorem own_Leq {x y : Int64} (h : x = y) : ifCond.holds .eq (lcmpW x y) = true ∧ ifCond.holds .ne (lcmpW x y) = false := by
  have q := (lc_eq x y).mpr h; rw [← lcW] at q; exact ⟨(if0 _ _).trans (teq q).1, (if0 _ _).trans (teq q).2⟩
theorem own_Lne {x y : Int64} (h : ¬ x = y) : ifCond.holds .eq (lcmpW x y) = false ∧ ifCond.holds .ne (lcmpW x y) = true := by
  have q : ¬ lcmpW x y = 0 := fun r => h ((lc_eq x y).mp (by rw [← lcW]; exact r)); exact ⟨(if0 _ _).trans (feq q).1, (if0 _ _).trans (feq q).2⟩
theorem own_Ext.refl (h : Heap) : Ext h h := ⟨Nat.le_refl _, fun _ _ q => q⟩
theorem own_Ext.trans {h1 h2 h3 : Heap} (a : Ext h1 h2) (b : Ext h2 h3) : Ext h1 h3 := ⟨Nat.le_trans a.1 b.1, fun x c q => b.2 x c (a.2 x c q)⟩
theorem own_Ext.wr {h0 : Heap} {a : Addr} {sl : Nat} {v : Value} (E : Ext h0 h) (W : Wr h h' a sl v) (q : h0.size ≤ a) : Ext h0 h' := by
  have K : Keep h0 h [] := ⟨E.1, fun x c r _ => E.2 x c r, fun x c r => ⟨c, E.2 x c r, rfl, rfl, rfl⟩⟩
  have K' := K.wr W (Or.inr q)
  exact ⟨K'.1, fun x c r => K'.2.1 x c r (fun z => nomatch z)⟩
theorem own_Ext.keep {h0 : Heap} {ws : List Addr} (E : Ext h0 h) (K : Keep h h' ws) (q : ∀ x ∈ ws, h0.size ≤ x) : Ext h0 h' := by
  refine ⟨Nat.le_trans E.1 K.1, fun x c r => K.2.1 x c (E.2 x c r) fun z => ?_⟩
  have lt : x < h0.size := (Array.getElem?_eq_some_iff.mp r).1
  exact absurd (q x z) (Nat.not_le_of_lt lt)
theorem own_fldI {t : Term} {x : Addr} {C n d : String} {k : Int32} (ev : t.eval args s none [] s = some (.ref x)) (hq : (Jvm.Cond.eq (.field t C n d) (.int k)).value args s none s [] = some true) : Fld s s.heap x C n d (.int k) := by
  obtain ⟨u, v, e1, e2, k1, k2⟩ := cmp_v (Or.inl hq)
  obtain rfl : v = .int k := (Option.some.inj (e2.symm.trans (Term.int_eval k)))
  obtain ⟨z, rfl⟩ := k2
  obtain rfl : z = k := gotT (Jvm.Cond.eq_ints e1 (Term.int_eval k)) hq
  exact Fld.start ((fld_at ev).symm.trans e1)
theorem own_fldJ {t : Term} {x : Addr} {C n d : String} {k : Int64} (ev : t.eval args s none [] s = some (.ref x)) (hq : (Jvm.Cond.eq (.field t C n d) (.long k)).value args s none s [] = some true) : Fld s s.heap x C n d (.long k) := by
  obtain ⟨u, v, e1, e2, k1, k2⟩ := cmp_v (Or.inl hq)
  obtain rfl : v = .long k := (Option.some.inj (e2.symm.trans (long_at k)))
  obtain ⟨z, rfl⟩ := k2
  obtain rfl : z = k := gotT (eq_L e1 (long_at k)) hq
  exact Fld.start ((fld_at ev).symm.trans e1)
theorem own_len0 {t : Term} {x : Addr} {ty : FieldType} {cl : Cell} (ev : t.eval args s none [] s = some (.ref x)) (A : Arr s s.heap x cl ty) (hq : (Jvm.Cond.eq (.length t) (.int 0)).value args s none s [] = some true) : True := trivial
end OwnKit
/-- the sheet's i-th word -/
theorem ww {Z : State} {a0 : Array Value} (hw : ∀ d ∈ tables_1, d.before a0 Z = true) (i : Nat) {d : Jvm.Cond} (h : tables_1[i]? = some d) : d.before a0 Z = true := hw _ (List.mem_of_getElem? h)
theorem own_rem {x : Int32} {n : Int32} (hn : 0 < n.toInt) : 0 ≤ ((x &&& 2147483647) % n).toInt ∧ ((x &&& 2147483647) % n).toInt < n.toInt := by
  have e1 : (x &&& 2147483647).toInt = x.toInt % 2 ^ 31 := Jvm.Kit.i32_mask x 2147483647 (k := 31) (by decide) (by decide)
  have e2 := Jvm.Kit.i32_rem_nonneg (x := (x &&& 2147483647)) (y := n) (by omega)
  rw [e2]
  exact ⟨Int.emod_nonneg _ (by omega), Int.emod_lt_of_pos _ hn⟩
theorem own_i32 {x : Int32} {k : Int} (h : x.toInt = k) : x = Int32.ofInt k := by
  rw [← h, Int32.ofInt_toInt]
theorem own_lremE (x y : Int64) : x - (x / y) * y = x % y := Int64.toInt_inj.mp ((Jvm.Kit.i64_rem x y).trans (Int64.toInt_mod x y).symm)
theorem own_rem6 (x : Int32) : (x &&& 2147483647) % 6 = 0 ∨ (x &&& 2147483647) % 6 = 1 ∨ (x &&& 2147483647) % 6 = 2 ∨ (x &&& 2147483647) % 6 = 3 ∨ (x &&& 2147483647) % 6 = 4 ∨ (x &&& 2147483647) % 6 = 5 := by
  have h := own_rem (x := x) (n := 6) (by decide)
  generalize (x &&& 2147483647) % 6 = k at *
  have e : (6 : Int32).toInt = 6 := by decide
  have q : k.toInt = 0 ∨ k.toInt = 1 ∨ k.toInt = 2 ∨ k.toInt = 3 ∨ k.toInt = 4 ∨ k.toInt = 5 := by omega
  rcases q with q | q | q | q | q | q
  · exact Or.inl (own_i32 q)
  · exact Or.inr (Or.inl (own_i32 q))
  · exact Or.inr (Or.inr (Or.inl (own_i32 q)))
  · exact Or.inr (Or.inr (Or.inr (Or.inl (own_i32 q))))
  · exact Or.inr (Or.inr (Or.inr (Or.inr (Or.inl (own_i32 q)))))
  · exact Or.inr (Or.inr (Or.inr (Or.inr (Or.inr (own_i32 q)))))
/-- what stands at the start: the statics, their classes and fields -/
def SF (Z : State) (w_NL : Addr) (w_S : Addr) (w_RX : Addr) (w_RS : Addr) (w_X : Addr) (w_SRX : Addr) : Prop := Sta Z Z.heap "com/example/grendel/grendel/LockMode" "NL" "Lcom/example/grendel/grendel/LockMode;" (.ref w_NL) ∧ Exa Z Z.heap w_NL "com/example/grendel/grendel/LockMode" ∧ Sta Z Z.heap "com/example/grendel/grendel/LockMode" "S" "Lcom/example/grendel/grendel/LockMode;" (.ref w_S) ∧ Exa Z Z.heap w_S "com/example/grendel/grendel/LockMode" ∧ Fld Z Z.heap w_NL "com/example/grendel/grendel/LockMode" "admitted" "I" (.int (63 : Int32)) ∧ Fld Z Z.heap w_S "com/example/grendel/grendel/LockMode" "code" "I" (.int (4 : Int32)) ∧ Sta Z Z.heap "com/example/grendel/grendel/LockMode" "RX" "Lcom/example/grendel/grendel/LockMode;" (.ref w_RX) ∧ Exa Z Z.heap w_RX "com/example/grendel/grendel/LockMode" ∧ Sta Z Z.heap "com/example/grendel/grendel/LockMode" "RS" "Lcom/example/grendel/grendel/LockMode;" (.ref w_RS) ∧ Exa Z Z.heap w_RS "com/example/grendel/grendel/LockMode" ∧ Fld Z Z.heap w_RX "com/example/grendel/grendel/LockMode" "admitted" "I" (.int (7 : Int32)) ∧ Fld Z Z.heap w_RS "com/example/grendel/grendel/LockMode" "code" "I" (.int (2 : Int32)) ∧ Sta Z Z.heap "com/example/grendel/grendel/LockMode" "X" "Lcom/example/grendel/grendel/LockMode;" (.ref w_X) ∧ Exa Z Z.heap w_X "com/example/grendel/grendel/LockMode" ∧ Fld Z Z.heap w_X "com/example/grendel/grendel/LockMode" "code" "I" (.int (6 : Int32)) ∧ Fld Z Z.heap w_RX "com/example/grendel/grendel/LockMode" "code" "I" (.int (3 : Int32)) ∧ Sta Z Z.heap "com/example/grendel/grendel/LockMode" "SRX" "Lcom/example/grendel/grendel/LockMode;" (.ref w_SRX) ∧ Exa Z Z.heap w_SRX "com/example/grendel/grendel/LockMode" ∧ Fld Z Z.heap w_SRX "com/example/grendel/grendel/LockMode" "admitted" "I" (.int (3 : Int32)) ∧ Fld Z Z.heap w_NL "com/example/grendel/grendel/LockMode" "code" "I" (.int (1 : Int32)) ∧ Fld Z Z.heap w_RS "com/example/grendel/grendel/LockMode" "admitted" "I" (.int (31 : Int32)) ∧ Fld Z Z.heap w_SRX "com/example/grendel/grendel/LockMode" "code" "I" (.int (5 : Int32)) ∧ Fld Z Z.heap w_X "com/example/grendel/grendel/LockMode" "admitted" "I" (.int (1 : Int32)) ∧ Fld Z Z.heap w_S "com/example/grendel/grendel/LockMode" "admitted" "I" (.int (11 : Int32))
def adm (k : Int32) : Int32 := if k = 0 then 63 else if k = 1 then 31 else if k = 2 then 7 else if k = 3 then 11 else if k = 4 then 3 else 1
def cod (k : Int32) : Int32 := if k = 0 then 1 else if k = 1 then 2 else if k = 2 then 3 else if k = 3 then 4 else if k = 4 then 5 else 6
def admF (A C : Int32) : Int32 := if A &&& (1 <<< ((C - 1) &&& 31)) = 0 then 0 else 1
def expF (h r : Int32) : Int32 := if h = 1 then 1 else if r = 1 then 1 else if h = 2 ∧ ¬ r = 6 then 1 else if r = 2 ∧ ¬ h = 6 then 1 else if h = 3 ∧ r = 3 then 1 else if h = 4 ∧ r = 4 then 1 else 0
theorem own_law (x y : Int32) : admF (adm ((x &&& 2147483647) % 6)) (cod ((y &&& 2147483647) % 6)) = expF ((x &&& 2147483647) % 6 + 1) ((y &&& 2147483647) % 6 + 1) := by
  rcases own_rem6 x with h | h | h | h | h | h <;> rw [h] <;> rcases own_rem6 y with q | q | q | q | q | q <;> rw [q] <;> decide
theorem d1_0 : decode method_2_code 0 = .ok (.iload_n 0, 1) := by decide +kernel
theorem d1_1 : decode method_2_code 1 = .ok (.ifCond .ne 7, 3) := by decide +kernel
theorem d1_4 : decode method_2_code 4 = .ok (.getstatic 7, 3) := by decide +kernel
theorem d1_7 : decode method_2_code 7 = .ok (.areturn, 1) := by decide +kernel
theorem d1_8 : decode method_2_code 8 = .ok (.iload_n 0, 1) := by decide +kernel
theorem d1_9 : decode method_2_code 9 = .ok (.iconst 1, 1) := by decide +kernel
theorem d1_10 : decode method_2_code 10 = .ok (.if_icmp .ne 7, 3) := by decide +kernel
theorem d1_13 : decode method_2_code 13 = .ok (.getstatic 13, 3) := by decide +kernel
theorem d1_16 : decode method_2_code 16 = .ok (.areturn, 1) := by decide +kernel
theorem d1_17 : decode method_2_code 17 = .ok (.iload_n 0, 1) := by decide +kernel
theorem d1_18 : decode method_2_code 18 = .ok (.iconst 2, 1) := by decide +kernel
theorem d1_19 : decode method_2_code 19 = .ok (.if_icmp .ne 7, 3) := by decide +kernel
theorem d1_22 : decode method_2_code 22 = .ok (.getstatic 16, 3) := by decide +kernel
theorem d1_25 : decode method_2_code 25 = .ok (.areturn, 1) := by decide +kernel
theorem d1_26 : decode method_2_code 26 = .ok (.iload_n 0, 1) := by decide +kernel
theorem d1_27 : decode method_2_code 27 = .ok (.iconst 3, 1) := by decide +kernel
theorem d1_28 : decode method_2_code 28 = .ok (.if_icmp .ne 7, 3) := by decide +kernel
theorem d1_31 : decode method_2_code 31 = .ok (.getstatic 19, 3) := by decide +kernel
theorem d1_34 : decode method_2_code 34 = .ok (.areturn, 1) := by decide +kernel
theorem d1_35 : decode method_2_code 35 = .ok (.iload_n 0, 1) := by decide +kernel
theorem d1_36 : decode method_2_code 36 = .ok (.iconst 4, 1) := by decide +kernel
theorem d1_37 : decode method_2_code 37 = .ok (.if_icmp .ne 7, 3) := by decide +kernel
theorem d1_40 : decode method_2_code 40 = .ok (.getstatic 22, 3) := by decide +kernel
theorem d1_43 : decode method_2_code 43 = .ok (.areturn, 1) := by decide +kernel
theorem d1_44 : decode method_2_code 44 = .ok (.getstatic 25, 3) := by decide +kernel
theorem d1_47 : decode method_2_code 47 = .ok (.areturn, 1) := by decide +kernel
theorem pn_608303 : plainName "com/example/grendel/grendel/LockModeAdmitsPinLaw" = true := by first | (simp [plainName, overriddenIn]; done) | decide +kernel
theorem ef_rm1 (m : MethodId) (x0 : Int32) : entryFrame m #[(.int x0)] 1 = mkF m 0 #[.val (.int x0)] [] := by first | (simp [entryFrame, mkF, argsToLocals, Value.category]; done) | rfl
set_option maxRecDepth 65536 in
set_option maxHeartbeats 400000000 in
theorem rm1 (l : Launch) (Z : State) (a0 : Array Value) (hw : ∀ d ∈ tables_1, d.before a0 Z = true) (ws : List Jvm.Cond) (w_NL : Addr) (w_S : Addr) (w_RX : Addr) (w_RS : Addr) (w_X : Addr) (w_SRX : Addr) (hS : SF Z w_NL w_S w_RX w_RS w_X w_SRX) (p1 : Int32) (h0 : Heap) (O0 : Ext Z.heap h0)  :
    Con l Z h0 (⟨"com/example/grendel/grendel/LockModeAdmitsPinLaw", "pick", "(I)Lcom/example/grendel/grendel/LockMode;"⟩ : MethodName) method_2_code 1 (some (.object "com/example/grendel/grendel/LockMode")) ws ({ frames := 0, cells := 0, slots := 0, locals := 0 } : Room) #[(.int p1)] (fun v h L => (∃ w, v = some (.ref w) ∧ Exa Z h0 w "com/example/grendel/grendel/LockMode" ∧ Fld Z h0 w "com/example/grendel/grendel/LockMode" "admitted" "I" (.int (adm p1)) ∧ Fld Z h0 w "com/example/grendel/grendel/LockMode" "code" "I" (.int (cod p1))) ∧ Fr Z.heap.size L ∧ h = h0) := by
  obtain ⟨S_NL, E_NL, S_S, E_S, F_NL_admitted, F_S_code, S_RX, E_RX, S_RS, E_RS, F_RX_admitted, F_RS_code, S_X, E_X, F_X_code, F_RX_code, S_SRX, E_SRX, F_SRX_admitted, F_NL_code, F_RS_admitted, F_SRX_code, F_X_admitted, F_S_admitted⟩ := id hS
  refine own_con (plainFor_of_name pn_608303) ?_
  intro p e s m below meth c T0 X0 hx hby hml hown hnm hret hlk hZ e0
  have hown : s.vm.findClass "com/example/grendel/grendel/LockModeAdmitsPinLaw" = some m.cls := hown
  have N0 := Fr.nil Z.heap.size
  refine Go.st (S' := T0.setTop (mkF m 0 #[.val (.int p1)] [])) (fun _ k => castTop (ef_rm1 m p1) k) ?_
  refine Go.st (S' := T0.setTop (mkF m 1 #[.val (.int p1)] [(.int p1)])) (fun _ k => XS.iloadN X0.here hx rfl (hb hby d1_0) rfl k) ?_
  by_cases hc1 : p1 = (0 : Int32)
  · refine Go.st (S' := T0.setTop (mkF m 4 #[.val (.int p1)] [])) (fun _ k => XS.ifNo X0.here hx rfl (hb hby d1_1) rfl ((if0 _ _).trans (teq hc1).2) k) ?_
    obtain ⟨T1, X1, e1, st1⟩ := getS2 X0 hx hZ hown (host := "") (Or.inl (ww hw 5 rfl)) Via.refl e0 (S_NL.ext O0) (g := (mkF m 4 #[.val (.int p1)] [])) rfl (hb hby d1_4)
    refine Go.st (S' := T1.setTop (mkF m 7 #[.val (.int p1)] [(.ref w_NL)])) st1 ?_
    exact own_retA X1 hx hlk hret rfl rfl rfl (hb hby d1_7) e1 ⟨⟨_, rfl, E_NL.ext O0, (by rw [show adm p1 = (63 : Int32) by simp +decide [adm, hc1]]; exact F_NL_admitted.ext O0), (by rw [show cod p1 = (1 : Int32) by simp +decide [cod, hc1]]; exact F_NL_code.ext O0)⟩, N0, rfl⟩ (by decide) (by decide)
  · refine Go.st (S' := T0.setTop (mkF m 8 #[.val (.int p1)] [])) (fun _ k => XS.ifYes X0.here hx rfl (pc0 := 1) (pc' := 8) rfl (hb hby d1_1) rfl ((if0 _ _).trans (feq hc1).2) (by decide) (by decide) k) ?_
    refine Go.st (S' := T0.setTop (mkF m 9 #[.val (.int p1)] [(.int p1)])) (fun _ k => XS.iloadN X0.here hx rfl (hb hby d1_8) rfl k) ?_
    refine Go.st (S' := T0.setTop (mkF m 10 #[.val (.int p1)] [(.int (1 : Int32)), (.int p1)])) (fun _ k => XS.iconst X0.here hx rfl (hb hby d1_9) k) ?_
    by_cases hc10 : p1 = (1 : Int32)
    · refine Go.st (S' := T0.setTop (mkF m 13 #[.val (.int p1)] [])) (fun _ k => XS.icmpNo X0.here hx rfl (hb hby d1_10) rfl (teq hc10).2 k) ?_
      obtain ⟨T2, X2, e2, st2⟩ := getS2 X0 hx hZ hown (host := "") (Or.inl (ww hw 24 rfl)) Via.refl e0 (S_RS.ext O0) (g := (mkF m 13 #[.val (.int p1)] [])) rfl (hb hby d1_13)
      refine Go.st (S' := T2.setTop (mkF m 16 #[.val (.int p1)] [(.ref w_RS)])) st2 ?_
      exact own_retA X2 hx hlk hret rfl rfl rfl (hb hby d1_16) e2 ⟨⟨_, rfl, E_RS.ext O0, (by rw [show adm p1 = (31 : Int32) by simp +decide [adm, hc1, hc10]]; exact F_RS_admitted.ext O0), (by rw [show cod p1 = (2 : Int32) by simp +decide [cod, hc1, hc10]]; exact F_RS_code.ext O0)⟩, N0, rfl⟩ (by decide) (by decide)
    · refine Go.st (S' := T0.setTop (mkF m 17 #[.val (.int p1)] [])) (fun _ k => XS.icmpYes X0.here hx rfl (pc0 := 10) (pc' := 17) rfl (hb hby d1_10) rfl (feq hc10).2 (by decide) (by decide) k) ?_
      refine Go.st (S' := T0.setTop (mkF m 18 #[.val (.int p1)] [(.int p1)])) (fun _ k => XS.iloadN X0.here hx rfl (hb hby d1_17) rfl k) ?_
      refine Go.st (S' := T0.setTop (mkF m 19 #[.val (.int p1)] [(.int (2 : Int32)), (.int p1)])) (fun _ k => XS.iconst X0.here hx rfl (hb hby d1_18) k) ?_
      by_cases hc19 : p1 = (2 : Int32)
      · refine Go.st (S' := T0.setTop (mkF m 22 #[.val (.int p1)] [])) (fun _ k => XS.icmpNo X0.here hx rfl (hb hby d1_19) rfl (teq hc19).2 k) ?_
        obtain ⟨T3, X3, e3, st3⟩ := getS2 X0 hx hZ hown (host := "") (Or.inl (ww hw 22 rfl)) Via.refl e0 (S_RX.ext O0) (g := (mkF m 22 #[.val (.int p1)] [])) rfl (hb hby d1_22)
        refine Go.st (S' := T3.setTop (mkF m 25 #[.val (.int p1)] [(.ref w_RX)])) st3 ?_
        exact own_retA X3 hx hlk hret rfl rfl rfl (hb hby d1_25) e3 ⟨⟨_, rfl, E_RX.ext O0, (by rw [show adm p1 = (7 : Int32) by simp +decide [adm, hc1, hc10, hc19]]; exact F_RX_admitted.ext O0), (by rw [show cod p1 = (3 : Int32) by simp +decide [cod, hc1, hc10, hc19]]; exact F_RX_code.ext O0)⟩, N0, rfl⟩ (by decide) (by decide)
      · refine Go.st (S' := T0.setTop (mkF m 26 #[.val (.int p1)] [])) (fun _ k => XS.icmpYes X0.here hx rfl (pc0 := 19) (pc' := 26) rfl (hb hby d1_19) rfl (feq hc19).2 (by decide) (by decide) k) ?_
        refine Go.st (S' := T0.setTop (mkF m 27 #[.val (.int p1)] [(.int p1)])) (fun _ k => XS.iloadN X0.here hx rfl (hb hby d1_26) rfl k) ?_
        refine Go.st (S' := T0.setTop (mkF m 28 #[.val (.int p1)] [(.int (3 : Int32)), (.int p1)])) (fun _ k => XS.iconst X0.here hx rfl (hb hby d1_27) k) ?_
        by_cases hc28 : p1 = (3 : Int32)
        · refine Go.st (S' := T0.setTop (mkF m 31 #[.val (.int p1)] [])) (fun _ k => XS.icmpNo X0.here hx rfl (hb hby d1_28) rfl (teq hc28).2 k) ?_
          obtain ⟨T4, X4, e4, st4⟩ := getS2 X0 hx hZ hown (host := "") (Or.inl (ww hw 8 rfl)) Via.refl e0 (S_S.ext O0) (g := (mkF m 31 #[.val (.int p1)] [])) rfl (hb hby d1_31)
          refine Go.st (S' := T4.setTop (mkF m 34 #[.val (.int p1)] [(.ref w_S)])) st4 ?_
          exact own_retA X4 hx hlk hret rfl rfl rfl (hb hby d1_34) e4 ⟨⟨_, rfl, E_S.ext O0, (by rw [show adm p1 = (11 : Int32) by simp +decide [adm, hc1, hc10, hc19, hc28]]; exact F_S_admitted.ext O0), (by rw [show cod p1 = (4 : Int32) by simp +decide [cod, hc1, hc10, hc19, hc28]]; exact F_S_code.ext O0)⟩, N0, rfl⟩ (by decide) (by decide)
        · refine Go.st (S' := T0.setTop (mkF m 35 #[.val (.int p1)] [])) (fun _ k => XS.icmpYes X0.here hx rfl (pc0 := 28) (pc' := 35) rfl (hb hby d1_28) rfl (feq hc28).2 (by decide) (by decide) k) ?_
          refine Go.st (S' := T0.setTop (mkF m 36 #[.val (.int p1)] [(.int p1)])) (fun _ k => XS.iloadN X0.here hx rfl (hb hby d1_35) rfl k) ?_
          refine Go.st (S' := T0.setTop (mkF m 37 #[.val (.int p1)] [(.int (4 : Int32)), (.int p1)])) (fun _ k => XS.iconst X0.here hx rfl (hb hby d1_36) k) ?_
          by_cases hc37 : p1 = (4 : Int32)
          · refine Go.st (S' := T0.setTop (mkF m 40 #[.val (.int p1)] [])) (fun _ k => XS.icmpNo X0.here hx rfl (hb hby d1_37) rfl (teq hc37).2 k) ?_
            obtain ⟨T5, X5, e5, st5⟩ := getS2 X0 hx hZ hown (host := "") (Or.inl (ww hw 28 rfl)) Via.refl e0 (S_SRX.ext O0) (g := (mkF m 40 #[.val (.int p1)] [])) rfl (hb hby d1_40)
            refine Go.st (S' := T5.setTop (mkF m 43 #[.val (.int p1)] [(.ref w_SRX)])) st5 ?_
            exact own_retA X5 hx hlk hret rfl rfl rfl (hb hby d1_43) e5 ⟨⟨_, rfl, E_SRX.ext O0, (by rw [show adm p1 = (3 : Int32) by simp +decide [adm, hc1, hc10, hc19, hc28, hc37]]; exact F_SRX_admitted.ext O0), (by rw [show cod p1 = (5 : Int32) by simp +decide [cod, hc1, hc10, hc19, hc28, hc37]]; exact F_SRX_code.ext O0)⟩, N0, rfl⟩ (by decide) (by decide)
          · refine Go.st (S' := T0.setTop (mkF m 44 #[.val (.int p1)] [])) (fun _ k => XS.icmpYes X0.here hx rfl (pc0 := 37) (pc' := 44) rfl (hb hby d1_37) rfl (feq hc37).2 (by decide) (by decide) k) ?_
            obtain ⟨T6, X6, e6, st6⟩ := getS2 X0 hx hZ hown (host := "") (Or.inl (ww hw 26 rfl)) Via.refl e0 (S_X.ext O0) (g := (mkF m 44 #[.val (.int p1)] [])) rfl (hb hby d1_44)
            refine Go.st (S' := T6.setTop (mkF m 47 #[.val (.int p1)] [(.ref w_X)])) st6 ?_
            exact own_retA X6 hx hlk hret rfl rfl rfl (hb hby d1_47) e6 ⟨⟨_, rfl, E_X.ext O0, (by rw [show adm p1 = (1 : Int32) by simp +decide [adm, hc1, hc10, hc19, hc28, hc37]]; exact F_X_admitted.ext O0), (by rw [show cod p1 = (6 : Int32) by simp +decide [cod, hc1, hc10, hc19, hc28, hc37]]; exact F_X_code.ext O0)⟩, N0, rfl⟩ (by decide) (by decide)
theorem d2_0 : decode prog_16_method_6_code 0 = .ok (.aload_n 0, 1) := by decide +kernel
theorem d2_1 : decode prog_16_method_6_code 1 = .ok (.getfield 55, 3) := by decide +kernel
theorem d2_4 : decode prog_16_method_6_code 4 = .ok (.iconst 1, 1) := by decide +kernel
theorem d2_5 : decode prog_16_method_6_code 5 = .ok (.aload_n 1, 1) := by decide +kernel
theorem d2_6 : decode prog_16_method_6_code 6 = .ok (.getfield 41, 3) := by decide +kernel
theorem d2_9 : decode prog_16_method_6_code 9 = .ok (.iconst 1, 1) := by decide +kernel
theorem d2_10 : decode prog_16_method_6_code 10 = .ok (.isub, 1) := by decide +kernel
theorem d2_11 : decode prog_16_method_6_code 11 = .ok (.ishl, 1) := by decide +kernel
theorem d2_12 : decode prog_16_method_6_code 12 = .ok (.iand, 1) := by decide +kernel
theorem d2_13 : decode prog_16_method_6_code 13 = .ok (.ifCond .eq 7, 3) := by decide +kernel
theorem d2_16 : decode prog_16_method_6_code 16 = .ok (.iconst 1, 1) := by decide +kernel
theorem d2_17 : decode prog_16_method_6_code 17 = .ok (.goto 4, 3) := by decide +kernel
theorem d2_20 : decode prog_16_method_6_code 20 = .ok (.iconst 0, 1) := by decide +kernel
theorem d2_21 : decode prog_16_method_6_code 21 = .ok (.ireturn, 1) := by decide +kernel
theorem pn_580335 : plainName "com/example/grendel/grendel/LockMode" = true := by first | (simp [plainName, overriddenIn]; done) | decide +kernel
theorem ef_rm2 (m : MethodId) (x0 : Addr) (x1 : Addr) : entryFrame m #[(.ref x0), (.ref x1)] 2 = mkF m 0 #[.val (.ref x0), .val (.ref x1)] [] := by first | (simp [entryFrame, mkF, argsToLocals, Value.category]; done) | rfl
set_option maxRecDepth 65536 in
set_option maxHeartbeats 400000000 in
theorem rm2 (l : Launch) (Z : State) (a0 : Array Value) (hw : ∀ d ∈ tables_1, d.before a0 Z = true) (ws : List Jvm.Cond) (w_NL : Addr) (w_S : Addr) (w_RX : Addr) (w_RS : Addr) (w_X : Addr) (w_SRX : Addr) (hS : SF Z w_NL w_S w_RX w_RS w_X w_SRX) (a1 : Addr) (a2 : Addr) (A C : Int32) (h0 : Heap) (O0 : Ext Z.heap h0) (FA : Fld Z h0 a1 "com/example/grendel/grendel/LockMode" "admitted" "I" (.int A)) (FC : Fld Z h0 a2 "com/example/grendel/grendel/LockMode" "code" "I" (.int C)) :
    Con l Z h0 (⟨"com/example/grendel/grendel/LockMode", "admits", "(Lcom/example/grendel/grendel/LockMode;)Z"⟩ : MethodName) prog_16_method_6_code 2 (some .boolean) ws ({ frames := 0, cells := 0, slots := 0, locals := 0 } : Room) #[(.ref a1), (.ref a2)] (fun v h L => v = some (.int (admF A C)) ∧ Fr Z.heap.size L ∧ h = h0) := by
  obtain ⟨S_NL, E_NL, S_S, E_S, F_NL_admitted, F_S_code, S_RX, E_RX, S_RS, E_RS, F_RX_admitted, F_RS_code, S_X, E_X, F_X_code, F_RX_code, S_SRX, E_SRX, F_SRX_admitted, F_NL_code, F_RS_admitted, F_SRX_code, F_X_admitted, F_S_admitted⟩ := id hS
  refine own_con (plainFor_of_name pn_580335) ?_
  intro p e s m below meth c T0 X0 hx hby hml hown hnm hret hlk hZ e0
  have hown : s.vm.findClass "com/example/grendel/grendel/LockMode" = some m.cls := hown
  have N0 := Fr.nil Z.heap.size
  refine Go.st (S' := T0.setTop (mkF m 0 #[.val (.ref a1), .val (.ref a2)] [])) (fun _ k => castTop (ef_rm2 m a1 a2) k) ?_
  refine Go.st (S' := T0.setTop (mkF m 1 #[.val (.ref a1), .val (.ref a2)] [(.ref a1)])) (fun _ k => XS.aloadN X0.here hx rfl (hb hby d2_0) rfl rfl k) ?_
  obtain ⟨T7, X7, e7, st7⟩ := getF X0 hx hZ hown (host := "") (Or.inl (ww hw 15 rfl)) Via.refl e0 FA (g := (mkF m 1 #[.val (.ref a1), .val (.ref a2)] [(.ref a1)])) rfl rfl (hb hby d2_1)
  refine Go.st (S' := T7.setTop (mkF m 4 #[.val (.ref a1), .val (.ref a2)] [(.int A)])) st7 ?_
  refine Go.st (S' := T7.setTop (mkF m 5 #[.val (.ref a1), .val (.ref a2)] [(.int (1 : Int32)), (.int A)])) (fun _ k => XS.iconst X7.here hx rfl (hb hby d2_4) k) ?_
  refine Go.st (S' := T7.setTop (mkF m 6 #[.val (.ref a1), .val (.ref a2)] [(.ref a2), (.int (1 : Int32)), (.int A)])) (fun _ k => XS.aloadN X7.here hx rfl (hb hby d2_5) rfl rfl k) ?_
  obtain ⟨T8, X8, e8, st8⟩ := getF X7 hx hZ hown (host := "") (Or.inl (ww hw 17 rfl)) Via.refl e7 FC (g := (mkF m 6 #[.val (.ref a1), .val (.ref a2)] [(.ref a2), (.int (1 : Int32)), (.int A)])) rfl rfl (hb hby d2_6)
  refine Go.st (S' := T8.setTop (mkF m 9 #[.val (.ref a1), .val (.ref a2)] [(.int C), (.int (1 : Int32)), (.int A)])) st8 ?_
  refine Go.st (S' := T8.setTop (mkF m 10 #[.val (.ref a1), .val (.ref a2)] [(.int (1 : Int32)), (.int C), (.int (1 : Int32)), (.int A)])) (fun _ k => XS.iconst X8.here hx rfl (hb hby d2_9) k) ?_
  refine Go.st (S' := T8.setTop (mkF m 11 #[.val (.ref a1), .val (.ref a2)] [(.int (C - (1 : Int32))), (.int (1 : Int32)), (.int A)])) (fun _ k => XS.isub X8.here hx rfl (hb hby d2_10) rfl k) ?_
  refine Go.st (S' := T8.setTop (mkF m 12 #[.val (.ref a1), .val (.ref a2)] [(.int ((1 : Int32) <<< ((C - (1 : Int32)) &&& 31))), (.int A)])) (fun _ k => XS.ishl X8.here hx rfl (hb hby d2_11) rfl k) ?_
  refine Go.st (S' := T8.setTop (mkF m 13 #[.val (.ref a1), .val (.ref a2)] [(.int (A &&& ((1 : Int32) <<< ((C - (1 : Int32)) &&& 31))))])) (fun _ k => XS.iand X8.here hx rfl (hb hby d2_12) rfl k) ?_
  by_cases hc13 : (A &&& ((1 : Int32) <<< ((C - (1 : Int32)) &&& 31))) = (0 : Int32)
  · refine Go.st (S' := T8.setTop (mkF m 20 #[.val (.ref a1), .val (.ref a2)] [])) (fun _ k => XS.ifYes X8.here hx rfl (pc0 := 13) (pc' := 20) rfl (hb hby d2_13) rfl ((if0 _ _).trans (teq hc13).1) (by decide) (by decide) k) ?_
    refine Go.st (S' := T8.setTop (mkF m 21 #[.val (.ref a1), .val (.ref a2)] [(.int (0 : Int32))])) (fun _ k => XS.iconst X8.here hx rfl (hb hby d2_20) k) ?_
    exact own_retN X8 hx hlk hret (by simp) (hb hby d2_21) e8 ⟨by simp [admF, hc13, nar], N0, rfl⟩ (by decide) (by decide)
  · refine Go.st (S' := T8.setTop (mkF m 16 #[.val (.ref a1), .val (.ref a2)] [])) (fun _ k => XS.ifNo X8.here hx rfl (hb hby d2_13) rfl ((if0 _ _).trans (feq hc13).1) k) ?_
    refine Go.st (S' := T8.setTop (mkF m 17 #[.val (.ref a1), .val (.ref a2)] [(.int (1 : Int32))])) (fun _ k => XS.iconst X8.here hx rfl (hb hby d2_16) k) ?_
    refine Go.st (S' := T8.setTop (mkF m 21 #[.val (.ref a1), .val (.ref a2)] [(.int (1 : Int32))])) (fun _ k => XS.goto X8.here hx rfl (pc0 := 17) (pc' := 21) rfl (hb hby d2_17) (by decide) (by decide) k) ?_
    exact own_retN X8 hx hlk hret (by simp) (hb hby d2_21) e8 ⟨by simp [admF, hc13, nar], N0, rfl⟩ (by decide) (by decide)
theorem d3_0 : decode method_3_code 0 = .ok (.iload_n 0, 1) := by decide +kernel
theorem d3_1 : decode method_3_code 1 = .ok (.iconst 1, 1) := by decide +kernel
theorem d3_2 : decode method_3_code 2 = .ok (.if_icmp .eq 8, 3) := by decide +kernel
theorem d3_5 : decode method_3_code 5 = .ok (.iload_n 1, 1) := by decide +kernel
theorem d3_6 : decode method_3_code 6 = .ok (.iconst 1, 1) := by decide +kernel
theorem d3_7 : decode method_3_code 7 = .ok (.if_icmp .ne 5, 3) := by decide +kernel
theorem d3_10 : decode method_3_code 10 = .ok (.iconst 1, 1) := by decide +kernel
theorem d3_11 : decode method_3_code 11 = .ok (.ireturn, 1) := by decide +kernel
theorem d3_12 : decode method_3_code 12 = .ok (.iload_n 0, 1) := by decide +kernel
theorem d3_13 : decode method_3_code 13 = .ok (.iconst 2, 1) := by decide +kernel
theorem d3_14 : decode method_3_code 14 = .ok (.if_icmp .ne 11, 3) := by decide +kernel
theorem d3_17 : decode method_3_code 17 = .ok (.iload_n 1, 1) := by decide +kernel
theorem d3_18 : decode method_3_code 18 = .ok (.bipush 6, 2) := by decide +kernel
theorem d3_20 : decode method_3_code 20 = .ok (.if_icmp .eq 5, 3) := by decide +kernel
theorem d3_23 : decode method_3_code 23 = .ok (.iconst 1, 1) := by decide +kernel
theorem d3_24 : decode method_3_code 24 = .ok (.ireturn, 1) := by decide +kernel
theorem d3_25 : decode method_3_code 25 = .ok (.iload_n 1, 1) := by decide +kernel
theorem d3_26 : decode method_3_code 26 = .ok (.iconst 2, 1) := by decide +kernel
theorem d3_27 : decode method_3_code 27 = .ok (.if_icmp .ne 11, 3) := by decide +kernel
theorem d3_30 : decode method_3_code 30 = .ok (.iload_n 0, 1) := by decide +kernel
theorem d3_31 : decode method_3_code 31 = .ok (.bipush 6, 2) := by decide +kernel
theorem d3_33 : decode method_3_code 33 = .ok (.if_icmp .eq 5, 3) := by decide +kernel
theorem d3_36 : decode method_3_code 36 = .ok (.iconst 1, 1) := by decide +kernel
theorem d3_37 : decode method_3_code 37 = .ok (.ireturn, 1) := by decide +kernel
theorem d3_38 : decode method_3_code 38 = .ok (.iload_n 0, 1) := by decide +kernel
theorem d3_39 : decode method_3_code 39 = .ok (.iconst 3, 1) := by decide +kernel
theorem d3_40 : decode method_3_code 40 = .ok (.if_icmp .ne 10, 3) := by decide +kernel
theorem d3_43 : decode method_3_code 43 = .ok (.iload_n 1, 1) := by decide +kernel
theorem d3_44 : decode method_3_code 44 = .ok (.iconst 3, 1) := by decide +kernel
theorem d3_45 : decode method_3_code 45 = .ok (.if_icmp .ne 5, 3) := by decide +kernel
theorem d3_48 : decode method_3_code 48 = .ok (.iconst 1, 1) := by decide +kernel
theorem d3_49 : decode method_3_code 49 = .ok (.ireturn, 1) := by decide +kernel
theorem d3_50 : decode method_3_code 50 = .ok (.iload_n 0, 1) := by decide +kernel
theorem d3_51 : decode method_3_code 51 = .ok (.iconst 4, 1) := by decide +kernel
theorem d3_52 : decode method_3_code 52 = .ok (.if_icmp .ne 10, 3) := by decide +kernel
theorem d3_55 : decode method_3_code 55 = .ok (.iload_n 1, 1) := by decide +kernel
theorem d3_56 : decode method_3_code 56 = .ok (.iconst 4, 1) := by decide +kernel
theorem d3_57 : decode method_3_code 57 = .ok (.if_icmp .ne 5, 3) := by decide +kernel
theorem d3_60 : decode method_3_code 60 = .ok (.iconst 1, 1) := by decide +kernel
theorem d3_61 : decode method_3_code 61 = .ok (.ireturn, 1) := by decide +kernel
theorem d3_62 : decode method_3_code 62 = .ok (.iconst 0, 1) := by decide +kernel
theorem d3_63 : decode method_3_code 63 = .ok (.ireturn, 1) := by decide +kernel
theorem ef_rm3 (m : MethodId) (x0 : Int32) (x1 : Int32) : entryFrame m #[(.int x0), (.int x1)] 2 = mkF m 0 #[.val (.int x0), .val (.int x1)] [] := by first | (simp [entryFrame, mkF, argsToLocals, Value.category]; done) | rfl
set_option maxRecDepth 65536 in
set_option maxHeartbeats 400000000 in
theorem rm3 (l : Launch) (Z : State) (a0 : Array Value) (hw : ∀ d ∈ tables_1, d.before a0 Z = true) (ws : List Jvm.Cond) (w_NL : Addr) (w_S : Addr) (w_RX : Addr) (w_RS : Addr) (w_X : Addr) (w_SRX : Addr) (hS : SF Z w_NL w_S w_RX w_RS w_X w_SRX) (p1 : Int32) (p2 : Int32) (h0 : Heap) (O0 : Ext Z.heap h0)  :
    Con l Z h0 (⟨"com/example/grendel/grendel/LockModeAdmitsPinLaw", "expected", "(II)Z"⟩ : MethodName) method_3_code 2 (some .boolean) ws ({ frames := 0, cells := 0, slots := 0, locals := 0 } : Room) #[(.int p1), (.int p2)] (fun v h L => v = some (.int (expF p1 p2)) ∧ Fr Z.heap.size L ∧ h = h0) := by
  obtain ⟨S_NL, E_NL, S_S, E_S, F_NL_admitted, F_S_code, S_RX, E_RX, S_RS, E_RS, F_RX_admitted, F_RS_code, S_X, E_X, F_X_code, F_RX_code, S_SRX, E_SRX, F_SRX_admitted, F_NL_code, F_RS_admitted, F_SRX_code, F_X_admitted, F_S_admitted⟩ := id hS
  refine own_con (plainFor_of_name pn_608303) ?_
  intro p e s m below meth c T0 X0 hx hby hml hown hnm hret hlk hZ e0
  have hown : s.vm.findClass "com/example/grendel/grendel/LockModeAdmitsPinLaw" = some m.cls := hown
  have N0 := Fr.nil Z.heap.size
  refine Go.st (S' := T0.setTop (mkF m 0 #[.val (.int p1), .val (.int p2)] [])) (fun _ k => castTop (ef_rm3 m p1 p2) k) ?_
  refine Go.st (S' := T0.setTop (mkF m 1 #[.val (.int p1), .val (.int p2)] [(.int p1)])) (fun _ k => XS.iloadN X0.here hx rfl (hb hby d3_0) rfl k) ?_
  refine Go.st (S' := T0.setTop (mkF m 2 #[.val (.int p1), .val (.int p2)] [(.int (1 : Int32)), (.int p1)])) (fun _ k => XS.iconst X0.here hx rfl (hb hby d3_1) k) ?_
  by_cases hc2 : p1 = (1 : Int32)
  · refine Go.st (S' := T0.setTop (mkF m 10 #[.val (.int p1), .val (.int p2)] [])) (fun _ k => XS.icmpYes X0.here hx rfl (pc0 := 2) (pc' := 10) rfl (hb hby d3_2) rfl (teq hc2).1 (by decide) (by decide) k) ?_
    refine Go.st (S' := T0.setTop (mkF m 11 #[.val (.int p1), .val (.int p2)] [(.int (1 : Int32))])) (fun _ k => XS.iconst X0.here hx rfl (hb hby d3_10) k) ?_
    exact own_retN X0 hx hlk hret (by simp) (hb hby d3_11) e0 ⟨by rw [show expF p1 p2 = (1 : Int32) by simp +decide [expF, hc2]]; rfl, N0, rfl⟩ (by decide) (by decide)
  · refine Go.st (S' := T0.setTop (mkF m 5 #[.val (.int p1), .val (.int p2)] [])) (fun _ k => XS.icmpNo X0.here hx rfl (hb hby d3_2) rfl (feq hc2).1 k) ?_
    refine Go.st (S' := T0.setTop (mkF m 6 #[.val (.int p1), .val (.int p2)] [(.int p2)])) (fun _ k => XS.iloadN X0.here hx rfl (hb hby d3_5) rfl k) ?_
    refine Go.st (S' := T0.setTop (mkF m 7 #[.val (.int p1), .val (.int p2)] [(.int (1 : Int32)), (.int p2)])) (fun _ k => XS.iconst X0.here hx rfl (hb hby d3_6) k) ?_
    by_cases hc7 : p2 = (1 : Int32)
    · refine Go.st (S' := T0.setTop (mkF m 10 #[.val (.int p1), .val (.int p2)] [])) (fun _ k => XS.icmpNo X0.here hx rfl (hb hby d3_7) rfl (teq hc7).2 k) ?_
      refine Go.st (S' := T0.setTop (mkF m 11 #[.val (.int p1), .val (.int p2)] [(.int (1 : Int32))])) (fun _ k => XS.iconst X0.here hx rfl (hb hby d3_10) k) ?_
      exact own_retN X0 hx hlk hret (by simp) (hb hby d3_11) e0 ⟨by rw [show expF p1 p2 = (1 : Int32) by simp +decide [expF, hc2, hc7]]; rfl, N0, rfl⟩ (by decide) (by decide)
    · refine Go.st (S' := T0.setTop (mkF m 12 #[.val (.int p1), .val (.int p2)] [])) (fun _ k => XS.icmpYes X0.here hx rfl (pc0 := 7) (pc' := 12) rfl (hb hby d3_7) rfl (feq hc7).2 (by decide) (by decide) k) ?_
      refine Go.st (S' := T0.setTop (mkF m 13 #[.val (.int p1), .val (.int p2)] [(.int p1)])) (fun _ k => XS.iloadN X0.here hx rfl (hb hby d3_12) rfl k) ?_
      refine Go.st (S' := T0.setTop (mkF m 14 #[.val (.int p1), .val (.int p2)] [(.int (2 : Int32)), (.int p1)])) (fun _ k => XS.iconst X0.here hx rfl (hb hby d3_13) k) ?_
      by_cases hc14 : p1 = (2 : Int32)
      · refine Go.st (S' := T0.setTop (mkF m 17 #[.val (.int p1), .val (.int p2)] [])) (fun _ k => XS.icmpNo X0.here hx rfl (hb hby d3_14) rfl (teq hc14).2 k) ?_
        refine Go.st (S' := T0.setTop (mkF m 18 #[.val (.int p1), .val (.int p2)] [(.int p2)])) (fun _ k => XS.iloadN X0.here hx rfl (hb hby d3_17) rfl k) ?_
        refine Go.st (S' := T0.setTop (mkF m 20 #[.val (.int p1), .val (.int p2)] [(.int (6 : Int32)), (.int p2)])) (fun _ k => XS.bipush X0.here hx rfl (hb hby d3_18) k) ?_
        by_cases hc20 : p2 = (6 : Int32)
        · refine Go.st (S' := T0.setTop (mkF m 25 #[.val (.int p1), .val (.int p2)] [])) (fun _ k => XS.icmpYes X0.here hx rfl (pc0 := 20) (pc' := 25) rfl (hb hby d3_20) rfl (teq hc20).1 (by decide) (by decide) k) ?_
          refine Go.st (S' := T0.setTop (mkF m 26 #[.val (.int p1), .val (.int p2)] [(.int p2)])) (fun _ k => XS.iloadN X0.here hx rfl (hb hby d3_25) rfl k) ?_
          refine Go.st (S' := T0.setTop (mkF m 27 #[.val (.int p1), .val (.int p2)] [(.int (2 : Int32)), (.int p2)])) (fun _ k => XS.iconst X0.here hx rfl (hb hby d3_26) k) ?_
          refine Go.st (S' := T0.setTop (mkF m 38 #[.val (.int p1), .val (.int p2)] [])) (fun _ k => XS.icmpYes X0.here hx rfl (pc0 := 27) (pc' := 38) rfl (hb hby d3_27) rfl (feq (fun q => absurd (hc20.symm.trans q) (by decide))).2 (by decide) (by decide) k) ?_
          refine Go.st (S' := T0.setTop (mkF m 39 #[.val (.int p1), .val (.int p2)] [(.int p1)])) (fun _ k => XS.iloadN X0.here hx rfl (hb hby d3_38) rfl k) ?_
          refine Go.st (S' := T0.setTop (mkF m 40 #[.val (.int p1), .val (.int p2)] [(.int (3 : Int32)), (.int p1)])) (fun _ k => XS.iconst X0.here hx rfl (hb hby d3_39) k) ?_
          refine Go.st (S' := T0.setTop (mkF m 50 #[.val (.int p1), .val (.int p2)] [])) (fun _ k => XS.icmpYes X0.here hx rfl (pc0 := 40) (pc' := 50) rfl (hb hby d3_40) rfl (feq (fun q => absurd (hc14.symm.trans q) (by decide))).2 (by decide) (by decide) k) ?_
          refine Go.st (S' := T0.setTop (mkF m 51 #[.val (.int p1), .val (.int p2)] [(.int p1)])) (fun _ k => XS.iloadN X0.here hx rfl (hb hby d3_50) rfl k) ?_
          refine Go.st (S' := T0.setTop (mkF m 52 #[.val (.int p1), .val (.int p2)] [(.int (4 : Int32)), (.int p1)])) (fun _ k => XS.iconst X0.here hx rfl (hb hby d3_51) k) ?_
          refine Go.st (S' := T0.setTop (mkF m 62 #[.val (.int p1), .val (.int p2)] [])) (fun _ k => XS.icmpYes X0.here hx rfl (pc0 := 52) (pc' := 62) rfl (hb hby d3_52) rfl (feq (fun q => absurd (hc14.symm.trans q) (by decide))).2 (by decide) (by decide) k) ?_
          refine Go.st (S' := T0.setTop (mkF m 63 #[.val (.int p1), .val (.int p2)] [(.int (0 : Int32))])) (fun _ k => XS.iconst X0.here hx rfl (hb hby d3_62) k) ?_
          exact own_retN X0 hx hlk hret (by simp) (hb hby d3_63) e0 ⟨by rw [show expF p1 p2 = (0 : Int32) by simp +decide [expF, hc2, hc7, hc14, hc20]]; rfl, N0, rfl⟩ (by decide) (by decide)
        · refine Go.st (S' := T0.setTop (mkF m 23 #[.val (.int p1), .val (.int p2)] [])) (fun _ k => XS.icmpNo X0.here hx rfl (hb hby d3_20) rfl (feq hc20).1 k) ?_
          refine Go.st (S' := T0.setTop (mkF m 24 #[.val (.int p1), .val (.int p2)] [(.int (1 : Int32))])) (fun _ k => XS.iconst X0.here hx rfl (hb hby d3_23) k) ?_
          exact own_retN X0 hx hlk hret (by simp) (hb hby d3_24) e0 ⟨by rw [show expF p1 p2 = (1 : Int32) by simp +decide [expF, hc2, hc7, hc14, hc20]]; rfl, N0, rfl⟩ (by decide) (by decide)
      · refine Go.st (S' := T0.setTop (mkF m 25 #[.val (.int p1), .val (.int p2)] [])) (fun _ k => XS.icmpYes X0.here hx rfl (pc0 := 14) (pc' := 25) rfl (hb hby d3_14) rfl (feq hc14).2 (by decide) (by decide) k) ?_
        refine Go.st (S' := T0.setTop (mkF m 26 #[.val (.int p1), .val (.int p2)] [(.int p2)])) (fun _ k => XS.iloadN X0.here hx rfl (hb hby d3_25) rfl k) ?_
        refine Go.st (S' := T0.setTop (mkF m 27 #[.val (.int p1), .val (.int p2)] [(.int (2 : Int32)), (.int p2)])) (fun _ k => XS.iconst X0.here hx rfl (hb hby d3_26) k) ?_
        by_cases hc27 : p2 = (2 : Int32)
        · refine Go.st (S' := T0.setTop (mkF m 30 #[.val (.int p1), .val (.int p2)] [])) (fun _ k => XS.icmpNo X0.here hx rfl (hb hby d3_27) rfl (teq hc27).2 k) ?_
          refine Go.st (S' := T0.setTop (mkF m 31 #[.val (.int p1), .val (.int p2)] [(.int p1)])) (fun _ k => XS.iloadN X0.here hx rfl (hb hby d3_30) rfl k) ?_
          refine Go.st (S' := T0.setTop (mkF m 33 #[.val (.int p1), .val (.int p2)] [(.int (6 : Int32)), (.int p1)])) (fun _ k => XS.bipush X0.here hx rfl (hb hby d3_31) k) ?_
          by_cases hc33 : p1 = (6 : Int32)
          · refine Go.st (S' := T0.setTop (mkF m 38 #[.val (.int p1), .val (.int p2)] [])) (fun _ k => XS.icmpYes X0.here hx rfl (pc0 := 33) (pc' := 38) rfl (hb hby d3_33) rfl (teq hc33).1 (by decide) (by decide) k) ?_
            refine Go.st (S' := T0.setTop (mkF m 39 #[.val (.int p1), .val (.int p2)] [(.int p1)])) (fun _ k => XS.iloadN X0.here hx rfl (hb hby d3_38) rfl k) ?_
            refine Go.st (S' := T0.setTop (mkF m 40 #[.val (.int p1), .val (.int p2)] [(.int (3 : Int32)), (.int p1)])) (fun _ k => XS.iconst X0.here hx rfl (hb hby d3_39) k) ?_
            refine Go.st (S' := T0.setTop (mkF m 50 #[.val (.int p1), .val (.int p2)] [])) (fun _ k => XS.icmpYes X0.here hx rfl (pc0 := 40) (pc' := 50) rfl (hb hby d3_40) rfl (feq (fun q => absurd (hc33.symm.trans q) (by decide))).2 (by decide) (by decide) k) ?_
            refine Go.st (S' := T0.setTop (mkF m 51 #[.val (.int p1), .val (.int p2)] [(.int p1)])) (fun _ k => XS.iloadN X0.here hx rfl (hb hby d3_50) rfl k) ?_
            refine Go.st (S' := T0.setTop (mkF m 52 #[.val (.int p1), .val (.int p2)] [(.int (4 : Int32)), (.int p1)])) (fun _ k => XS.iconst X0.here hx rfl (hb hby d3_51) k) ?_
            refine Go.st (S' := T0.setTop (mkF m 62 #[.val (.int p1), .val (.int p2)] [])) (fun _ k => XS.icmpYes X0.here hx rfl (pc0 := 52) (pc' := 62) rfl (hb hby d3_52) rfl (feq (fun q => absurd (hc33.symm.trans q) (by decide))).2 (by decide) (by decide) k) ?_
            refine Go.st (S' := T0.setTop (mkF m 63 #[.val (.int p1), .val (.int p2)] [(.int (0 : Int32))])) (fun _ k => XS.iconst X0.here hx rfl (hb hby d3_62) k) ?_
            exact own_retN X0 hx hlk hret (by simp) (hb hby d3_63) e0 ⟨by rw [show expF p1 p2 = (0 : Int32) by simp +decide [expF, hc2, hc7, hc14, hc27, hc33]]; rfl, N0, rfl⟩ (by decide) (by decide)
          · refine Go.st (S' := T0.setTop (mkF m 36 #[.val (.int p1), .val (.int p2)] [])) (fun _ k => XS.icmpNo X0.here hx rfl (hb hby d3_33) rfl (feq hc33).1 k) ?_
            refine Go.st (S' := T0.setTop (mkF m 37 #[.val (.int p1), .val (.int p2)] [(.int (1 : Int32))])) (fun _ k => XS.iconst X0.here hx rfl (hb hby d3_36) k) ?_
            exact own_retN X0 hx hlk hret (by simp) (hb hby d3_37) e0 ⟨by rw [show expF p1 p2 = (1 : Int32) by simp +decide [expF, hc2, hc7, hc14, hc27, hc33]]; rfl, N0, rfl⟩ (by decide) (by decide)
        · refine Go.st (S' := T0.setTop (mkF m 38 #[.val (.int p1), .val (.int p2)] [])) (fun _ k => XS.icmpYes X0.here hx rfl (pc0 := 27) (pc' := 38) rfl (hb hby d3_27) rfl (feq hc27).2 (by decide) (by decide) k) ?_
          refine Go.st (S' := T0.setTop (mkF m 39 #[.val (.int p1), .val (.int p2)] [(.int p1)])) (fun _ k => XS.iloadN X0.here hx rfl (hb hby d3_38) rfl k) ?_
          refine Go.st (S' := T0.setTop (mkF m 40 #[.val (.int p1), .val (.int p2)] [(.int (3 : Int32)), (.int p1)])) (fun _ k => XS.iconst X0.here hx rfl (hb hby d3_39) k) ?_
          by_cases hc40 : p1 = (3 : Int32)
          · refine Go.st (S' := T0.setTop (mkF m 43 #[.val (.int p1), .val (.int p2)] [])) (fun _ k => XS.icmpNo X0.here hx rfl (hb hby d3_40) rfl (teq hc40).2 k) ?_
            refine Go.st (S' := T0.setTop (mkF m 44 #[.val (.int p1), .val (.int p2)] [(.int p2)])) (fun _ k => XS.iloadN X0.here hx rfl (hb hby d3_43) rfl k) ?_
            refine Go.st (S' := T0.setTop (mkF m 45 #[.val (.int p1), .val (.int p2)] [(.int (3 : Int32)), (.int p2)])) (fun _ k => XS.iconst X0.here hx rfl (hb hby d3_44) k) ?_
            by_cases hc45 : p2 = (3 : Int32)
            · refine Go.st (S' := T0.setTop (mkF m 48 #[.val (.int p1), .val (.int p2)] [])) (fun _ k => XS.icmpNo X0.here hx rfl (hb hby d3_45) rfl (teq hc45).2 k) ?_
              refine Go.st (S' := T0.setTop (mkF m 49 #[.val (.int p1), .val (.int p2)] [(.int (1 : Int32))])) (fun _ k => XS.iconst X0.here hx rfl (hb hby d3_48) k) ?_
              exact own_retN X0 hx hlk hret (by simp) (hb hby d3_49) e0 ⟨by rw [show expF p1 p2 = (1 : Int32) by simp +decide [expF, hc2, hc7, hc14, hc27, hc40, hc45]]; rfl, N0, rfl⟩ (by decide) (by decide)
            · refine Go.st (S' := T0.setTop (mkF m 50 #[.val (.int p1), .val (.int p2)] [])) (fun _ k => XS.icmpYes X0.here hx rfl (pc0 := 45) (pc' := 50) rfl (hb hby d3_45) rfl (feq hc45).2 (by decide) (by decide) k) ?_
              refine Go.st (S' := T0.setTop (mkF m 51 #[.val (.int p1), .val (.int p2)] [(.int p1)])) (fun _ k => XS.iloadN X0.here hx rfl (hb hby d3_50) rfl k) ?_
              refine Go.st (S' := T0.setTop (mkF m 52 #[.val (.int p1), .val (.int p2)] [(.int (4 : Int32)), (.int p1)])) (fun _ k => XS.iconst X0.here hx rfl (hb hby d3_51) k) ?_
              refine Go.st (S' := T0.setTop (mkF m 62 #[.val (.int p1), .val (.int p2)] [])) (fun _ k => XS.icmpYes X0.here hx rfl (pc0 := 52) (pc' := 62) rfl (hb hby d3_52) rfl (feq (fun q => absurd (hc40.symm.trans q) (by decide))).2 (by decide) (by decide) k) ?_
              refine Go.st (S' := T0.setTop (mkF m 63 #[.val (.int p1), .val (.int p2)] [(.int (0 : Int32))])) (fun _ k => XS.iconst X0.here hx rfl (hb hby d3_62) k) ?_
              exact own_retN X0 hx hlk hret (by simp) (hb hby d3_63) e0 ⟨by rw [show expF p1 p2 = (0 : Int32) by simp +decide [expF, hc2, hc7, hc14, hc27, hc40, hc45]]; rfl, N0, rfl⟩ (by decide) (by decide)
          · refine Go.st (S' := T0.setTop (mkF m 50 #[.val (.int p1), .val (.int p2)] [])) (fun _ k => XS.icmpYes X0.here hx rfl (pc0 := 40) (pc' := 50) rfl (hb hby d3_40) rfl (feq hc40).2 (by decide) (by decide) k) ?_
            refine Go.st (S' := T0.setTop (mkF m 51 #[.val (.int p1), .val (.int p2)] [(.int p1)])) (fun _ k => XS.iloadN X0.here hx rfl (hb hby d3_50) rfl k) ?_
            refine Go.st (S' := T0.setTop (mkF m 52 #[.val (.int p1), .val (.int p2)] [(.int (4 : Int32)), (.int p1)])) (fun _ k => XS.iconst X0.here hx rfl (hb hby d3_51) k) ?_
            by_cases hc52 : p1 = (4 : Int32)
            · refine Go.st (S' := T0.setTop (mkF m 55 #[.val (.int p1), .val (.int p2)] [])) (fun _ k => XS.icmpNo X0.here hx rfl (hb hby d3_52) rfl (teq hc52).2 k) ?_
              refine Go.st (S' := T0.setTop (mkF m 56 #[.val (.int p1), .val (.int p2)] [(.int p2)])) (fun _ k => XS.iloadN X0.here hx rfl (hb hby d3_55) rfl k) ?_
              refine Go.st (S' := T0.setTop (mkF m 57 #[.val (.int p1), .val (.int p2)] [(.int (4 : Int32)), (.int p2)])) (fun _ k => XS.iconst X0.here hx rfl (hb hby d3_56) k) ?_
              by_cases hc57 : p2 = (4 : Int32)
              · refine Go.st (S' := T0.setTop (mkF m 60 #[.val (.int p1), .val (.int p2)] [])) (fun _ k => XS.icmpNo X0.here hx rfl (hb hby d3_57) rfl (teq hc57).2 k) ?_
                refine Go.st (S' := T0.setTop (mkF m 61 #[.val (.int p1), .val (.int p2)] [(.int (1 : Int32))])) (fun _ k => XS.iconst X0.here hx rfl (hb hby d3_60) k) ?_
                exact own_retN X0 hx hlk hret (by simp) (hb hby d3_61) e0 ⟨by rw [show expF p1 p2 = (1 : Int32) by simp +decide [expF, hc2, hc7, hc14, hc27, hc40, hc52, hc57]]; rfl, N0, rfl⟩ (by decide) (by decide)
              · refine Go.st (S' := T0.setTop (mkF m 62 #[.val (.int p1), .val (.int p2)] [])) (fun _ k => XS.icmpYes X0.here hx rfl (pc0 := 57) (pc' := 62) rfl (hb hby d3_57) rfl (feq hc57).2 (by decide) (by decide) k) ?_
                refine Go.st (S' := T0.setTop (mkF m 63 #[.val (.int p1), .val (.int p2)] [(.int (0 : Int32))])) (fun _ k => XS.iconst X0.here hx rfl (hb hby d3_62) k) ?_
                exact own_retN X0 hx hlk hret (by simp) (hb hby d3_63) e0 ⟨by rw [show expF p1 p2 = (0 : Int32) by simp +decide [expF, hc2, hc7, hc14, hc27, hc40, hc52, hc57]]; rfl, N0, rfl⟩ (by decide) (by decide)
            · refine Go.st (S' := T0.setTop (mkF m 62 #[.val (.int p1), .val (.int p2)] [])) (fun _ k => XS.icmpYes X0.here hx rfl (pc0 := 52) (pc' := 62) rfl (hb hby d3_52) rfl (feq hc52).2 (by decide) (by decide) k) ?_
              refine Go.st (S' := T0.setTop (mkF m 63 #[.val (.int p1), .val (.int p2)] [(.int (0 : Int32))])) (fun _ k => XS.iconst X0.here hx rfl (hb hby d3_62) k) ?_
              exact own_retN X0 hx hlk hret (by simp) (hb hby d3_63) e0 ⟨by rw [show expF p1 p2 = (0 : Int32) by simp +decide [expF, hc2, hc7, hc14, hc27, hc40, hc52]]; rfl, N0, rfl⟩ (by decide) (by decide)
theorem pd_954338 : parseMethodDescriptor "(I)Lcom/example/grendel/grendel/LockMode;" = some ⟨[.int], some (.object "com/example/grendel/grendel/LockMode")⟩ := by decide +kernel
theorem pd_423625 : parseMethodDescriptor "(Lcom/example/grendel/grendel/LockMode;)Z" = some ⟨[(.object "com/example/grendel/grendel/LockMode")], some .boolean⟩ := by decide +kernel
theorem pd_947254 : parseMethodDescriptor "(II)Z" = some ⟨[.int, .int], some .boolean⟩ := by decide +kernel
theorem ef_rm0 (m : MethodId) (x0 : Int32) (x1 : Int32) : entryFrame m #[(.int x0), (.int x1)] maxLocals = mkF m 0 #[.val (.int x0), .val (.int x1), .unset, .unset, .unset, .unset, .unset] [] := by first | (simp [entryFrame, mkF, argsToLocals, Value.category, maxLocals]; done) | rfl
set_option maxRecDepth 65536 in
set_option maxHeartbeats 400000000 in
theorem rm0 (l : Launch) (Z : State) (a0 : Array Value) (hw : ∀ d ∈ tables_1, d.before a0 Z = true) (ws : List Jvm.Cond) (w_NL : Addr) (w_S : Addr) (w_RX : Addr) (w_RS : Addr) (w_X : Addr) (w_SRX : Addr) (hS : SF Z w_NL w_S w_RX w_RS w_X w_SRX) (p1 : Int32) (p2 : Int32) (h0 : Heap) (O0 : Ext Z.heap h0)  :
    Con l Z h0 x code maxLocals ret ws room_1 #[(.int p1), (.int p2)] (fun v h L => v = some (.int 1) ∧ Fr Z.heap.size L) := by
  obtain ⟨S_NL, E_NL, S_S, E_S, F_NL_admitted, F_S_code, S_RX, E_RX, S_RS, E_RS, F_RX_admitted, F_RS_code, S_X, E_X, F_X_code, F_RX_code, S_SRX, E_SRX, F_SRX_admitted, F_NL_code, F_RS_admitted, F_SRX_code, F_X_admitted, F_S_admitted⟩ := id hS
  refine own_con (plainFor_of_name pn_608303) ?_
  intro p e s m below meth c T0 X0 hx hby hml hown hnm hret hlk hZ e0
  have hown : s.vm.findClass "com/example/grendel/grendel/LockModeAdmitsPinLaw" = some m.cls := hown
  have N0 := Fr.nil Z.heap.size
  refine Go.st (S' := T0.setTop (mkF m 0 #[.val (.int p1), .val (.int p2), .unset, .unset, .unset, .unset, .unset] [])) (fun _ k => castTop (ef_rm0 m p1 p2) k) ?_
  refine Go.st (S' := T0.setTop (mkF m 1 #[.val (.int p1), .val (.int p2), .unset, .unset, .unset, .unset, .unset] [(.int p1)])) (fun _ k => XS.iloadN X0.here hx rfl (hb hby at_0) rfl k) ?_
  refine Go.st (S' := T0.setTop (mkF m 3 #[.val (.int p1), .val (.int p2), .unset, .unset, .unset, .unset, .unset] [(.int (2147483647 : Int32)), (.int p1)])) (X0.ldcInt hx hown (mvT hZ (ww hw 0 rfl)) (g := (mkF m 1 #[.val (.int p1), .val (.int p2), .unset, .unset, .unset, .unset, .unset] [(.int p1)])) rfl (hb hby at_1)) ?_
  refine Go.st (S' := T0.setTop (mkF m 4 #[.val (.int p1), .val (.int p2), .unset, .unset, .unset, .unset, .unset] [(.int (p1 &&& (2147483647 : Int32)))])) (fun _ k => XS.iand X0.here hx rfl (hb hby at_3) rfl k) ?_
  refine Go.st (S' := T0.setTop (mkF m 6 #[.val (.int p1), .val (.int p2), .unset, .unset, .unset, .unset, .unset] [(.int (6 : Int32)), (.int (p1 &&& (2147483647 : Int32)))])) (fun _ k => XS.bipush X0.here hx rfl (hb hby at_4) k) ?_
  refine Go.st (S' := T0.setTop (mkF m 7 #[.val (.int p1), .val (.int p2), .unset, .unset, .unset, .unset, .unset] [(.int ((p1 &&& (2147483647 : Int32)) % (6 : Int32)))])) (fun _ k => iremM X0 hx rfl (hb hby at_6) rfl (by decide) k) ?_
  refine Go.st (S' := T0.setTop (mkF m 8 #[.val (.int p1), .val (.int p2), .val (.int ((p1 &&& (2147483647 : Int32)) % (6 : Int32))), .unset, .unset, .unset, .unset] [])) (fun _ k => XS.istoreN X0.here hx rfl (hb hby at_7) rfl (l' := #[.val (.int p1), .val (.int p2), .val (.int ((p1 &&& (2147483647 : Int32)) % (6 : Int32))), .unset, .unset, .unset, .unset]) rfl k) ?_
  refine Go.st (S' := T0.setTop (mkF m 9 #[.val (.int p1), .val (.int p2), .val (.int ((p1 &&& (2147483647 : Int32)) % (6 : Int32))), .unset, .unset, .unset, .unset] [(.int p2)])) (fun _ k => XS.iloadN X0.here hx rfl (hb hby at_8) rfl k) ?_
  refine Go.st (S' := T0.setTop (mkF m 11 #[.val (.int p1), .val (.int p2), .val (.int ((p1 &&& (2147483647 : Int32)) % (6 : Int32))), .unset, .unset, .unset, .unset] [(.int (2147483647 : Int32)), (.int p2)])) (X0.ldcInt hx hown (mvT hZ (ww hw 0 rfl)) (g := (mkF m 9 #[.val (.int p1), .val (.int p2), .val (.int ((p1 &&& (2147483647 : Int32)) % (6 : Int32))), .unset, .unset, .unset, .unset] [(.int p2)])) rfl (hb hby at_9)) ?_
  refine Go.st (S' := T0.setTop (mkF m 12 #[.val (.int p1), .val (.int p2), .val (.int ((p1 &&& (2147483647 : Int32)) % (6 : Int32))), .unset, .unset, .unset, .unset] [(.int (p2 &&& (2147483647 : Int32)))])) (fun _ k => XS.iand X0.here hx rfl (hb hby at_11) rfl k) ?_
  refine Go.st (S' := T0.setTop (mkF m 14 #[.val (.int p1), .val (.int p2), .val (.int ((p1 &&& (2147483647 : Int32)) % (6 : Int32))), .unset, .unset, .unset, .unset] [(.int (6 : Int32)), (.int (p2 &&& (2147483647 : Int32)))])) (fun _ k => XS.bipush X0.here hx rfl (hb hby at_12) k) ?_
  refine Go.st (S' := T0.setTop (mkF m 15 #[.val (.int p1), .val (.int p2), .val (.int ((p1 &&& (2147483647 : Int32)) % (6 : Int32))), .unset, .unset, .unset, .unset] [(.int ((p2 &&& (2147483647 : Int32)) % (6 : Int32)))])) (fun _ k => iremM X0 hx rfl (hb hby at_14) rfl (by decide) k) ?_
  refine Go.st (S' := T0.setTop (mkF m 16 #[.val (.int p1), .val (.int p2), .val (.int ((p1 &&& (2147483647 : Int32)) % (6 : Int32))), .val (.int ((p2 &&& (2147483647 : Int32)) % (6 : Int32))), .unset, .unset, .unset] [])) (fun _ k => XS.istoreN X0.here hx rfl (hb hby at_15) rfl (l' := #[.val (.int p1), .val (.int p2), .val (.int ((p1 &&& (2147483647 : Int32)) % (6 : Int32))), .val (.int ((p2 &&& (2147483647 : Int32)) % (6 : Int32))), .unset, .unset, .unset]) rfl k) ?_
  refine Go.st (S' := T0.setTop (mkF m 17 #[.val (.int p1), .val (.int p2), .val (.int ((p1 &&& (2147483647 : Int32)) % (6 : Int32))), .val (.int ((p2 &&& (2147483647 : Int32)) % (6 : Int32))), .unset, .unset, .unset] [(.int ((p1 &&& (2147483647 : Int32)) % (6 : Int32)))])) (fun _ k => XS.iloadN X0.here hx rfl (hb hby at_16) rfl k) ?_
  obtain ⟨_, T9, L9, X9, ⟨⟨w9, rfl, ex9, fa9, fc9⟩, Nq9, eq9⟩, st9⟩ := own_callS X0 hx hZ hown (ww hw 1 rfl) (ww hw 2 rfl) (ww hw 3 rfl) (ww hw 4 rfl) (by decide) e0 (rm1 l Z a0 hw [] w_NL w_S w_RX w_RS w_X w_SRX hS ((p1 &&& (2147483647 : Int32)) % (6 : Int32)) h0 O0) 0 (by decide) (by decide) (by decide) (by decide) (g := (mkF m 17 #[.val (.int p1), .val (.int p2), .val (.int ((p1 &&& (2147483647 : Int32)) % (6 : Int32))), .val (.int ((p2 &&& (2147483647 : Int32)) % (6 : Int32))), .unset, .unset, .unset] [(.int ((p1 &&& (2147483647 : Int32)) % (6 : Int32)))])) rfl (by rw [hml]; rfl) [(.int ((p1 &&& (2147483647 : Int32)) % (6 : Int32)))] [] rfl (lenOf pd_954338 rfl) rfl (by show 2 * 0 + _ ≤ _; exact Nat.le_of_eq rfl) (hb hby at_17)
  have N9 := Fr.app N0 Nq9
  refine Go.st (S' := T9.setTop (mkF m 20 #[.val (.int p1), .val (.int p2), .val (.int ((p1 &&& (2147483647 : Int32)) % (6 : Int32))), .val (.int ((p2 &&& (2147483647 : Int32)) % (6 : Int32))), .unset, .unset, .unset] [(.ref w9)])) st9 ?_
  refine Go.st (S' := T9.setTop (mkF m 22 #[.val (.int p1), .val (.int p2), .val (.int ((p1 &&& (2147483647 : Int32)) % (6 : Int32))), .val (.int ((p2 &&& (2147483647 : Int32)) % (6 : Int32))), .val (.ref w9), .unset, .unset] [])) (fun _ k => XS.astore X9.here hx rfl (hb hby at_20) rfl rfl (l' := #[.val (.int p1), .val (.int p2), .val (.int ((p1 &&& (2147483647 : Int32)) % (6 : Int32))), .val (.int ((p2 &&& (2147483647 : Int32)) % (6 : Int32))), .val (.ref w9), .unset, .unset]) rfl k) ?_
  refine Go.st (S' := T9.setTop (mkF m 23 #[.val (.int p1), .val (.int p2), .val (.int ((p1 &&& (2147483647 : Int32)) % (6 : Int32))), .val (.int ((p2 &&& (2147483647 : Int32)) % (6 : Int32))), .val (.ref w9), .unset, .unset] [(.int ((p2 &&& (2147483647 : Int32)) % (6 : Int32)))])) (fun _ k => XS.iloadN X9.here hx rfl (hb hby at_22) rfl k) ?_
  obtain ⟨_, T10, L10, X10, ⟨⟨w10, rfl, ex10, fa10, fc10⟩, Nq10, eq10⟩, st10⟩ := own_callS X9 hx hZ hown (ww hw 1 rfl) (ww hw 2 rfl) (ww hw 3 rfl) (ww hw 4 rfl) (by decide) eq9 (rm1 l Z a0 hw [] w_NL w_S w_RX w_RS w_X w_SRX hS ((p2 &&& (2147483647 : Int32)) % (6 : Int32)) h0 O0) 0 (by decide) (by decide) (by decide) (by decide) (g := (mkF m 23 #[.val (.int p1), .val (.int p2), .val (.int ((p1 &&& (2147483647 : Int32)) % (6 : Int32))), .val (.int ((p2 &&& (2147483647 : Int32)) % (6 : Int32))), .val (.ref w9), .unset, .unset] [(.int ((p2 &&& (2147483647 : Int32)) % (6 : Int32)))])) rfl (by rw [hml]; rfl) [(.int ((p2 &&& (2147483647 : Int32)) % (6 : Int32)))] [] rfl (lenOf pd_954338 rfl) rfl (by show 2 * 0 + _ ≤ _; exact Nat.le_of_eq rfl) (hb hby at_23)
  have N10 := Fr.app N9 Nq10
  refine Go.st (S' := T10.setTop (mkF m 26 #[.val (.int p1), .val (.int p2), .val (.int ((p1 &&& (2147483647 : Int32)) % (6 : Int32))), .val (.int ((p2 &&& (2147483647 : Int32)) % (6 : Int32))), .val (.ref w9), .unset, .unset] [(.ref w10)])) st10 ?_
  refine Go.st (S' := T10.setTop (mkF m 28 #[.val (.int p1), .val (.int p2), .val (.int ((p1 &&& (2147483647 : Int32)) % (6 : Int32))), .val (.int ((p2 &&& (2147483647 : Int32)) % (6 : Int32))), .val (.ref w9), .val (.ref w10), .unset] [])) (fun _ k => XS.astore X10.here hx rfl (hb hby at_26) rfl rfl (l' := #[.val (.int p1), .val (.int p2), .val (.int ((p1 &&& (2147483647 : Int32)) % (6 : Int32))), .val (.int ((p2 &&& (2147483647 : Int32)) % (6 : Int32))), .val (.ref w9), .val (.ref w10), .unset]) rfl k) ?_
  refine Go.st (S' := T10.setTop (mkF m 30 #[.val (.int p1), .val (.int p2), .val (.int ((p1 &&& (2147483647 : Int32)) % (6 : Int32))), .val (.int ((p2 &&& (2147483647 : Int32)) % (6 : Int32))), .val (.ref w9), .val (.ref w10), .unset] [(.ref w9)])) (fun _ k => XS.aload X10.here hx rfl (hb hby at_28) rfl rfl k) ?_
  refine Go.st (S' := T10.setTop (mkF m 32 #[.val (.int p1), .val (.int p2), .val (.int ((p1 &&& (2147483647 : Int32)) % (6 : Int32))), .val (.int ((p2 &&& (2147483647 : Int32)) % (6 : Int32))), .val (.ref w9), .val (.ref w10), .unset] [(.ref w10), (.ref w9)])) (fun _ k => XS.aload X10.here hx rfl (hb hby at_30) rfl rfl k) ?_
  obtain ⟨_, T11, L11, X11, ⟨rfl, Nq11, eq11⟩, st11⟩ := own_callV X10 hx hZ hown (ww hw 10 rfl) (ww hw 11 rfl) (notFace_of_selects (args := #[]) (mvT hZ (ww hw 13 rfl))) (ww hw 13 rfl) (ww hw 12 rfl) (ww hw 6 rfl) (ww hw 14 rfl) (by decide) eq10 ex9 (rm2 l Z a0 hw [] w_NL w_S w_RX w_RS w_X w_SRX hS w9 w10 (adm ((p1 &&& (2147483647 : Int32)) % (6 : Int32))) (cod ((p2 &&& (2147483647 : Int32)) % (6 : Int32))) h0 O0 fa9 fc10) 0 (by decide) (by decide) (by decide) (by decide) (g := (mkF m 32 #[.val (.int p1), .val (.int p2), .val (.int ((p1 &&& (2147483647 : Int32)) % (6 : Int32))), .val (.int ((p2 &&& (2147483647 : Int32)) % (6 : Int32))), .val (.ref w9), .val (.ref w10), .unset] [(.ref w10), (.ref w9)])) rfl (by rw [hml]; rfl) [(.ref w10)] [] rfl (lenOf pd_423625 rfl) rfl (by show 2 * 0 + _ ≤ _; exact Nat.le_of_eq rfl) (hb hby at_32)
  have N11 := Fr.app N10 Nq11
  refine Go.st (S' := T11.setTop (mkF m 35 #[.val (.int p1), .val (.int p2), .val (.int ((p1 &&& (2147483647 : Int32)) % (6 : Int32))), .val (.int ((p2 &&& (2147483647 : Int32)) % (6 : Int32))), .val (.ref w9), .val (.ref w10), .unset] [(.int (admF (adm ((p1 &&& (2147483647 : Int32)) % (6 : Int32))) (cod ((p2 &&& (2147483647 : Int32)) % (6 : Int32)))))])) st11 ?_
  refine Go.st (S' := T11.setTop (mkF m 37 #[.val (.int p1), .val (.int p2), .val (.int ((p1 &&& (2147483647 : Int32)) % (6 : Int32))), .val (.int ((p2 &&& (2147483647 : Int32)) % (6 : Int32))), .val (.ref w9), .val (.ref w10), .val (.int (admF (adm ((p1 &&& (2147483647 : Int32)) % (6 : Int32))) (cod ((p2 &&& (2147483647 : Int32)) % (6 : Int32)))))] [])) (fun _ k => XS.istore X11.here hx rfl (hb hby at_35) rfl (l' := #[.val (.int p1), .val (.int p2), .val (.int ((p1 &&& (2147483647 : Int32)) % (6 : Int32))), .val (.int ((p2 &&& (2147483647 : Int32)) % (6 : Int32))), .val (.ref w9), .val (.ref w10), .val (.int (admF (adm ((p1 &&& (2147483647 : Int32)) % (6 : Int32))) (cod ((p2 &&& (2147483647 : Int32)) % (6 : Int32)))))]) rfl k) ?_
  refine Go.st (S' := T11.setTop (mkF m 39 #[.val (.int p1), .val (.int p2), .val (.int ((p1 &&& (2147483647 : Int32)) % (6 : Int32))), .val (.int ((p2 &&& (2147483647 : Int32)) % (6 : Int32))), .val (.ref w9), .val (.ref w10), .val (.int (admF (adm ((p1 &&& (2147483647 : Int32)) % (6 : Int32))) (cod ((p2 &&& (2147483647 : Int32)) % (6 : Int32)))))] [(.int (admF (adm ((p1 &&& (2147483647 : Int32)) % (6 : Int32))) (cod ((p2 &&& (2147483647 : Int32)) % (6 : Int32)))))])) (fun _ k => XS.iload X11.here hx rfl (hb hby at_37) rfl k) ?_
  refine Go.st (S' := T11.setTop (mkF m 40 #[.val (.int p1), .val (.int p2), .val (.int ((p1 &&& (2147483647 : Int32)) % (6 : Int32))), .val (.int ((p2 &&& (2147483647 : Int32)) % (6 : Int32))), .val (.ref w9), .val (.ref w10), .val (.int (admF (adm ((p1 &&& (2147483647 : Int32)) % (6 : Int32))) (cod ((p2 &&& (2147483647 : Int32)) % (6 : Int32)))))] [(.int ((p1 &&& (2147483647 : Int32)) % (6 : Int32))), (.int (admF (adm ((p1 &&& (2147483647 : Int32)) % (6 : Int32))) (cod ((p2 &&& (2147483647 : Int32)) % (6 : Int32)))))])) (fun _ k => XS.iloadN X11.here hx rfl (hb hby at_39) rfl k) ?_
  refine Go.st (S' := T11.setTop (mkF m 41 #[.val (.int p1), .val (.int p2), .val (.int ((p1 &&& (2147483647 : Int32)) % (6 : Int32))), .val (.int ((p2 &&& (2147483647 : Int32)) % (6 : Int32))), .val (.ref w9), .val (.ref w10), .val (.int (admF (adm ((p1 &&& (2147483647 : Int32)) % (6 : Int32))) (cod ((p2 &&& (2147483647 : Int32)) % (6 : Int32)))))] [(.int (1 : Int32)), (.int ((p1 &&& (2147483647 : Int32)) % (6 : Int32))), (.int (admF (adm ((p1 &&& (2147483647 : Int32)) % (6 : Int32))) (cod ((p2 &&& (2147483647 : Int32)) % (6 : Int32)))))])) (fun _ k => XS.iconst X11.here hx rfl (hb hby at_40) k) ?_
  refine Go.st (S' := T11.setTop (mkF m 42 #[.val (.int p1), .val (.int p2), .val (.int ((p1 &&& (2147483647 : Int32)) % (6 : Int32))), .val (.int ((p2 &&& (2147483647 : Int32)) % (6 : Int32))), .val (.ref w9), .val (.ref w10), .val (.int (admF (adm ((p1 &&& (2147483647 : Int32)) % (6 : Int32))) (cod ((p2 &&& (2147483647 : Int32)) % (6 : Int32)))))] [(.int (((p1 &&& (2147483647 : Int32)) % (6 : Int32)) + (1 : Int32))), (.int (admF (adm ((p1 &&& (2147483647 : Int32)) % (6 : Int32))) (cod ((p2 &&& (2147483647 : Int32)) % (6 : Int32)))))])) (fun _ k => XS.iadd X11.here hx rfl (hb hby at_41) rfl k) ?_
  refine Go.st (S' := T11.setTop (mkF m 43 #[.val (.int p1), .val (.int p2), .val (.int ((p1 &&& (2147483647 : Int32)) % (6 : Int32))), .val (.int ((p2 &&& (2147483647 : Int32)) % (6 : Int32))), .val (.ref w9), .val (.ref w10), .val (.int (admF (adm ((p1 &&& (2147483647 : Int32)) % (6 : Int32))) (cod ((p2 &&& (2147483647 : Int32)) % (6 : Int32)))))] [(.int ((p2 &&& (2147483647 : Int32)) % (6 : Int32))), (.int (((p1 &&& (2147483647 : Int32)) % (6 : Int32)) + (1 : Int32))), (.int (admF (adm ((p1 &&& (2147483647 : Int32)) % (6 : Int32))) (cod ((p2 &&& (2147483647 : Int32)) % (6 : Int32)))))])) (fun _ k => XS.iloadN X11.here hx rfl (hb hby at_42) rfl k) ?_
  refine Go.st (S' := T11.setTop (mkF m 44 #[.val (.int p1), .val (.int p2), .val (.int ((p1 &&& (2147483647 : Int32)) % (6 : Int32))), .val (.int ((p2 &&& (2147483647 : Int32)) % (6 : Int32))), .val (.ref w9), .val (.ref w10), .val (.int (admF (adm ((p1 &&& (2147483647 : Int32)) % (6 : Int32))) (cod ((p2 &&& (2147483647 : Int32)) % (6 : Int32)))))] [(.int (1 : Int32)), (.int ((p2 &&& (2147483647 : Int32)) % (6 : Int32))), (.int (((p1 &&& (2147483647 : Int32)) % (6 : Int32)) + (1 : Int32))), (.int (admF (adm ((p1 &&& (2147483647 : Int32)) % (6 : Int32))) (cod ((p2 &&& (2147483647 : Int32)) % (6 : Int32)))))])) (fun _ k => XS.iconst X11.here hx rfl (hb hby at_43) k) ?_
  refine Go.st (S' := T11.setTop (mkF m 45 #[.val (.int p1), .val (.int p2), .val (.int ((p1 &&& (2147483647 : Int32)) % (6 : Int32))), .val (.int ((p2 &&& (2147483647 : Int32)) % (6 : Int32))), .val (.ref w9), .val (.ref w10), .val (.int (admF (adm ((p1 &&& (2147483647 : Int32)) % (6 : Int32))) (cod ((p2 &&& (2147483647 : Int32)) % (6 : Int32)))))] [(.int (((p2 &&& (2147483647 : Int32)) % (6 : Int32)) + (1 : Int32))), (.int (((p1 &&& (2147483647 : Int32)) % (6 : Int32)) + (1 : Int32))), (.int (admF (adm ((p1 &&& (2147483647 : Int32)) % (6 : Int32))) (cod ((p2 &&& (2147483647 : Int32)) % (6 : Int32)))))])) (fun _ k => XS.iadd X11.here hx rfl (hb hby at_44) rfl k) ?_
  obtain ⟨_, T12, L12, X12, ⟨rfl, Nq12, eq12⟩, st12⟩ := own_callS X11 hx hZ hown (ww hw 19 rfl) (ww hw 20 rfl) (ww hw 3 rfl) (ww hw 21 rfl) (by decide) eq11 (rm3 l Z a0 hw [] w_NL w_S w_RX w_RS w_X w_SRX hS (((p1 &&& (2147483647 : Int32)) % (6 : Int32)) + (1 : Int32)) (((p2 &&& (2147483647 : Int32)) % (6 : Int32)) + (1 : Int32)) h0 O0) 1 (by decide) (by decide) (by decide) (by decide) (g := (mkF m 45 #[.val (.int p1), .val (.int p2), .val (.int ((p1 &&& (2147483647 : Int32)) % (6 : Int32))), .val (.int ((p2 &&& (2147483647 : Int32)) % (6 : Int32))), .val (.ref w9), .val (.ref w10), .val (.int (admF (adm ((p1 &&& (2147483647 : Int32)) % (6 : Int32))) (cod ((p2 &&& (2147483647 : Int32)) % (6 : Int32)))))] [(.int (((p2 &&& (2147483647 : Int32)) % (6 : Int32)) + (1 : Int32))), (.int (((p1 &&& (2147483647 : Int32)) % (6 : Int32)) + (1 : Int32))), (.int (admF (adm ((p1 &&& (2147483647 : Int32)) % (6 : Int32))) (cod ((p2 &&& (2147483647 : Int32)) % (6 : Int32)))))])) rfl (by rw [hml]; rfl) [(.int (((p1 &&& (2147483647 : Int32)) % (6 : Int32)) + (1 : Int32))), (.int (((p2 &&& (2147483647 : Int32)) % (6 : Int32)) + (1 : Int32)))] [(.int (admF (adm ((p1 &&& (2147483647 : Int32)) % (6 : Int32))) (cod ((p2 &&& (2147483647 : Int32)) % (6 : Int32)))))] rfl (lenOf pd_947254 rfl) rfl (by show 2 * 0 + _ ≤ _; exact Nat.le_of_eq rfl) (hb hby at_45)
  have N12 := Fr.app N11 Nq12
  refine Go.st (S' := T12.setTop (mkF m 48 #[.val (.int p1), .val (.int p2), .val (.int ((p1 &&& (2147483647 : Int32)) % (6 : Int32))), .val (.int ((p2 &&& (2147483647 : Int32)) % (6 : Int32))), .val (.ref w9), .val (.ref w10), .val (.int (admF (adm ((p1 &&& (2147483647 : Int32)) % (6 : Int32))) (cod ((p2 &&& (2147483647 : Int32)) % (6 : Int32)))))] [(.int (expF (((p1 &&& (2147483647 : Int32)) % (6 : Int32)) + (1 : Int32)) (((p2 &&& (2147483647 : Int32)) % (6 : Int32)) + (1 : Int32)))), (.int (admF (adm ((p1 &&& (2147483647 : Int32)) % (6 : Int32))) (cod ((p2 &&& (2147483647 : Int32)) % (6 : Int32)))))])) st12 ?_
  refine Go.st (S' := T12.setTop (mkF m 51 #[.val (.int p1), .val (.int p2), .val (.int ((p1 &&& (2147483647 : Int32)) % (6 : Int32))), .val (.int ((p2 &&& (2147483647 : Int32)) % (6 : Int32))), .val (.ref w9), .val (.ref w10), .val (.int (admF (adm ((p1 &&& (2147483647 : Int32)) % (6 : Int32))) (cod ((p2 &&& (2147483647 : Int32)) % (6 : Int32)))))] [])) (fun _ k => XS.icmpNo X12.here hx rfl (hb hby at_48) rfl (teq (own_law p1 p2)).2 k) ?_
  refine Go.st (S' := T12.setTop (mkF m 52 #[.val (.int p1), .val (.int p2), .val (.int ((p1 &&& (2147483647 : Int32)) % (6 : Int32))), .val (.int ((p2 &&& (2147483647 : Int32)) % (6 : Int32))), .val (.ref w9), .val (.ref w10), .val (.int (admF (adm ((p1 &&& (2147483647 : Int32)) % (6 : Int32))) (cod ((p2 &&& (2147483647 : Int32)) % (6 : Int32)))))] [(.int (1 : Int32))])) (fun _ k => XS.iconst X12.here hx rfl (hb hby at_51) k) ?_
  refine Go.st (S' := T12.setTop (mkF m 56 #[.val (.int p1), .val (.int p2), .val (.int ((p1 &&& (2147483647 : Int32)) % (6 : Int32))), .val (.int ((p2 &&& (2147483647 : Int32)) % (6 : Int32))), .val (.ref w9), .val (.ref w10), .val (.int (admF (adm ((p1 &&& (2147483647 : Int32)) % (6 : Int32))) (cod ((p2 &&& (2147483647 : Int32)) % (6 : Int32)))))] [(.int (1 : Int32))])) (fun _ k => XS.goto X12.here hx rfl (pc0 := 52) (pc' := 56) rfl (hb hby at_52) (by decide) (by decide) k) ?_
  exact own_retN X12 hx hlk hret (by simp) (hb hby at_56) eq12 ⟨rfl, N12⟩ (by decide) (by decide)
set_option maxRecDepth 65536 in
set_option maxHeartbeats 400000000 in
theorem comes_1 {Post : Tables → Env → Array Value → State → Outcome → State → Prop} (hpost : ∀ tb e args s v u, (limb_1_1.after args s (.returned v) u = true ∧ limb_1_2.after args s (.returned v) u = true ∧ True) → FrameEnd s (.returned v) u (Jvm.fieldLocs frame_1_writes args s ++ Jvm.arrayLocs frame_1_arrays args s ++ Jvm.staticLocs frame_1_statics s) 0 0 → Post tb e args s (.returned v) u) :
    ArmFor flags0 classFile x code maxLocals ret World_1 tables_1 room_1 Calls_1 rest_1 Pre_1 Post := by
  intro l hfl _ _ p e ha hc hk s m args below hf hA hF happ hP
  obtain ⟨hcalls, hrest, hpre⟩ := hP
  obtain ⟨-, -, -, hnamed, -, -, -, hat⟩ := (Spec.applies_iff hf).mp happ
  obtain ⟨hg, hn⟩ := and_e (Cond.before_iff.mp (show (Jvm.Cond.and given_1 narrow_1).before args s = true from hpre))
  obtain ⟨hg1, hg2⟩ := and_e hg
  obtain ⟨hg3, hg4⟩ := and_e hg2
  obtain ⟨v0, v1, rfl⟩ : ∃ v0 v1 : Value, args = #[v0, v1] := by
    have hs : args.size = 2 := by simpa [Cond.value, given_1] using hg1
    obtain ⟨L⟩ := args
    match L, hs with
    | [v0, v1], _ => exact ⟨v0, v1, rfl⟩
  have hw := fun d (hd : d ∈ tables_1) => atoms_spec (ws := Jvm.Cond.code x code maxLocals ret :: tables_1) hat d (List.mem_cons_of_mem _ hd)
  have hfit : Fit s := fun {y c} hc i hi => by
    obtain ⟨ha, rfl⟩ := Array.getElem?_eq_some_iff.mp hc
    have q := List.all_eq_true.mp ((Array.all_eq_true_iff_forall_mem.mp hF) _ (Array.getElem_mem ha)) i (List.mem_range.mpr hi)
    simpa [Array.getElem?_eq_getElem hi] using q
  obtain ⟨i0, ei0⟩ := is_v hg3
  obtain rfl : v0 = (.int i0) := Option.some.inj ei0
  obtain ⟨i1, ei1⟩ := is_v hg4
  obtain rfl : v1 = (.int i1) := Option.some.inj ei1
  obtain ⟨hn1, hn2⟩ := and_e hn
  obtain ⟨hn3, hn4⟩ := and_e hn2
  obtain ⟨hn5, hn6⟩ := and_e hn4
  obtain ⟨hn7, hn8⟩ := and_e hn6
  obtain ⟨hn9, hn10⟩ := and_e hn8
  obtain ⟨hn11, hn12⟩ := and_e hn10
  obtain ⟨hn13, hn14⟩ := and_e hn12
  obtain ⟨hn15, hn16⟩ := and_e hn14
  obtain ⟨hn17, hn18⟩ := and_e hn16
  obtain ⟨hn19, hn20⟩ := and_e hn18
  obtain ⟨hn21, hn22⟩ := and_e hn20
  obtain ⟨hn23, hn24⟩ := and_e hn22
  obtain ⟨hn25, hn26⟩ := and_e hn24
  obtain ⟨hn27, hn28⟩ := and_e hn26
  obtain ⟨hn29, hn30⟩ := and_e hn28
  obtain ⟨hn31, hn32⟩ := and_e hn30
  obtain ⟨hn33, hn34⟩ := and_e hn32
  obtain ⟨w_NL, ev_NL⟩ := exa_v hn1
  have S_NL : Sta s s.heap "com/example/grendel/grendel/LockMode" "NL" "Lcom/example/grendel/grendel/LockMode;" (.ref w_NL) := Sta.start ev_NL (Or.inr ⟨(ww hw 6 rfl), (ww hw 7 rfl)⟩)
  have E_NL : Exa s s.heap w_NL "com/example/grendel/grendel/LockMode" := Exa.start ev_NL hn1
  obtain ⟨w_S, ev_S⟩ := exa_v hn3
  have S_S : Sta s s.heap "com/example/grendel/grendel/LockMode" "S" "Lcom/example/grendel/grendel/LockMode;" (.ref w_S) := Sta.start ev_S (Or.inr ⟨(ww hw 6 rfl), (ww hw 9 rfl)⟩)
  have E_S : Exa s s.heap w_S "com/example/grendel/grendel/LockMode" := Exa.start ev_S hn3
  have F_NL_admitted : Fld s s.heap w_NL "com/example/grendel/grendel/LockMode" "admitted" "I" (.int (63 : Int32)) := own_fldI ev_NL hn5
  have F_S_code : Fld s s.heap w_S "com/example/grendel/grendel/LockMode" "code" "I" (.int (4 : Int32)) := own_fldI ev_S hn7
  obtain ⟨w_RX, ev_RX⟩ := exa_v hn9
  have S_RX : Sta s s.heap "com/example/grendel/grendel/LockMode" "RX" "Lcom/example/grendel/grendel/LockMode;" (.ref w_RX) := Sta.start ev_RX (Or.inr ⟨(ww hw 6 rfl), (ww hw 23 rfl)⟩)
  have E_RX : Exa s s.heap w_RX "com/example/grendel/grendel/LockMode" := Exa.start ev_RX hn9
  obtain ⟨w_RS, ev_RS⟩ := exa_v hn11
  have S_RS : Sta s s.heap "com/example/grendel/grendel/LockMode" "RS" "Lcom/example/grendel/grendel/LockMode;" (.ref w_RS) := Sta.start ev_RS (Or.inr ⟨(ww hw 6 rfl), (ww hw 25 rfl)⟩)
  have E_RS : Exa s s.heap w_RS "com/example/grendel/grendel/LockMode" := Exa.start ev_RS hn11
  have F_RX_admitted : Fld s s.heap w_RX "com/example/grendel/grendel/LockMode" "admitted" "I" (.int (7 : Int32)) := own_fldI ev_RX hn13
  have F_RS_code : Fld s s.heap w_RS "com/example/grendel/grendel/LockMode" "code" "I" (.int (2 : Int32)) := own_fldI ev_RS hn15
  obtain ⟨w_X, ev_X⟩ := exa_v hn17
  have S_X : Sta s s.heap "com/example/grendel/grendel/LockMode" "X" "Lcom/example/grendel/grendel/LockMode;" (.ref w_X) := Sta.start ev_X (Or.inr ⟨(ww hw 6 rfl), (ww hw 27 rfl)⟩)
  have E_X : Exa s s.heap w_X "com/example/grendel/grendel/LockMode" := Exa.start ev_X hn17
  have F_X_code : Fld s s.heap w_X "com/example/grendel/grendel/LockMode" "code" "I" (.int (6 : Int32)) := own_fldI ev_X hn19
  have F_RX_code : Fld s s.heap w_RX "com/example/grendel/grendel/LockMode" "code" "I" (.int (3 : Int32)) := own_fldI ev_RX hn21
  obtain ⟨w_SRX, ev_SRX⟩ := exa_v hn23
  have S_SRX : Sta s s.heap "com/example/grendel/grendel/LockMode" "SRX" "Lcom/example/grendel/grendel/LockMode;" (.ref w_SRX) := Sta.start ev_SRX (Or.inr ⟨(ww hw 6 rfl), (ww hw 29 rfl)⟩)
  have E_SRX : Exa s s.heap w_SRX "com/example/grendel/grendel/LockMode" := Exa.start ev_SRX hn23
  have F_SRX_admitted : Fld s s.heap w_SRX "com/example/grendel/grendel/LockMode" "admitted" "I" (.int (3 : Int32)) := own_fldI ev_SRX hn25
  have F_NL_code : Fld s s.heap w_NL "com/example/grendel/grendel/LockMode" "code" "I" (.int (1 : Int32)) := own_fldI ev_NL hn27
  have F_RS_admitted : Fld s s.heap w_RS "com/example/grendel/grendel/LockMode" "admitted" "I" (.int (31 : Int32)) := own_fldI ev_RS hn29
  have F_SRX_code : Fld s s.heap w_SRX "com/example/grendel/grendel/LockMode" "code" "I" (.int (5 : Int32)) := own_fldI ev_SRX hn31
  have F_X_admitted : Fld s s.heap w_X "com/example/grendel/grendel/LockMode" "admitted" "I" (.int (1 : Int32)) := own_fldI ev_X hn33
  have F_S_admitted : Fld s s.heap w_S "com/example/grendel/grendel/LockMode" "admitted" "I" (.int (11 : Int32)) := own_fldI ev_S hn34
  obtain ⟨n, o, h1, h2, h3, _, L, rfl, ⟨rfl, N⟩, hq⟩ := rm0 l s _ hw tables_1 w_NL w_S w_RX w_RS w_X w_SRX ⟨S_NL, E_NL, S_S, E_S, F_NL_admitted, F_S_code, S_RX, E_RX, S_RS, E_RS, F_RX_admitted, F_RS_code, S_X, E_X, F_X_code, F_RX_code, S_SRX, E_SRX, F_SRX_admitted, F_NL_code, F_RS_admitted, F_SRX_code, F_X_admitted, F_S_admitted⟩ i0 i1 s.heap (own_Ext.refl _)  p e ha hc hk s m _ below hf ((Spec.applies_iff_loose hf).mp happ).1 ⟨rfl, State.Warmed39.refl s, rfl⟩ trivial
  refine ⟨n, _, h1, h2, h3, hpost _ _ _ _ _ _ ⟨Cond.after_iff.mpr rfl, Cond.after_iff.mpr (eq_i res_at (Term.int_eval (1)) rfl), trivial⟩ ⟨hq.1, hq.2.1, (hq.2.2.sift fun y hy => Or.inr (N y hy)).mono (by decide) (by decide)⟩⟩
theorem main_1_1 : Claimed_1_1 := comes_1 fun _ _ _ _ _ _ h hF => ⟨h.1, hF⟩
theorem main_1_2 : Claimed_1_2 := comes_1 fun _ _ _ _ _ _ h hF => ⟨h.2.1, hF⟩
end Jvm.Pilot.@@N@@
namespace Jvm.Pilot.@@N@@
open Jvm Jvm.ClassFile Sem Op Lib Jvm.Free Jvm.Stand Jvm.Pilot.@@N@@.Jvm.D
/-! MADE BY PROGRAM (witnessworld.py) out of the Statement's table words and the real class files: 12 classes; the members and pool entries that the words name. The judged class is class 1, her method 3. -/
namespace start1
open Jvm.ClassFile
def u (s : String) : CpInfo := .utf8 (stringToUtf16 s)
/-- a pool by its gaps: so many unusable entries, then the entry; so many at the end -/
def gap : Nat → List CpInfo → List CpInfo
  | 0, r => r
  | n + 1, r => .unusable :: gap n r
def poolList (es : List (Nat × CpInfo)) (last : Nat) : List CpInfo := es.foldr (fun e r => gap e.1 (e.2 :: r)) (gap last [])
def pool (es : List (Nat × CpInfo)) (last : Nat) : Array CpInfo := ⟨poolList es last⟩
def fileOf (pool : Array CpInfo) (this : Nat) (attrs : Array Attribute := #[]) (ms : Array MethodInfo := #[]) (fl : Nat := 33) (sup : Nat := 0) (ifs : Array Nat := #[]) (fds : Array FieldInfo := #[]) : ClassFile where
  minorVersion := 0
  majorVersion := 65
  constantPool := pool
  accessFlags := fl
  thisClass := this
  superClass := sup
  interfaces := ifs
  fields := fds
  methods := ms
  attributes := attrs
def plain (name : String) (sup : Option ClassId) : Class where
  name := name
  kind := .ordinary
  loader := none
  accessFlags := 33
  super := sup
  interfaces := #[]
  cf := none
  fields := #[]
  methods := #[]
  instanceTypes := #[]
  staticTypes := #[]
  resolved := #[]
  callSites := []
  init := .initialized
  statics := none
  mirror := none

def pool0 : Array CpInfo := pool [(5, u "<init>"), (0, u "()V"), (1, .class_ 10), (1, u "java/lang/Object")] 113

def k0m0 : Method := { name := "<init>", desc := "()V", sig := { parameters := [], returnType := none }, accessFlags := 1, code := none }
/-- java/lang/Object -/
def k0 : Class := { plain "java/lang/Object" none with
  accessFlags := 33
  interfaces := #[]
  cf := some (fileOf pool0 8 #[] #[{ accessFlags := 1, nameIndex := 5, descriptorIndex := 6, attributes := #[] }] 33 0 #[] #[])
  fields := #[]
  methods := #[k0m0]
  instanceTypes := #[]
  staticTypes := #[]
  resolved := Array.replicate 124 none
  statics := none }

def pool1 : Array CpInfo := pool [(2, .class_ 4), (1, u "java/lang/Object"), (0, u "<init>"), (0, u "()V"), (0, .fieldref 8 9), (0, .class_ 10), (0, .nameAndType 11 12), (0, u "com/example/grendel/grendel/LockMode"), (0, u "NL"), (0, u "Lcom/example/grendel/grendel/LockMode;"), (0, .fieldref 8 14), (0, .nameAndType 15 12), (0, u "RS"), (0, .fieldref 8 17), (0, .nameAndType 18 12), (0, u "RX"), (0, .fieldref 8 20), (0, .nameAndType 21 12), (0, u "S"), (0, .fieldref 8 23), (0, .nameAndType 24 12), (0, u "SRX"), (0, .fieldref 8 26), (0, .nameAndType 27 12), (0, u "X"), (0, .integer 2147483647), (0, .methodref 30 31), (0, .class_ 32), (0, .nameAndType 33 34), (0, u "com/example/grendel/grendel/LockModeAdmitsPinLaw"), (0, u "pick"), (0, u "(I)Lcom/example/grendel/grendel/LockMode;"), (0, .methodref 8 36), (0, .nameAndType 37 38), (0, u "admits"), (0, u "(Lcom/example/grendel/grendel/LockMode;)Z"), (0, .methodref 30 40), (0, .nameAndType 41 42), (0, u "expected"), (0, u "(II)Z"), (3, u "law")] 2

def k1m0 : Method := { name := "<init>", desc := "()V", sig := { parameters := [], returnType := none }, accessFlags := 2, code := none }
def k1c1 : Code := { maxStack := 2, maxLocals := 1, code := method_2_code, exceptionTable := #[], attributes := #[] }
def k1m1 : Method := { name := "pick", desc := "(I)Lcom/example/grendel/grendel/LockMode;", sig := { parameters := [.int], returnType := some (.object "com/example/grendel/grendel/LockMode") }, accessFlags := 10, code := some k1c1 }
def k1c2 : Code := { maxStack := 2, maxLocals := 2, code := method_3_code, exceptionTable := #[], attributes := #[] }
def k1m2 : Method := { name := "expected", desc := "(II)Z", sig := { parameters := [.int, .int], returnType := some .boolean }, accessFlags := 10, code := some k1c2 }
def k1c3 : Code := { maxStack := 4, maxLocals := 7, code := code, exceptionTable := #[], attributes := #[] }
def k1m3 : Method := { name := "law", desc := "(II)Z", sig := { parameters := [.int, .int], returnType := some .boolean }, accessFlags := 9, code := some k1c3 }
/-- com/example/grendel/grendel/LockModeAdmitsPinLaw -/
def k1 : Class := { plain "com/example/grendel/grendel/LockModeAdmitsPinLaw" (some 0) with
  accessFlags := 49
  interfaces := #[]
  cf := some (fileOf pool1 30 #[] #[{ accessFlags := 2, nameIndex := 5, descriptorIndex := 6, attributes := #[] }, { accessFlags := 10, nameIndex := 33, descriptorIndex := 34, attributes := #[] }, { accessFlags := 10, nameIndex := 41, descriptorIndex := 42, attributes := #[] }, { accessFlags := 9, nameIndex := 46, descriptorIndex := 42, attributes := #[] }] 49 2 #[] #[])
  fields := #[]
  methods := #[k1m0, k1m1, k1m2, k1m3]
  instanceTypes := #[]
  staticTypes := #[]
  resolved := Array.replicate 49 none
  statics := none }

def pool2 : Array CpInfo := pool [(1, .class_ 2), (0, u "java/lang/constant/Constable"), (0, .class_ 4), (0, u "java/lang/Object")] 6

/-- java/lang/constant/Constable -/
def k2 : Class := { plain "java/lang/constant/Constable" (some 0) with
  accessFlags := 1537
  interfaces := #[]
  cf := some (fileOf pool2 1 #[] #[] 1537 3 #[] #[])
  fields := #[]
  methods := #[]
  instanceTypes := #[]
  staticTypes := #[]
  resolved := Array.replicate 11 none
  statics := none }

def pool3 : Array CpInfo := pool [(1, .class_ 2), (0, u "java/lang/Comparable"), (0, .class_ 4), (0, u "java/lang/Object")] 7

/-- java/lang/Comparable -/
def k3 : Class := { plain "java/lang/Comparable" (some 0) with
  accessFlags := 1537
  interfaces := #[]
  cf := some (fileOf pool3 1 #[] #[] 1537 3 #[] #[])
  fields := #[]
  methods := #[]
  instanceTypes := #[]
  staticTypes := #[]
  resolved := Array.replicate 12 none
  statics := none }

def pool4 : Array CpInfo := pool [(1, .class_ 2), (0, u "java/io/Serializable"), (0, .class_ 4), (0, u "java/lang/Object")] 2

/-- java/io/Serializable -/
def k4 : Class := { plain "java/io/Serializable" (some 0) with
  accessFlags := 1537
  interfaces := #[]
  cf := some (fileOf pool4 1 #[] #[] 1537 3 #[] #[])
  fields := #[]
  methods := #[]
  instanceTypes := #[]
  staticTypes := #[]
  resolved := Array.replicate 7 none
  statics := none }

def pool5 : Array CpInfo := pool [(2, .class_ 4), (1, u "java/lang/Enum"), (0, u "name"), (0, u "Ljava/lang/String;"), (2, u "ordinal"), (0, u "I"), (1, .class_ 14), (1, u "java/lang/Object"), (4, u "hash"), (86, .class_ 108), (1, u "java/lang/Enum$EnumDesc"), (2, .class_ 112), (0, u "java/lang/constant/Constable"), (0, .class_ 114), (0, u "java/lang/Comparable"), (0, .class_ 116), (0, u "java/io/Serializable")] 87

/-- java/lang/Enum -/
def k5 : Class := { plain "java/lang/Enum" (some 0) with
  accessFlags := 1057
  interfaces := #[2, 3, 4]
  cf := some (fileOf pool5 2 #[.nestMembers #[106]] #[] 1057 12 #[111, 113, 115] #[{ accessFlags := 18, nameIndex := 5, descriptorIndex := 6, attributes := #[] }, { accessFlags := 18, nameIndex := 9, descriptorIndex := 10, attributes := #[] }, { accessFlags := 2, nameIndex := 19, descriptorIndex := 10, attributes := #[] }])
  fields := #[{ name := "name", type := (.object "java/lang/String"), accessFlags := 18, slot := 0, constantValue := 0 }, { name := "ordinal", type := .int, accessFlags := 18, slot := 1, constantValue := 0 }, { name := "hash", type := .int, accessFlags := 2, slot := 2, constantValue := 0 }]
  methods := #[]
  instanceTypes := #[(.object "java/lang/String"), .int, .int]
  staticTypes := #[]
  resolved := Array.replicate 204 none
  statics := none }

def pool6 : Array CpInfo := pool [(1, .class_ 2), (0, u "com/example/grendel/grendel/LockMode"), (2, u "NL"), (0, u "Lcom/example/grendel/grendel/LockMode;"), (2, u "RS"), (2, u "RX"), (2, u "S"), (2, u "SRX"), (2, u "X"), (2, u "$VALUES"), (0, u "[Lcom/example/grendel/grendel/LockMode;"), (6, .class_ 34), (1, u "java/lang/Enum"), (6, .fieldref 1 42), (0, .nameAndType 43 44), (0, u "code"), (0, u "I"), (10, .fieldref 1 56), (0, .nameAndType 57 44), (0, u "admitted"), (2, u "VALUES"), (95, u "admits"), (0, u "(Lcom/example/grendel/grendel/LockMode;)Z")] 23

def k6c0 : Code := { maxStack := 4, maxLocals := 2, code := prog_16_method_6_code, exceptionTable := #[], attributes := #[] }
def k6m0 : Method := { name := "admits", desc := "(Lcom/example/grendel/grendel/LockMode;)Z", sig := { parameters := [(.object "com/example/grendel/grendel/LockMode")], returnType := some .boolean }, accessFlags := 1, code := some k6c0 }
/-- com/example/grendel/grendel/LockMode -/
def k6 : Class := { plain "com/example/grendel/grendel/LockMode" (some 5) with
  accessFlags := 16433
  interfaces := #[]
  cf := some (fileOf pool6 1 #[] #[{ accessFlags := 1, nameIndex := 156, descriptorIndex := 157, attributes := #[] }] 16433 32 #[] #[{ accessFlags := 16409, nameIndex := 5, descriptorIndex := 6, attributes := #[] }, { accessFlags := 16409, nameIndex := 9, descriptorIndex := 6, attributes := #[] }, { accessFlags := 16409, nameIndex := 12, descriptorIndex := 6, attributes := #[] }, { accessFlags := 16409, nameIndex := 15, descriptorIndex := 6, attributes := #[] }, { accessFlags := 16409, nameIndex := 18, descriptorIndex := 6, attributes := #[] }, { accessFlags := 16409, nameIndex := 21, descriptorIndex := 6, attributes := #[] }, { accessFlags := 26, nameIndex := 60, descriptorIndex := 25, attributes := #[] }, { accessFlags := 18, nameIndex := 43, descriptorIndex := 44, attributes := #[] }, { accessFlags := 18, nameIndex := 57, descriptorIndex := 44, attributes := #[] }, { accessFlags := 4122, nameIndex := 24, descriptorIndex := 25, attributes := #[] }])
  fields := #[{ name := "NL", type := (.object "com/example/grendel/grendel/LockMode"), accessFlags := 16409, slot := 0, constantValue := 0 }, { name := "RS", type := (.object "com/example/grendel/grendel/LockMode"), accessFlags := 16409, slot := 1, constantValue := 0 }, { name := "RX", type := (.object "com/example/grendel/grendel/LockMode"), accessFlags := 16409, slot := 2, constantValue := 0 }, { name := "S", type := (.object "com/example/grendel/grendel/LockMode"), accessFlags := 16409, slot := 3, constantValue := 0 }, { name := "SRX", type := (.object "com/example/grendel/grendel/LockMode"), accessFlags := 16409, slot := 4, constantValue := 0 }, { name := "X", type := (.object "com/example/grendel/grendel/LockMode"), accessFlags := 16409, slot := 5, constantValue := 0 }, { name := "VALUES", type := (.array (.object "com/example/grendel/grendel/LockMode")), accessFlags := 26, slot := 6, constantValue := 0 }, { name := "code", type := .int, accessFlags := 18, slot := 3, constantValue := 0 }, { name := "admitted", type := .int, accessFlags := 18, slot := 4, constantValue := 0 }, { name := "$VALUES", type := (.array (.object "com/example/grendel/grendel/LockMode")), accessFlags := 4122, slot := 7, constantValue := 0 }]
  methods := #[k6m0]
  instanceTypes := #[(.object "java/lang/String"), .int, .int, .int, .int]
  staticTypes := #[(.object "com/example/grendel/grendel/LockMode"), (.object "com/example/grendel/grendel/LockMode"), (.object "com/example/grendel/grendel/LockMode"), (.object "com/example/grendel/grendel/LockMode"), (.object "com/example/grendel/grendel/LockMode"), (.object "com/example/grendel/grendel/LockMode"), (.array (.object "com/example/grendel/grendel/LockMode")), (.array (.object "com/example/grendel/grendel/LockMode"))]
  resolved := Array.replicate 181 none
  statics := some 0 }

def pool7 : Array CpInfo := pool [(1, u "java/lang/Cloneable"), (0, .class_ 1), (0, u "java/lang/Object"), (0, .class_ 3)] 3

/-- java/lang/Cloneable -/
def k7 : Class := { plain "java/lang/Cloneable" (some 0) with
  accessFlags := 1537
  interfaces := #[]
  cf := some (fileOf pool7 2 #[] #[] 1537 4 #[] #[])
  fields := #[]
  methods := #[]
  instanceTypes := #[]
  staticTypes := #[]
  resolved := Array.replicate 8 none
  statics := none }

/-- the primitive byte -/
def k8 : Class := { plain "byte" none with kind := .primitive 'B', accessFlags := 0x411 }
/-- [B -/
def k9 : Class := { plain "[B" (some 0) with kind := .array 8 .byte, interfaces := #[7, 4], accessFlags := 1041 }

/-- the primitive int -/
def k10 : Class := { plain "int" none with kind := .primitive 'I', accessFlags := 0x411 }
/-- [I -/
def k11 : Class := { plain "[I" (some 0) with kind := .array 10 .int, interfaces := #[7, 4], accessFlags := 1041 }

def heap : Heap := #[{ cls := 6, slots := #[.ref 1, .ref 4, .ref 3, .ref 2, .ref 6, .ref 5, .null, .null], vm := .statics 6 },
  { cls := 6, slots := #[.null, .int 0, .int 0, .int (1), .int (63)], vm := .none },
  { cls := 6, slots := #[.null, .int 0, .int 0, .int (4), .int (11)], vm := .none },
  { cls := 6, slots := #[.null, .int 0, .int 0, .int (3), .int (7)], vm := .none },
  { cls := 6, slots := #[.null, .int 0, .int 0, .int (2), .int (31)], vm := .none },
  { cls := 6, slots := #[.null, .int 0, .int 0, .int (6), .int (1)], vm := .none },
  { cls := 6, slots := #[.null, .int 0, .int 0, .int (5), .int (3)], vm := .none }]
def classes : Array Class := #[k0, k1, k2, k3, k4, k5, k6, k7, k8, k9, k10, k11]
def interned : List (Array UInt16 × Addr) := []
def slotsUsed : Nat := 38
def theMethod : MethodId := ⟨1, 3⟩
def args0 : Array Value := #[.int 5, .int 3]
def aboutOver (below : List Frame) : State where
  vm := { classes := classes, interned := interned.toArray }
  heap := heap
  slotsUsed := slotsUsed
  threads := #[{ frames := .invoking theMethod args0 :: below }]
def below0 : List Frame := [.native { method := ⟨0, 0⟩, args := #[] }]
def about1 : State := aboutOver below0
def p0 : Program := .bare "" "" ""
def e0 : Env := launch0.env 0 0 0
theorem w_frames : about1.frames = Frame.invoking theMethod args0 :: below0 := rfl
set_option maxRecDepth 65536 in
theorem w_args : argsFit about1.vm theMethod args0 = true := by decide +kernel
set_option maxRecDepth 65536 in
theorem w_heap : heapFits about1 = true := by decide +kernel
set_option maxRecDepth 65536 in
theorem w_runnable : about1.curStatus? = some .runnable := by decide +kernel
set_option maxRecDepth 65536 in
theorem w_alone : about1.alone = true := by decide +kernel
set_option maxRecDepth 65536 in
theorem w_named : about1.methodNamed? x = some theMethod := by decide +kernel
set_option maxRecDepth 65536 in
theorem w_hears : about1.hears theMethod below0 = true := by decide +kernel
set_option maxRecDepth 65536 in
theorem w_ripe : about1.ripe theMethod args0 below0 = true := by decide +kernel
theorem w_running : about1.status = .running := rfl
set_option maxRecDepth 65536 in
theorem w_room : about1.hasRoom e0.platform room_1 = true :=
  launch0.hasRoom_least _ room_1 (by decide +kernel) (by decide +kernel) (by decide +kernel) (by decide +kernel) (by decide +kernel) (by decide +kernel)
theorem allAtoms_all (ts : List Jvm.Cond) (a : Array Jvm.Value) (st : Jvm.State) : (allAtoms ts).before a st = ts.all (fun c => c.before a st) := by
  induction ts with
  | nil => rfl
  | cons c t ih =>
    show (Jvm.Cond.and c (allAtoms t)).before a st = _
    rw [Jvm.Cond.before_and, ih, List.all_cons]
def words1 : List Jvm.Cond := Jvm.Cond.code x code maxLocals ret :: tables_1
/-- a 'code' word, met by the world's own term for the bytes: nothing is compared byte by byte -/
theorem code_word {y : MethodName} {bytes : ByteArray} {mx : Nat} {rt : Option FieldType} {a : Array Value} {s : State} {m : MethodId} {meth : Method} {c : Code} (h1 : s.methodNamed? y = some m) (h2 : s.vm.method? m = some meth) (h3 : meth.code = some c) (h4 : c.code = bytes)
    (h5 : (c.maxLocals == mx && c.exceptionTable.isEmpty && decide (c.maxStack ≤ mostOperands) && decide (meth.sig.returnType = rt) && !meth.locks && decide (parseMethodDescriptor y.desc = some meth.sig)) = true) : (Jvm.Cond.code y bytes mx rt).before a s = true := by
  simp only [Bool.and_eq_true, beq_iff_eq, Bool.not_eq_true', decide_eq_true_eq] at h5
  obtain ⟨⟨⟨⟨⟨g1, g2⟩, g3⟩, g4⟩, g5⟩, g6⟩ := h5
  simp [Cond.before, Cond.holds, Cond.value, h1, h2, h3, h4, g1, g2, g3, g4, g5, g6]
def isCode : Jvm.Cond → Bool
  | .code _ _ _ _ => true
  | _ => false
theorem all_split {L : List Jvm.Cond} {P : Jvm.Cond → Bool} (h1 : L.all (fun c => isCode c || P c) = true) (h2 : ∀ c ∈ L.filter isCode, P c = true) : L.all P = true := by
  refine List.all_eq_true.mpr fun c hc => ?_
  have h := List.all_eq_true.mp h1 c hc
  rcases Bool.eq_false_or_eq_true (isCode c) with hi | hi
  · exact h2 c (List.mem_filter.mpr ⟨hc, hi⟩)
  · simpa [hi] using h
set_option maxRecDepth 65536 in
theorem w_c0 : (Jvm.Cond.code x code maxLocals ret).before args0 about1 = true := code_word (m := ⟨1, 3⟩) (meth := k1m3) (c := k1c3) (by decide +kernel) rfl rfl rfl (by decide +kernel)
set_option maxRecDepth 65536 in
theorem w_c1 : (Jvm.Cond.code ({ cls := "com/example/grendel/grendel/LockModeAdmitsPinLaw", name := "pick", desc := "(I)Lcom/example/grendel/grendel/LockMode;" } : Jvm.MethodName) method_2_code (1 : Nat) (Option.some (Jvm.ClassFile.FieldType.object "com/example/grendel/grendel/LockMode"))).before args0 about1 = true := code_word (m := ⟨1, 1⟩) (meth := k1m1) (c := k1c1) (by decide +kernel) rfl rfl rfl (by decide +kernel)
set_option maxRecDepth 65536 in
theorem w_c2 : (Jvm.Cond.code ({ cls := "com/example/grendel/grendel/LockMode", name := "admits", desc := "(Lcom/example/grendel/grendel/LockMode;)Z" } : Jvm.MethodName) prog_16_method_6_code (2 : Nat) (Option.some Jvm.ClassFile.FieldType.boolean)).before args0 about1 = true := code_word (m := ⟨6, 0⟩) (meth := k6m0) (c := k6c0) (by decide +kernel) rfl rfl rfl (by decide +kernel)
set_option maxRecDepth 65536 in
theorem w_c3 : (Jvm.Cond.code ({ cls := "com/example/grendel/grendel/LockModeAdmitsPinLaw", name := "expected", desc := "(II)Z" } : Jvm.MethodName) method_3_code (2 : Nat) (Option.some Jvm.ClassFile.FieldType.boolean)).before args0 about1 = true := code_word (m := ⟨1, 2⟩) (meth := k1m2) (c := k1c2) (by decide +kernel) rfl rfl rfl (by decide +kernel)
def codes1 : List Jvm.Cond := [Jvm.Cond.code x code maxLocals ret, Jvm.Cond.code ({ cls := "com/example/grendel/grendel/LockModeAdmitsPinLaw", name := "pick", desc := "(I)Lcom/example/grendel/grendel/LockMode;" } : Jvm.MethodName) method_2_code (1 : Nat) (Option.some (Jvm.ClassFile.FieldType.object "com/example/grendel/grendel/LockMode")), Jvm.Cond.code ({ cls := "com/example/grendel/grendel/LockMode", name := "admits", desc := "(Lcom/example/grendel/grendel/LockMode;)Z" } : Jvm.MethodName) prog_16_method_6_code (2 : Nat) (Option.some Jvm.ClassFile.FieldType.boolean), Jvm.Cond.code ({ cls := "com/example/grendel/grendel/LockModeAdmitsPinLaw", name := "expected", desc := "(II)Z" } : Jvm.MethodName) method_3_code (2 : Nat) (Option.some Jvm.ClassFile.FieldType.boolean)]
set_option maxRecDepth 65536 in
theorem codes_eq : words1.filter isCode = codes1 := rfl
theorem w_codes : ∀ c ∈ words1.filter isCode, c.before args0 about1 = true := by
  rw [codes_eq]
  intro c hc
  simp only [codes1, List.mem_cons, List.not_mem_nil, or_false] at hc
  rcases hc with rfl | rfl | rfl | rfl
  · exact w_c0
  · exact w_c1
  · exact w_c2
  · exact w_c3
set_option maxRecDepth 65536 in
theorem w_t1 : (words1.take 24).all (fun c => isCode c || c.before args0 about1) = true := by decide +kernel
set_option maxRecDepth 65536 in
theorem w_t2 : (words1.drop 24).all (fun c => isCode c || c.before args0 about1) = true := by decide +kernel
theorem w_tables : (allAtoms (Jvm.Cond.code x code maxLocals ret :: tables_1)).before args0 about1 = true := by
  rw [allAtoms_all]
  show words1.all (fun c => c.before args0 about1) = true
  refine all_split ?_ w_codes
  rw [← List.take_append_drop 24 words1, List.all_append, w_t1, w_t2]
  rfl
set_option maxRecDepth 65536 in
theorem w_case : (Jvm.Cond.and given_1 narrow_1).before args0 about1 = true := by decide +kernel
theorem w_applies : (headSpec (Jvm.Cond.code x code maxLocals ret :: tables_1) room_1).applies x e0.platform about1 = true :=
  (Spec.applies_iff w_frames).mpr ⟨w_running, w_runnable, w_alone, w_named, w_hears, w_ripe, w_room, w_tables⟩
theorem atStart : AtStart classFile x code maxLocals ret World_1 tables_1 room_1 Calls_1 rest_1 Pre_1 launch0 p0 e0 about1 theMethod args0 below0 :=
  ⟨lists_1, trivial, launch0.admits_env _ _ _, launch0.least_env, fairChoices_fair.cas, fairChoices_fair.clock, w_frames, w_args, w_heap, w_applies, trivial, trivial, w_case⟩
end start1
theorem witness_1 : WitnessClaimed_1 := ⟨start1.p0, start1.e0, start1.about1, start1.theMethod, start1.args0, start1.below0, start1.atStart⟩
end Jvm.Pilot.@@N@@
