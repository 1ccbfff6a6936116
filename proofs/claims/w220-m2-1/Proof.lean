import JvmDerived
import JvmDerived.Pilot.@@N@@Statement
import JvmDerived.Pilot.@@N@@Code
set_option linter.unusedVariables false
set_option linter.unusedSimpArgs false
@@BLOCK:NumsL.lean.txt@@
namespace Jvm.Pilot.@@N@@
open Jvm Jvm.ClassFile Sem Op Lib Jvm.Free Jvm.Stand Jvm.LawKit Jvm.RoadKit Bundle Jvm.Pilot.@@N@@.Jvm.D
section OwnKit
variable {p : Program} {l : Launch} {e : Env} {R : Room} {s : State} {m : MethodId} {args : Array Value} {below : List Frame} {meth : Method} {c : Code} {T : State} {locs : List Loc} {cells slots : Nat} {Z : State} {a0 : Array Value} {h h' : Heap}
/-- from S the run comes to an end of which P holds -/
def Go (p : Program) (e : Env) (below : List Frame) (P : State → Outcome → Prop) (S : State) : Prop :=
  ∃ s₂ o, Steps p.tables e below S s₂ ∧ s₂.status = .running ∧ Ended s₂ below o ∧ P s₂ o
/-- what a contract says of the end -/
def Ret (s : State) (Q : Option Value → Heap → List Loc → Prop) (cs sl : Nat) : State → Outcome → Prop :=
  fun s₂ o => ∃ v L, o = .returned v ∧ Q v s₂.heap L ∧ FrameEnd s o s₂ L cs sl
theorem Go.st {P : State → Outcome → Prop} {S S' : State} (k : ∀ t, Steps p.tables e below S' t → Steps p.tables e below S t) (g : Go p e below P S') : Go p e below P S := by
  obtain ⟨t, o, q, r⟩ := g
  exact ⟨t, o, k t q, r⟩
/-- a contract in this family: entered with these arguments on this heap -/
abbrev Con (l : Launch) (Z : State) (h0 : Heap) (y : MethodName) (bytes : ByteArray) (maxL : Nat) (ret : Option FieldType) (ws : List Jvm.Cond) (rm : Room) (as' : Array Value) (Q : Option Value → Heap → List Loc → Prop) : Prop :=
  MetFree l y (head1 (Jvm.Cond.code y bytes maxL ret :: ws) rm) (fun a U => a = as' ∧ Z.Warmed39 U.vm ∧ U.heap = h0) (fun _ _ _ _ _ => True) (fun _ U o U' => ∃ v L, o = .returned v ∧ Q v U'.heap L ∧ FrameEnd U o U' L rm.cells rm.slots)
theorem own_con {h0 : Heap} {y : MethodName} {bytes : ByteArray} {maxL : Nat} {ret : Option FieldType} {ws : List Jvm.Cond} {rm : Room} {as' : Array Value} {Q : Option Value → Heap → List Loc → Prop} (hpl : plainFor y = true)
    (body : ∀ (p : Program) (e : Env) (s : State) (m : MethodId) (below : List Frame) (meth : Method) (c : Code) (T : State), Stand p l e rm s m as' below meth c T [] 0 0 → p.tables.exec = Jvm.exec → c.code = bytes → c.maxLocals = maxL → s.vm.findClass y.cls = some m.cls → meth.name = y.name → meth.sig.returnType = ret → meth.locks = false → Z.Warmed39 s.vm → T.heap = h0 →
      Go p e below (Ret s Q rm.cells rm.slots) (T.setTop (entryFrame m as' maxL))) : Con l Z h0 y bytes maxL ret ws rm as' Q := by
  refine MetFree.of_bodySF hpl hisR ?_
  intro p e s m args below meth c s₁ Bd hml0 hP hK
  obtain ⟨rfl, hZ, hh⟩ := hP
  exact body p e s m below meth c s₁ (Stand.of_body Bd) Bd.exec Bd.bytes hml0 (findClass_of_methodNamed Bd.named) (name_of_methodNamed Bd.named Bd.method).1 Bd.returns Bd.notSynchronized hZ (by rw [← hh, Bd.state]; rfl)
theorem own_callS (X : Stand p l e R s m args below meth c T locs cells slots) (hx : p.tables.exec = Jvm.exec) (hZ : Z.Warmed39 s.vm)
    {own : String} {index : Nat} {y : MethodName} {bytes : ByteArray} {maxL : Nat} {ret : Option FieldType} {rm : Room} {as' : Array Value} {Q : Option Value → Heap → List Loc → Prop}
    (hown : s.vm.findClass own = some m.cls) (w1 : (Jvm.Cond.methodLink own index y).before a0 Z = true) (w2 : (Jvm.Cond.static y).before a0 Z = true) (w3 : (Jvm.Cond.initialized y.cls).before a0 Z = true) (w4 : (Jvm.Cond.code y bytes maxL ret).before a0 Z = true)
    (hy : y.cls ≠ "java/lang/invoke/MethodHandle" ∧ y.cls ≠ "java/lang/invoke/VarHandle") (eT : T.heap = h) (hM : Con l Z h y bytes maxL ret [] rm as' Q)
    (W : Nat) (hf : rm.frames + 1 ≤ R.frames) (hl : W + (maxL + 11) + rm.locals ≤ R.locals) (hc : cells + rm.cells ≤ R.cells) (hs : slots + rm.slots ≤ R.slots)
    {g : JFrame} (hg : g.method = m) (hsize : g.locals.size = c.maxLocals) (argsL rest : List Value) (has : argsL.toArray = as') (hlen : ∀ sig, parseMethodDescriptor y.desc = some sig → argsL.length = sig.parameters.length) (hstack : g.stack = argsL.reverse ++ rest) (hW : 2 * g.monitorRoom + (rest.map fun v => v.category).sum ≤ W)
    (hd : decode c.code g.pc = .ok (.invokestatic index, 3)) :
    ∃ (v : Option Value) (T' : State) (L : List Loc), Stand p l e R s m args below meth c T' (locs ++ L) (cells + rm.cells) (slots + rm.slots) ∧ Q v T'.heap L ∧ ∀ t, Steps p.tables e below (T'.setTop { g with pc := g.pc + 3, stack := v.toList ++ rest }) t → Steps p.tables e below (T.setTop g) t := by
  obtain ⟨v, _, ⟨T', L', k', n'⟩, -, X', ⟨L, hQ, l1, l2, l3⟩, st⟩ := Jvm.LawKit.callS X hx hown (mvT hZ w1) (mvT hZ w2) (mvT hZ w3) (mvT hZ w4) hy (backOf (W := W) hM hZ w4 w3 hf hl) hg hsize hlen hstack hW hd (fun _ _ => ⟨has, eT, hc, hs⟩)
  dsimp only [Pt.U, Pt.locs, Pt.cells, Pt.slots] at X' l1 l2 l3 st hQ
  subst l1 l2 l3
  exact ⟨v, T', L, X', hQ, st⟩
theorem own_callV (X : Stand p l e R s m args below meth c T locs cells slots) (hx : p.tables.exec = Jvm.exec) (hZ : Z.Warmed39 s.vm)
    {own C : String} {index : Nat} {y z : MethodName} {bytes : ByteArray} {maxL : Nat} {ret : Option FieldType} {rm : Room} {as' : Array Value} {Q : Option Value → Heap → List Loc → Prop} {b : Addr}
    (hown : s.vm.findClass own = some m.cls) (w1 : (Jvm.Cond.methodLink own index y).before a0 Z = true) (w2 : (Jvm.Cond.declares y).before a0 Z = true) (hnf : NotFace s y) (w4 : (Jvm.Cond.selects C y z).before a0 Z = true) (w5 : (Jvm.Cond.instanceMethod z).before a0 Z = true) (w3 : (Jvm.Cond.initialized z.cls).before a0 Z = true) (w6 : (Jvm.Cond.code z bytes maxL ret).before a0 Z = true)
    (hy : y.cls ≠ "java/lang/invoke/MethodHandle" ∧ y.cls ≠ "java/lang/invoke/VarHandle") (eT : T.heap = h) (E : Exa Z h b C) (hM : Con l Z h z bytes maxL ret [] rm as' Q)
    (W : Nat) (hf : rm.frames + 1 ≤ R.frames) (hl : W + (maxL + 11) + rm.locals ≤ R.locals) (hc : cells + rm.cells ≤ R.cells) (hs : slots + rm.slots ≤ R.slots)
    {g : JFrame} (hg : g.method = m) (hsize : g.locals.size = c.maxLocals) (argsL rest : List Value) (has : (.ref b :: argsL).toArray = as') (hlen : ∀ sig, parseMethodDescriptor y.desc = some sig → argsL.length = sig.parameters.length) (hstack : g.stack = argsL.reverse ++ .ref b :: rest) (hW : 2 * g.monitorRoom + (rest.map fun v => v.category).sum ≤ W)
    (hd : decode c.code g.pc = .ok (.invokevirtual index, 3)) :
    ∃ (v : Option Value) (T' : State) (L : List Loc), Stand p l e R s m args below meth c T' (locs ++ L) (cells + rm.cells) (slots + rm.slots) ∧ Q v T'.heap L ∧ ∀ t, Steps p.tables e below (T'.setTop { g with pc := g.pc + 3, stack := v.toList ++ rest }) t → Steps p.tables e below (T.setTop g) t := by
  obtain ⟨cq, kq, qa, qb, qc⟩ := isOf hZ eT E
  obtain ⟨v, _, ⟨T', L', k', n'⟩, -, X', ⟨L, hQ, l1, l2, l3⟩, st⟩ := X.virtualBack hx hown (mvT hZ w1) (mvT hZ w2) hnf (mvT hZ w4) (mvT hZ w5) hy (backOf (W := W) hM hZ w6 w3 hf hl) qa qc hg hsize (Steps.refl _) hlen hstack hW hd (fun _ _ => ⟨has, eT, hc, hs⟩)
  dsimp only [Pt.U, Pt.locs, Pt.cells, Pt.slots] at X' l1 l2 l3 st hQ
  subst l1 l2 l3
  exact ⟨v, T', L, X', hQ, fun t k => st.trans k⟩
theorem own_callI (X : Stand p l e R s m args below meth c T locs cells slots) (hx : p.tables.exec = Jvm.exec) (hZ : Z.Warmed39 s.vm)
    {own : String} {index : Nat} {y : MethodName} {bytes : ByteArray} {maxL : Nat} {rm : Room} {as' : Array Value} {Q : Option Value → Heap → List Loc → Prop} {b : Addr} (hy1 : y.name = "<init>")
    (hown : s.vm.findClass own = some m.cls) (w1 : (Jvm.Cond.methodLink own index y).before a0 Z = true) (w5 : (Jvm.Cond.instanceMethod y).before a0 Z = true) (w3 : (Jvm.Cond.initialized y.cls).before a0 Z = true) (w6 : (Jvm.Cond.code y bytes maxL none).before a0 Z = true)
    (hy : y.cls ≠ "java/lang/invoke/MethodHandle" ∧ y.cls ≠ "java/lang/invoke/VarHandle") (eT : T.heap = h) (hM : Con l Z h y bytes maxL none [] rm as' Q)
    (W : Nat) (hf : rm.frames + 1 ≤ R.frames) (hl : W + (maxL + 11) + rm.locals ≤ R.locals) (hc : cells + rm.cells ≤ R.cells) (hs : slots + rm.slots ≤ R.slots)
    {g : JFrame} (hg : g.method = m) (hsize : g.locals.size = c.maxLocals) (argsL rest : List Value) (has : (.ref b :: argsL).toArray = as') (hlen : ∀ sig, parseMethodDescriptor y.desc = some sig → argsL.length = sig.parameters.length) (hstack : g.stack = argsL.reverse ++ .ref b :: rest) (hW : 2 * g.monitorRoom + (rest.map fun v => v.category).sum ≤ W)
    (hd : decode c.code g.pc = .ok (.invokespecial index, 3)) :
    ∃ (v : Option Value) (T' : State) (L : List Loc), Stand p l e R s m args below meth c T' (locs ++ L) (cells + rm.cells) (slots + rm.slots) ∧ Q v T'.heap L ∧ ∀ t, Steps p.tables e below (T'.setTop { g with pc := g.pc + 3, stack := v.toList ++ rest }) t → Steps p.tables e below (T.setTop g) t := by
  obtain ⟨v, _, ⟨T', L', k', n'⟩, -, X', ⟨L, hQ, l1, l2, l3⟩, st⟩ := X.specialBack hx hy1 hown (mvT hZ w1) (mvT hZ w5) (mvT hZ w6) hy (backOf (W := W) hM hZ w6 w3 hf hl) hg hsize (Steps.refl _) hlen hstack hW hd (fun _ _ => ⟨has, eT, hc, hs⟩)
  dsimp only [Pt.U, Pt.locs, Pt.cells, Pt.slots] at X' l1 l2 l3 st hQ
  subst l1 l2 l3
  exact ⟨v, T', L, X', hQ, fun t k => st.trans k⟩
/-- the end of a walk -/
theorem own_fin (X : Stand p l e R s m args below meth c T locs cells slots) (hlk : meth.locks = false) {v : Option Value} (hv : meth.sig.returnType = none → v = none) {Q : Option Value → Heap → List Loc → Prop} {cs sl : Nat} (eT : T.heap = h) (hQ : Q v h locs) (hc : cells ≤ cs) (hs : slots ≤ sl) {S : State}
    (k : ∀ fs : List Frame, (∀ (f : JFrame) (acts : List Action), f.method = m → f.locked = none → f.entered = [] → (doReturn e (T.setTop f) acts v).1 = T.setFrames fs) → Steps p.tables e below S (T.setFrames fs)) : Go p e below (Ret s Q cs sl) S := by
  obtain ⟨fs, hr, hrun, hended, hW, hsame⟩ := X.leave hv hlk
  refine ⟨_, _, k fs hr, hrun, hended, _, _, rfl, ?_, ⟨_, rfl⟩, hW, hsame.mono hc hs⟩
  have q : (T.setFrames fs).heap = h := eT
  rw [q]; exact hQ
theorem own_retO (X : Stand p l e R s m args below meth c T locs cells slots) (hx : p.tables.exec = Jvm.exec) (hlk : meth.locks = false) {pc : Nat} {Ls : Array Slot} {w : Value} {t : FieldType} {i : Instr} {rest : List Value} (hret : meth.sig.returnType = some t) (hn : narrow t w = w)
    (hi : (i = .ireturn ∧ (t = .int ∨ t = .boolean ∨ t = .byte ∨ t = .char ∨ t = .short) ∧ ∃ z, w = .int z) ∨ (i = .lreturn ∧ t = .long ∧ ∃ z, w = .long z) ∨ (i = .dreturn ∧ t = .double ∧ ∃ z, w = .double z) ∨ (i = .freturn ∧ t = .float ∧ ∃ z, w = .float z) ∨ (i = .areturn ∧ t.isReference = true ∧ w.isRef = true))
    (hd : decode c.code pc = .ok (i, 1)) {Q : Option Value → Heap → List Loc → Prop} {cs sl : Nat} (eT : T.heap = h) (hQ : Q (some w) h locs) (hc : cells ≤ cs) (hs : slots ≤ sl) : Go p e below (Ret s Q cs sl) (T.setTop (mkF m pc Ls (w :: rest))) :=
  own_fin X hlk (fun q => by rw [hret] at q; cases q) eT hQ hc hs fun fs hr => retOut X hx hret hn hi hd hr
theorem own_retI (X : Stand p l e R s m args below meth c T locs cells slots) (hx : p.tables.exec = Jvm.exec) (hlk : meth.locks = false) {pc : Nat} {Ls : Array Slot} {w : Int32} {rest : List Value} (hret : meth.sig.returnType = some .int)
    (hd : decode c.code pc = .ok (.ireturn, 1)) {Q : Option Value → Heap → List Loc → Prop} {cs sl : Nat} (eT : T.heap = h) (hQ : Q (some (.int w)) h locs) (hc : cells ≤ cs) (hs : slots ≤ sl) : Go p e below (Ret s Q cs sl) (T.setTop (mkF m pc Ls (.int w :: rest))) :=
  own_retO X hx hlk hret rfl (Or.inl ⟨rfl, Or.inl rfl, _, rfl⟩) hd eT hQ hc hs
theorem own_retJ (X : Stand p l e R s m args below meth c T locs cells slots) (hx : p.tables.exec = Jvm.exec) (hlk : meth.locks = false) {pc : Nat} {Ls : Array Slot} {w : Int64} {rest : List Value} (hret : meth.sig.returnType = some .long)
    (hd : decode c.code pc = .ok (.lreturn, 1)) {Q : Option Value → Heap → List Loc → Prop} {cs sl : Nat} (eT : T.heap = h) (hQ : Q (some (.long w)) h locs) (hc : cells ≤ cs) (hs : slots ≤ sl) : Go p e below (Ret s Q cs sl) (T.setTop (mkF m pc Ls (.long w :: rest))) :=
  own_retO X hx hlk hret rfl (Or.inr (Or.inl ⟨rfl, rfl, _, rfl⟩)) hd eT hQ hc hs
theorem own_retA (X : Stand p l e R s m args below meth c T locs cells slots) (hx : p.tables.exec = Jvm.exec) (hlk : meth.locks = false) {pc : Nat} {Ls : Array Slot} {w : Value} {t : FieldType} {rest : List Value} (hret : meth.sig.returnType = some t) (hn : narrow t w = w) (ht : t.isReference = true) (hw : w.isRef = true)
    (hd : decode c.code pc = .ok (.areturn, 1)) {Q : Option Value → Heap → List Loc → Prop} {cs sl : Nat} (eT : T.heap = h) (hQ : Q (some w) h locs) (hc : cells ≤ cs) (hs : slots ≤ sl) : Go p e below (Ret s Q cs sl) (T.setTop (mkF m pc Ls (w :: rest))) :=
  own_retO X hx hlk hret hn (Or.inr (Or.inr (Or.inr (Or.inr ⟨rfl, ht, hw⟩)))) hd eT hQ hc hs
theorem own_retN (X : Stand p l e R s m args below meth c T locs cells slots) (hx : p.tables.exec = Jvm.exec) (hlk : meth.locks = false) {pc : Nat} {Ls : Array Slot} {z : Int32} {t : FieldType} {rest : List Value} (hret : meth.sig.returnType = some t) (ht : t = .boolean ∨ t = .byte ∨ t = .char ∨ t = .short)
    (hd : decode c.code pc = .ok (.ireturn, 1)) {Q : Option Value → Heap → List Loc → Prop} {cs sl : Nat} (eT : T.heap = h) (hQ : Q (some (.int (nar t z))) h locs) (hc : cells ≤ cs) (hs : slots ≤ sl) : Go p e below (Ret s Q cs sl) (T.setTop (mkF m pc Ls (.int z :: rest))) :=
  own_fin X hlk (fun q => by rw [hret] at q; cases q) eT hQ hc hs fun fs hr => retN X hx hret ht hd hr
theorem own_retV (X : Stand p l e R s m args below meth c T locs cells slots) (hx : p.tables.exec = Jvm.exec) (hlk : meth.locks = false) {pc : Nat} {Ls : Array Slot} (hret : meth.sig.returnType = none)
    (hd : decode c.code pc = .ok (.return_, 1)) {Q : Option Value → Heap → List Loc → Prop} {cs sl : Nat} (eT : T.heap = h) (hQ : Q none h locs) (hc : cells ≤ cs) (hs : slots ≤ sl) : Go p e below (Ret s Q cs sl) (T.setTop (mkF m pc Ls [])) :=
  own_fin X hlk (fun _ => rfl) eT hQ hc hs fun fs hr => X.returnOut hx hret hd hr
theorem own_Llt {x y : Int64} (h : x < y) : ifCond.holds .lt (lcmpW x y) = true ∧ ifCond.holds .ge (lcmpW x y) = false := by
  have q := (lc_lt x y).mpr h; rw [← lcW] at q; exact ⟨(if0 _ _).trans (tlt q).1, (if0 _ _).trans (tlt q).2.1⟩
theorem own_Lnlt {x y : Int64} (h : ¬ x < y) : ifCond.holds .lt (lcmpW x y) = false ∧ ifCond.holds .ge (lcmpW x y) = true := by
  have q : ¬ lcmpW x y < 0 := fun r => h ((lc_lt x y).mp (by rw [← lcW]; exact r)); exact ⟨(if0 _ _).trans (flt q).1, (if0 _ _).trans (flt q).2.1⟩
theorem own_Lgt {x y : Int64} (h : y < x) : ifCond.holds .gt (lcmpW x y) = true ∧ ifCond.holds .le (lcmpW x y) = false := by
  have q := (lc_gt x y).mpr h; rw [← lcW] at q; exact ⟨(if0 _ _).trans (tlt q).2.2.1, (if0 _ _).trans (tlt q).2.2.2⟩
theorem own_Lngt {x y : Int64} (h : ¬ y < x) : ifCond.holds .gt (lcmpW x y) = false ∧ ifCond.holds .le (lcmpW x y) = true := by
  have q : ¬ 0 < lcmpW x y := fun r => h ((lc_gt x y).mp (by rw [← lcW]; exact r)); exact ⟨(if0 _ _).trans (flt q).2.2.1, (if0 _ _).trans (flt q).2.2.2⟩
theorem own_Leq {x y : Int64} (h : x = y) : ifCond.holds .eq (lcmpW x y) = true ∧ ifCond.holds .ne (lcmpW x y) = false := by
  have q := (lc_eq x y).mpr h; rw [← lcW] at q; exact ⟨(if0 _ _).trans (teq q).1, (if0 _ _).trans (teq q).2⟩
theorem own_Lne {x y : Int64} (h : ¬ x = y) : ifCond.holds .eq (lcmpW x y) = false ∧ ifCond.holds .ne (lcmpW x y) = true := by
  have q : ¬ lcmpW x y = 0 := fun r => h ((lc_eq x y).mp (by rw [← lcW]; exact r)); exact ⟨(if0 _ _).trans (feq q).1, (if0 _ _).trans (feq q).2⟩
theorem own_Ext.refl (h : Heap) : Ext h h := ⟨Nat.le_refl _, fun _ _ q => q⟩
theorem own_Ext.trans {h1 h2 h3 : Heap} (a : Ext h1 h2) (b : Ext h2 h3) : Ext h1 h3 := ⟨Nat.le_trans a.1 b.1, fun x c q => b.2 x c (a.2 x c q)⟩
theorem own_Ext.wr {h0 : Heap} {a : Addr} {sl : Nat} {v : Value} (E : Ext h0 h) (W : Wr h h' a sl v) (q : h0.size ≤ a) : Ext h0 h' := by
  have K : Keep h0 h [] := ⟨E.1, fun x c r _ => E.2 x c r, fun x c r => ⟨c, E.2 x c r, rfl, rfl, rfl⟩⟩
  have K' := K.wr W (Or.inr q)
  exact ⟨K'.1, fun x c r => K'.2.1 x c r (fun z => nomatch z)⟩
theorem own_Ext.keep {h0 : Heap} {ws : List Addr} (E : Ext h0 h) (K : Keep h h' ws) (q : ∀ x ∈ ws, h0.size ≤ x) : Ext h0 h' := by
  refine ⟨Nat.le_trans E.1 K.1, fun x c r => K.2.1 x c (E.2 x c r) fun z => ?_⟩
  have lt : x < h0.size := (Array.getElem?_eq_some_iff.mp r).1
  exact absurd (q x z) (Nat.not_le_of_lt lt)
theorem own_fldI {t : Term} {x : Addr} {C n d : String} {k : Int32} (ev : t.eval args s none [] s = some (.ref x)) (hq : (Jvm.Cond.eq (.field t C n d) (.int k)).value args s none s [] = some true) : Fld s s.heap x C n d (.int k) := by
  obtain ⟨u, v, e1, e2, k1, k2⟩ := cmp_v (Or.inl hq)
  obtain rfl : v = .int k := (Option.some.inj (e2.symm.trans (Term.int_eval k)))
  obtain ⟨z, rfl⟩ := k2
  obtain rfl : z = k := gotT (Jvm.Cond.eq_ints e1 (Term.int_eval k)) hq
  exact Fld.start ((fld_at ev).symm.trans e1)
theorem own_fldJ {t : Term} {x : Addr} {C n d : String} {k : Int64} (ev : t.eval args s none [] s = some (.ref x)) (hq : (Jvm.Cond.eq (.field t C n d) (.long k)).value args s none s [] = some true) : Fld s s.heap x C n d (.long k) := by
  obtain ⟨u, v, e1, e2, k1, k2⟩ := cmp_v (Or.inl hq)
  obtain rfl : v = .long k := (Option.some.inj (e2.symm.trans (long_at k)))
  obtain ⟨z, rfl⟩ := k2
  obtain rfl : z = k := gotT (eq_L e1 (long_at k)) hq
  exact Fld.start ((fld_at ev).symm.trans e1)
theorem own_len0 {t : Term} {x : Addr} {ty : FieldType} {cl : Cell} (ev : t.eval args s none [] s = some (.ref x)) (A : Arr s s.heap x cl ty) (hq : (Jvm.Cond.eq (.length t) (.int 0)).value args s none s [] = some true) : True := trivial
end OwnKit
/-- the sheet's i-th word -/
theorem ww {Z : State} {a0 : Array Value} (hw : ∀ d ∈ tables_1, d.before a0 Z = true) (i : Nat) {d : Jvm.Cond} (h : tables_1[i]? = some d) : d.before a0 Z = true := hw _ (List.mem_of_getElem? h)
section OwnHeap
variable {p : Program} {l : Launch} {e : Env} {R : Room} {s : State} {m : MethodId} {args : Array Value} {below : List Frame} {meth : Method} {c : Code} {T : State} {locs : List Loc} {cells slots : Nat} {Z : State} {a0 : Array Value} {h h' : Heap} {a : Addr} {k : ClassId} {ty : FieldType} {z j : Int32} {vs : List Value} {dv v : Value} {g : JFrame} {rest : List Value}
theorem own_arvset {i : Nat} (F : Arv Z h a k ty z vs dv) (hv : fits ty v = true) (W : Wr h h' a j.toNatClampNeg v) (hi : j.toNatClampNeg = i) (hl : i < vs.length) : Arv Z h' a k ty z (vs.set i v) dv := by
  obtain ⟨cl, A, q, S, N, H, G⟩ := F
  exact Arv.set A q S N H G hv W i hi hl
theorem own_stI (X : Stand p l e R s m args below meth c T locs cells slots) (hx : p.tables.exec = Jvm.exec) (hZ : Z.Warmed39 s.vm) (eT : T.heap = h) (F : Arv Z h a k .int z vs dv) {x : Int32} (hj : ¬ j < 0 ∧ j < z) (i : Nat) (hi : j.toNatClampNeg = i) (hl : i < vs.length) (hg : g.method = m) (hs : g.stack = .int x :: .int j :: .ref a :: rest) (hd : decode c.code g.pc = .ok (.iastore, 1)) :
    ∃ T' h', Stand p l e R s m args below meth c T' (locs ++ [⟨a, j.toNatClampNeg⟩]) cells slots ∧ T'.heap = h' ∧ Wr h h' a j.toNatClampNeg (.int x) ∧ Arv Z h' a k .int z (vs.set i (.int x)) dv ∧ ∀ target, Steps p.tables e below (T'.setTop { g with pc := g.pc + 1, stack := rest }) target → Steps p.tables e below (T.setTop g) target := by
  obtain ⟨cl, A, q, S, N, H, G⟩ := id F
  obtain ⟨T', h', X', e', W, st⟩ := stI X hx hZ eT A (inb_of S hj) hg hs hd
  exact ⟨T', h', X', e', W, own_arvset F rfl W hi hl, st⟩
theorem own_stJ (X : Stand p l e R s m args below meth c T locs cells slots) (hx : p.tables.exec = Jvm.exec) (hZ : Z.Warmed39 s.vm) (eT : T.heap = h) (F : Arv Z h a k .long z vs dv) {x : Int64} (hj : ¬ j < 0 ∧ j < z) (i : Nat) (hi : j.toNatClampNeg = i) (hl : i < vs.length) (hg : g.method = m) (hs : g.stack = .long x :: .int j :: .ref a :: rest) (hd : decode c.code g.pc = .ok (.lastore, 1)) :
    ∃ T' h', Stand p l e R s m args below meth c T' (locs ++ [⟨a, j.toNatClampNeg⟩]) cells slots ∧ T'.heap = h' ∧ Wr h h' a j.toNatClampNeg (.long x) ∧ Arv Z h' a k .long z (vs.set i (.long x)) dv ∧ ∀ target, Steps p.tables e below (T'.setTop { g with pc := g.pc + 1, stack := rest }) target → Steps p.tables e below (T.setTop g) target := by
  obtain ⟨cl, A, q, S, N, H, G⟩ := id F
  obtain ⟨T', h', X', e', W, st⟩ := stJ X hx hZ eT A (inb_of S hj) hg hs hd
  exact ⟨T', h', X', e', W, own_arvset F rfl W hi hl, st⟩
theorem own_stB (X : Stand p l e R s m args below meth c T locs cells slots) (hx : p.tables.exec = Jvm.exec) (hZ : Z.Warmed39 s.vm) (eT : T.heap = h) (F : Arv Z h a k .byte z vs dv) {x : Int32} (hj : ¬ j < 0 ∧ j < z) (i : Nat) (hi : j.toNatClampNeg = i) (hl : i < vs.length) (hg : g.method = m) (hs : g.stack = .int x :: .int j :: .ref a :: rest) (hd : decode c.code g.pc = .ok (.bastore, 1)) :
    ∃ T' h', Stand p l e R s m args below meth c T' (locs ++ [⟨a, j.toNatClampNeg⟩]) cells slots ∧ T'.heap = h' ∧ Wr h h' a j.toNatClampNeg (.int (nar .byte x)) ∧ Arv Z h' a k .byte z (vs.set i (.int (nar .byte x))) dv ∧ ∀ target, Steps p.tables e below (T'.setTop { g with pc := g.pc + 1, stack := rest }) target → Steps p.tables e below (T.setTop g) target := by
  obtain ⟨cl, A, q, S, N, H, G⟩ := id F
  obtain ⟨T', h', X', e', W, st⟩ := stB X hx hZ eT A (inb_of S hj) hg hs hd
  exact ⟨T', h', X', e', W, own_arvset F (fits_nar_byte _) W hi hl, st⟩
theorem own_stC (X : Stand p l e R s m args below meth c T locs cells slots) (hx : p.tables.exec = Jvm.exec) (hZ : Z.Warmed39 s.vm) (eT : T.heap = h) (F : Arv Z h a k .char z vs dv) {x : Int32} (hj : ¬ j < 0 ∧ j < z) (i : Nat) (hi : j.toNatClampNeg = i) (hl : i < vs.length) (hg : g.method = m) (hs : g.stack = .int x :: .int j :: .ref a :: rest) (hd : decode c.code g.pc = .ok (.castore, 1)) :
    ∃ T' h', Stand p l e R s m args below meth c T' (locs ++ [⟨a, j.toNatClampNeg⟩]) cells slots ∧ T'.heap = h' ∧ Wr h h' a j.toNatClampNeg (.int (nar .char x)) ∧ Arv Z h' a k .char z (vs.set i (.int (nar .char x))) dv ∧ ∀ target, Steps p.tables e below (T'.setTop { g with pc := g.pc + 1, stack := rest }) target → Steps p.tables e below (T.setTop g) target := by
  obtain ⟨cl, A, q, S, N, H, G⟩ := id F
  obtain ⟨T', h', X', e', W, st⟩ := stC X hx hZ eT A (inb_of S hj) hg hs hd
  exact ⟨T', h', X', e', W, own_arvset F (fits_nar_char _) W hi hl, st⟩
theorem own_stR (X : Stand p l e R s m args below meth c T locs cells slots) (hx : p.tables.exec = Jvm.exec) (hZ : Z.Warmed39 s.vm) (eT : T.heap = h) {C : String} {y : Addr} (F : Arv Z h a k (.object C) z vs dv) (O : Ovr Z k C) (I : Ins Z h y C true) (hj : ¬ j < 0 ∧ j < z) (i : Nat) (hi : j.toNatClampNeg = i) (hl : i < vs.length) (hg : g.method = m) (hs : g.stack = .ref y :: .int j :: .ref a :: rest) (hd : decode c.code g.pc = .ok (.aastore, 1)) :
    ∃ T' h', Stand p l e R s m args below meth c T' (locs ++ [⟨a, j.toNatClampNeg⟩]) cells slots ∧ T'.heap = h' ∧ Wr h h' a j.toNatClampNeg (.ref y) ∧ Arv Z h' a k (.object C) z (vs.set i (.ref y)) dv ∧ ∀ target, Steps p.tables e below (T'.setTop { g with pc := g.pc + 1, stack := rest }) target → Steps p.tables e below (T.setTop g) target := by
  obtain ⟨cl, A, q, S, N, H, G⟩ := id F
  obtain ⟨T', h', X', e', W, st⟩ := stR X hx hZ eT A (inb_of S hj) rfl (Sto.ofV A q O I) hg hs hd
  exact ⟨T', h', X', e', W, own_arvset F rfl W hi hl, st⟩
theorem own_ldR (X : Stand p l e R s m args below meth c T locs cells slots) (hx : p.tables.exec = Jvm.exec) (hZ : Z.Warmed39 s.vm) (eT : T.heap = h) (F : Arv Z h a k ty z vs dv) (hty : ty.isReference = true) (hj : ¬ j < 0 ∧ j < z) (hv : vs.getD j.toNatClampNeg dv = v) (hg : g.method = m) (hs : g.stack = .int j :: .ref a :: rest) (hd : decode c.code g.pc = .ok (.aaload, 1)) :
    ∀ target, Steps p.tables e below (T.setTop { g with pc := g.pc + 1, stack := v :: rest }) target → Steps p.tables e below (T.setTop g) target := by
  obtain ⟨cl, A, q, S, N, H, G⟩ := F
  exact fun t k => X.aaload hx (by rw [eT]; exact A.1) (State.isArrayOf_alike hZ.alike A.2.1) hty A.2.2 (inb_of S hj) (H.at (inb_of S hj) hv) hg hs hd t k
theorem own_ldJ (X : Stand p l e R s m args below meth c T locs cells slots) (hx : p.tables.exec = Jvm.exec) (hZ : Z.Warmed39 s.vm) (eT : T.heap = h) (F : Arv Z h a k .long z vs dv) (hj : ¬ j < 0 ∧ j < z) (hv : vs.getD j.toNatClampNeg dv = v) (hg : g.method = m) (hs : g.stack = .int j :: .ref a :: rest) (hd : decode c.code g.pc = .ok (.laload, 1)) :
    ∀ target, Steps p.tables e below (T.setTop { g with pc := g.pc + 1, stack := v :: rest }) target → Steps p.tables e below (T.setTop g) target := by
  obtain ⟨cl, A, q, S, N, H, G⟩ := F
  exact fun t k => X.laload hx (by rw [eT]; exact A.1) (State.isArrayOf_alike hZ.alike A.2.1) A.2.2 (inb_of S hj) (H.at (inb_of S hj) hv) hg hs hd t k
theorem own_ldI (X : Stand p l e R s m args below meth c T locs cells slots) (hx : p.tables.exec = Jvm.exec) (hZ : Z.Warmed39 s.vm) (eT : T.heap = h) (F : Arv Z h a k .int z vs dv) (hj : ¬ j < 0 ∧ j < z) (hv : vs.getD j.toNatClampNeg dv = v) (hg : g.method = m) (hs : g.stack = .int j :: .ref a :: rest) (hd : decode c.code g.pc = .ok (.iaload, 1)) :
    ∀ target, Steps p.tables e below (T.setTop { g with pc := g.pc + 1, stack := v :: rest }) target → Steps p.tables e below (T.setTop g) target := by
  obtain ⟨cl, A, q, S, N, H, G⟩ := F
  exact fun t k => X.iaload hx (by rw [eT]; exact A.1) (State.isArrayOf_alike hZ.alike A.2.1) A.2.2 (inb_of S hj) (H.at (inb_of S hj) hv) hg hs hd t k
theorem own_ldB (X : Stand p l e R s m args below meth c T locs cells slots) (hx : p.tables.exec = Jvm.exec) (hZ : Z.Warmed39 s.vm) (eT : T.heap = h) (F : Arv Z h a k .byte z vs dv) (hj : ¬ j < 0 ∧ j < z) (hv : vs.getD j.toNatClampNeg dv = v) (hg : g.method = m) (hs : g.stack = .int j :: .ref a :: rest) (hd : decode c.code g.pc = .ok (.baload, 1)) :
    ∀ target, Steps p.tables e below (T.setTop { g with pc := g.pc + 1, stack := v :: rest }) target → Steps p.tables e below (T.setTop g) target := by
  obtain ⟨cl, A, q, S, N, H, G⟩ := F
  exact fun t k => X.baloadBytes hx (by rw [eT]; exact A.1) (State.isArrayOf_alike hZ.alike A.2.1) A.2.2 (inb_of S hj) (H.at (inb_of S hj) hv) hg hs hd t k
theorem own_alen (X : Stand p l e R s m args below meth c T locs cells slots) (hx : p.tables.exec = Jvm.exec) (hZ : Z.Warmed39 s.vm) (eT : T.heap = h) (F : Arv Z h a k ty z vs dv) (hg : g.method = m) (hs : g.stack = .ref a :: rest) (hd : decode c.code g.pc = .ok (.arraylength, 1)) :
    ∀ target, Steps p.tables e below (T.setTop { g with pc := g.pc + 1, stack := .int z :: rest }) target → Steps p.tables e below (T.setTop g) target := by
  obtain ⟨cl, A, q, S, N, H, G⟩ := F
  intro t k
  refine X.arraylength hx (by rw [eT]; exact A.1) (State.isArrayOf_alike hZ.alike A.2.1) hg hs hd t ?_
  rw [len_of S N]; exact k
theorem own_lt_ne {x y : Addr} (q : x < h.size) (g : y = h.size) : x ≠ y := Nat.ne_of_lt (g ▸ q)
theorem own_lt_ne' {x y : Addr} (q : x < h.size) (g : h.size ≤ y) : x ≠ y := Nat.ne_of_lt (Nat.lt_of_lt_of_le q g)
theorem own_callVU (X : Stand p l e R s m args below meth c T locs cells slots) (hx : p.tables.exec = Jvm.exec) (hZ : Z.Warmed39 s.vm)
    {own C owner : String} {index : Nat} {y z : MethodName} {bytes : ByteArray} {maxL : Nat} {ret : Option FieldType} {rm : Room} {as' : Array Value} {Q : Option Value → Heap → List Loc → Prop} {b : Addr}
    (hown : s.vm.findClass own = some m.cls) (w1 : (Jvm.Cond.methodLink own index y).before a0 Z = true) (w2 : (Jvm.Cond.sameMethod y.cls owner y.name y.desc).before a0 Z = true) (w7 : (Jvm.Cond.declares ⟨owner, y.name, y.desc⟩).before a0 Z = true) (ho : owner ≠ "java/lang/invoke/MethodHandle" ∧ owner ≠ "java/lang/invoke/VarHandle") (w4 : (Jvm.Cond.selects C y z).before a0 Z = true) (w5 : (Jvm.Cond.instanceMethod z).before a0 Z = true) (w3 : (Jvm.Cond.initialized z.cls).before a0 Z = true) (w6 : (Jvm.Cond.code z bytes maxL ret).before a0 Z = true)
    (eT : T.heap = h) (E : Exa Z h b C) (hM : Con l Z h z bytes maxL ret [] rm as' Q)
    (W : Nat) (hf : rm.frames + 1 ≤ R.frames) (hl : W + (maxL + 11) + rm.locals ≤ R.locals) (hc : cells + rm.cells ≤ R.cells) (hs : slots + rm.slots ≤ R.slots)
    {g : JFrame} (hg : g.method = m) (hsize : g.locals.size = c.maxLocals) (argsL rest : List Value) (has : (.ref b :: argsL).toArray = as') (hlen : ∀ sig, parseMethodDescriptor y.desc = some sig → argsL.length = sig.parameters.length) (hstack : g.stack = argsL.reverse ++ .ref b :: rest) (hW : 2 * g.monitorRoom + (rest.map fun v => v.category).sum ≤ W)
    (hd : decode c.code g.pc = .ok (.invokevirtual index, 3)) :
    ∃ (v : Option Value) (T' : State) (L : List Loc), Stand p l e R s m args below meth c T' (locs ++ L) (cells + rm.cells) (slots + rm.slots) ∧ Q v T'.heap L ∧ ∀ t, Steps p.tables e below (T'.setTop { g with pc := g.pc + 3, stack := v.toList ++ rest }) t → Steps p.tables e below (T.setTop g) t := by
  obtain ⟨cq, kq, qa, qb, qc⟩ := isOf hZ eT E
  obtain ⟨v, _, ⟨T', L', k', n'⟩, -, X', ⟨L, hQ, l1, l2, l3⟩, st⟩ := X.virtualBackUp hx hown (mvT hZ w1) (mvT hZ w2) (mvT hZ w7) ho (mvT hZ w4) (mvT hZ w5) (backOf (W := W) hM hZ w6 w3 hf hl) qa qc hg hsize (Steps.refl _) hlen hstack hW hd (fun _ _ => ⟨has, eT, hc, hs⟩)
  dsimp only [Pt.U, Pt.locs, Pt.cells, Pt.slots] at X' l1 l2 l3 st hQ
  subst l1 l2 l3
  exact ⟨v, T', L, X', hQ, fun t k => st.trans k⟩
theorem own_callF (X : Stand p l e R s m args below meth c T locs cells slots) (hx : p.tables.exec = Jvm.exec) (hZ : Z.Warmed39 s.vm)
    {own C : String} {index count : Nat} {y z : MethodName} {bytes : ByteArray} {maxL : Nat} {ret : Option FieldType} {rm : Room} {as' : Array Value} {Q : Option Value → Heap → List Loc → Prop} {b : Addr}
    (hown : s.vm.findClass own = some m.cls) (w1 : (Jvm.Cond.methodLink own index y).before a0 Z = true) (w2 : (Jvm.Cond.declares y).before a0 Z = true) (w7 : (Jvm.Cond.interfaceMethod y.cls y.cls y.name y.desc).before a0 Z = true) (w4 : (Jvm.Cond.selects C y z).before a0 Z = true) (w5 : (Jvm.Cond.instanceMethod z).before a0 Z = true) (w8 : (Jvm.Cond.publicMethod z).before a0 Z = true) (w9 : (Jvm.Cond.unhidden C y.name y.desc).before a0 Z = true) (w10 : (Jvm.Cond.castable C y.cls).before a0 Z = true) (w3 : (Jvm.Cond.initialized z.cls).before a0 Z = true) (w6 : (Jvm.Cond.code z bytes maxL ret).before a0 Z = true)
    (hy : y.cls ≠ "java/lang/invoke/MethodHandle" ∧ y.cls ≠ "java/lang/invoke/VarHandle") (eT : T.heap = h) (E : Exa Z h b C) (hM : Con l Z h z bytes maxL ret [] rm as' Q)
    (W : Nat) (hf : rm.frames + 1 ≤ R.frames) (hl : W + (maxL + 11) + rm.locals ≤ R.locals) (hc : cells + rm.cells ≤ R.cells) (hs : slots + rm.slots ≤ R.slots)
    {g : JFrame} (hg : g.method = m) (hsize : g.locals.size = c.maxLocals) (argsL rest : List Value) (has : (.ref b :: argsL).toArray = as') (hlen : ∀ sig, parseMethodDescriptor y.desc = some sig → argsL.length = sig.parameters.length) (hstack : g.stack = argsL.reverse ++ .ref b :: rest) (hW : 2 * g.monitorRoom + (rest.map fun v => v.category).sum ≤ W)
    (hd : decode c.code g.pc = .ok (.invokeinterface index count, 5)) :
    ∃ (v : Option Value) (T' : State) (L : List Loc), Stand p l e R s m args below meth c T' (locs ++ L) (cells + rm.cells) (slots + rm.slots) ∧ Q v T'.heap L ∧ ∀ t, Steps p.tables e below (T'.setTop { g with pc := g.pc + 5, stack := v.toList ++ rest }) t → Steps p.tables e below (T.setTop g) t := by
  obtain ⟨cq, kq, qa, qb, qc⟩ := isOf hZ eT E
  obtain ⟨v, _, ⟨T', L', k', n'⟩, -, X', ⟨L, hQ, l1, l2, l3⟩, st⟩ := X.interfaceBack hx hown (mvT hZ w1) (mvT hZ w2) (mvT hZ w7 (by simp [Cond.onTables, Cond.keepsFace, Cond.keeps, Cond.steady, Cond.faceAtom, hy.1, hy.2])) (mvT hZ w4) (mvT hZ w5) (mvT hZ w8) (mvT hZ w9) (mvT hZ w10) hy (backOf (W := W) hM hZ w6 w3 hf hl) qa qb qc hg hsize (Steps.refl _) hlen hstack hW hd (fun _ _ => ⟨has, eT, hc, hs⟩)
  dsimp only [Pt.U, Pt.locs, Pt.cells, Pt.slots] at X' l1 l2 l3 st hQ
  subst l1 l2 l3
  exact ⟨v, T', L, X', hQ, fun t k => st.trans k⟩
theorem own_callP (X : Stand p l e R s m args below meth c T locs cells slots) (hx : p.tables.exec = Jvm.exec) (hZ : Z.Warmed39 s.vm)
    {own : String} {index n : Nat} {y : MethodName} {bytes : ByteArray} {maxL : Nat} {ret : Option FieldType} {rm : Room} {as' : Array Value} {Q : Option Value → Heap → List Loc → Prop} {b : Addr} {C : String}
    (hown : s.vm.findClass own = some m.cls) (w1 : (Jvm.Cond.methodLink own index y).before a0 Z = true) (w5 : (Jvm.Cond.instanceMethod y).before a0 Z = true) (w2 : (Jvm.Cond.privateMethod y).before a0 Z = true) (wi : (Jvm.Cond.instantiable y.cls n).before a0 Z = true) (w3 : (Jvm.Cond.initialized y.cls).before a0 Z = true) (w6 : (Jvm.Cond.code y bytes maxL ret).before a0 Z = true)
    (hy : y.cls ≠ "java/lang/invoke/MethodHandle" ∧ y.cls ≠ "java/lang/invoke/VarHandle") (eT : T.heap = h) (E : Exa Z h b C) (hM : Con l Z h y bytes maxL ret [] rm as' Q)
    (W : Nat) (hf : rm.frames + 1 ≤ R.frames) (hl : W + (maxL + 11) + rm.locals ≤ R.locals) (hc : cells + rm.cells ≤ R.cells) (hs : slots + rm.slots ≤ R.slots)
    {g : JFrame} (hg : g.method = m) (hsize : g.locals.size = c.maxLocals) (argsL rest : List Value) (has : (.ref b :: argsL).toArray = as') (hlen : ∀ sig, parseMethodDescriptor y.desc = some sig → argsL.length = sig.parameters.length) (hstack : g.stack = argsL.reverse ++ .ref b :: rest) (hW : 2 * g.monitorRoom + (rest.map fun v => v.category).sum ≤ W)
    (hd : decode c.code g.pc = .ok (.invokevirtual index, 3)) :
    ∃ (v : Option Value) (T' : State) (L : List Loc), Stand p l e R s m args below meth c T' (locs ++ L) (cells + rm.cells) (slots + rm.slots) ∧ Q v T'.heap L ∧ ∀ t, Steps p.tables e below (T'.setTop { g with pc := g.pc + 3, stack := v.toList ++ rest }) t → Steps p.tables e below (T.setTop g) t := by
  obtain ⟨cq, q1, q2⟩ := E.cell
  have hpriv := Cond.privateMethod_at (mvP hZ w2 (args := args))
  have wi' : (Jvm.Cond.instantiable y.cls n).before args s = true := mvT hZ wi
  obtain ⟨ci, ki, i1, i2, -, i4, -⟩ := Cond.instantiable_spec wi'
  have hni : ki.isInterface = false := by cases hh : ki.isInterface <;> simp [hh] at i4 ⊢
  obtain ⟨v, _, ⟨T', L', k', n'⟩, -, X', ⟨L, hQ, l1, l2, l3⟩, st⟩ := X.privateBack hx hown (mvT hZ w1) (mvT hZ w5) (selects_self_of_private i1 i2 hni hpriv (mvT hZ w5) hy) hpriv (mvT hZ w6) hy (backOf (W := W) hM hZ w6 w3 hf hl) hg hsize (Steps.refl _) (by rw [eT]; exact q1) q2 hlen hstack hW hd (fun _ _ => ⟨has, eT, hc, hs⟩)
  dsimp only [Pt.U, Pt.locs, Pt.cells, Pt.slots] at X' l1 l2 l3 st hQ
  subst l1 l2 l3
  exact ⟨v, T', L, X', hQ, fun t k => st.trans k⟩
theorem own_nosub {C K O : String} {n : Nat} (w : (Jvm.Cond.superclass C O).before a0 Z = true) (wo : (Jvm.Cond.noSuperclass O).before a0 Z = true) (wk : (Jvm.Cond.instantiable K n).before a0 Z = true) (h1 : C ≠ K) (h2 : O ≠ K) :
    ∃ c t, Z.vm.findClass C = some c ∧ Z.vm.findClass K = some t ∧ Z.vm.assignable c t = false := by
  obtain ⟨c, f0⟩ := found_sup w
  obtain ⟨t, kt, g1, g2, g3, g4, -⟩ := Cond.instantiable_spec wk
  have g5 : kt.isInterface = false := by cases hh : kt.isInterface <;> simp [hh] at g4 ⊢
  obtain ⟨q, k, kp, f1, f2, f3, f4, f5, -, f7⟩ := Cond.superclass_spec f0 w
  obtain ⟨co, ko, o1, o2, o3, -, -⟩ := Cond.noSuperclass_spec wo
  cases o1.symm.trans f1
  have ne1 := ids_ne f0 g1 h1
  have ne2 := ids_ne o1 g1 h2
  have sub : ∀ fuel, Z.vm.isSubclassAux fuel c t = false := by
    intro fuel
    cases fuel with
    | zero => rfl
    | succ f =>
      have r : Z.vm.isSubclassAux f q t = false := by
        cases f with
        | zero => rfl
        | succ f' => simp [Vm.isSubclassAux, ne2, o2, o3]
      simp [Vm.isSubclassAux, ne1, f2, f4, r]
  refine ⟨c, t, f0, g1, ?_⟩
  show Z.vm.assignableAux (255 + 1) c t = false
  simp [Vm.assignableAux, ne1, f2, g2, f5, g3, g5, Vm.isSubclass, sub]
theorem own_arv0 {t : Term} {w : Addr} {cl : Cell} (hf : Fit s) (ev : t.eval args s none [] s = some (.ref w)) (A : Arr s s.heap w cl ty) (hq : (Jvm.Cond.eq (.length t) (.int 0)).value args s none s [] = some true) : Arv s s.heap w cl.cls ty 0 [] dv := by
  have ha : s.arrayAt? w = some cl := Arr.fin (Vm.Alike.refl _) A
  obtain ⟨u, v, e1, e2, k1, k2⟩ := cmp_v (Or.inl hq)
  obtain rfl : v = .int 0 := Option.some.inj (e2.symm.trans (Term.int_eval 0))
  obtain ⟨z, rfl⟩ := k2
  obtain rfl : z = 0 := gotT (Jvm.Cond.eq_ints e1 (Term.int_eval 0)) hq
  by_cases hl : cl.slots.size < 2 ^ 31
  · have q := (len_f ev ha hl).symm.trans e1
    exact Arv.start hf A hl (Value.int.inj (Option.some.inj q)) (by decide) rfl trivial
  · exfalso
    simp [Term.eval, ev, ha, hl] at e1
end OwnHeap
section OwnRef
variable {p : Program} {l : Launch} {e : Env} {R : Room} {s : State} {m : MethodId} {args : Array Value} {below : List Frame} {meth : Method} {c : Code} {T : State} {locs : List Loc} {cells slots : Nat} {Z : State} {a0 : Array Value} {h h' : Heap}
/-- getfield by an entry that has been resolved -/
theorem own_getFR (X : Stand p l e R s m args below meth c T locs cells slots) (hx : p.tables.exec = Jvm.exec) (hZ : Z.Warmed39 s.vm) {own O n d : String} {index : Nat} (hown : s.vm.findClass own = some m.cls) (w : (Jvm.Cond.fieldRef own index O n d).before a0 Z = true)
    (eT : T.heap = h) {a : Addr} {v : Value} (F : Fld Z h a O n d v) {g : JFrame} (hg : g.method = m) {rest : List Value} (hs : g.stack = .ref a :: rest) (hd : decode c.code g.pc = .ok (.getfield index, 3)) :
    ∀ target, Steps p.tables e below (T.setTop { g with pc := g.pc + 3, stack := v :: rest }) target → Steps p.tables e below (T.setTop g) target := by
  have hWT : Z.Warmed39 T.vm := wtrans hZ X.warmed
  have w' := Cond.fieldRef_warmed39 hWT w
  have ho : (Z.setVm T.vm).vm.findClass own = some m.cls := by show T.vm.findClass own = _; rw [X.warmed.alike.findClass]; exact hown
  obtain ⟨c', k', i', f', hf', hr⟩ := Cond.fieldRef_spec ho w'
  obtain ⟨cell, cf, k, i, f, h1, h2, h3, h4, h5, h6, h7⟩ := F
  obtain ⟨k'', hf'', -⟩ := State.fieldFound?_setVm hWT.alike h2
  cases hf'.symm.trans hf''
  intro target kt
  subst hg
  jvm_step X.here [hx, hd, getfield.wp_ready (e := e) (s := T) (f := g) X.here.top hr h3 hs (by rw [eT]; exact h1) h4 h7]
  exact kt
/-- a constructor's call by an entry that has been resolved -/
theorem own_callIR (X : Stand p l e R s m args below meth c T locs cells slots) (hx : p.tables.exec = Jvm.exec) (hZ : Z.Warmed39 s.vm)
    {own : String} {index : Nat} {y : MethodName} {bytes : ByteArray} {maxL : Nat} {rm : Room} {as' : Array Value} {Q : Option Value → Heap → List Loc → Prop} {b : Addr} (hy1 : y.name = "<init>")
    (hown : s.vm.findClass own = some m.cls) (w1 : (Jvm.Cond.methodRef own index y).before a0 Z = true) (w5 : (Jvm.Cond.instanceMethod y).before a0 Z = true) (w3 : (Jvm.Cond.initialized y.cls).before a0 Z = true) (w6 : (Jvm.Cond.code y bytes maxL none).before a0 Z = true)
    (hy : y.cls ≠ "java/lang/invoke/MethodHandle" ∧ y.cls ≠ "java/lang/invoke/VarHandle") (eT : T.heap = h) (hM : Con l Z h y bytes maxL none [] rm as' Q)
    (W : Nat) (hf : rm.frames + 1 ≤ R.frames) (hl : W + (maxL + 11) + rm.locals ≤ R.locals) (hc : cells + rm.cells ≤ R.cells) (hs : slots + rm.slots ≤ R.slots)
    {g : JFrame} (hg : g.method = m) (hsize : g.locals.size = c.maxLocals) (argsL rest : List Value) (has : (.ref b :: argsL).toArray = as') (hlen : ∀ sig, parseMethodDescriptor y.desc = some sig → argsL.length = sig.parameters.length) (hstack : g.stack = argsL.reverse ++ .ref b :: rest) (hW : 2 * g.monitorRoom + (rest.map fun v => v.category).sum ≤ W)
    (hd : decode c.code g.pc = .ok (.invokespecial index, 3)) :
    ∃ (v : Option Value) (T' : State) (L : List Loc), Stand p l e R s m args below meth c T' (locs ++ L) (cells + rm.cells) (slots + rm.slots) ∧ Q v T'.heap L ∧ ∀ t, Steps p.tables e below (T'.setTop { g with pc := g.pc + 3, stack := v.toList ++ rest }) t → Steps p.tables e below (T.setTop g) t := by
  have hWT : Z.Warmed39 T.vm := wtrans hZ X.warmed
  have al := X.warmed.alike
  obtain ⟨obj, methO, hnO, hmO, hstO, habO⟩ := Cond.instanceMethod_spec (mvT (args := args) hZ w5)
  obtain ⟨methO', cO, hmO', hcO, hbO, hlO, -, hlockO, -, hsigO⟩ := Cond.code_spec hnO (mvT (args := args) hZ w6)
  cases hmO.symm.trans hmO'
  obtain ⟨objZ, methZ, hnZ, -, -, -⟩ := Cond.instanceMethod_spec w5
  have w' := Cond.methodRef_warmed39 hWT hnZ hy w1
  have ho : (Z.setVm T.vm).vm.findClass own = some m.cls := by show T.vm.findClass own = _; rw [al.findClass]; exact hown
  obtain ⟨mr, cr, hmf, hready, hfind, hnames⟩ := Cond.methodRef_named e ho w'
  obtain ⟨kO, hkO, hnameO⟩ := className_of_methodNamed hnO
  obtain ⟨hnameMO, hdescO⟩ := name_of_methodNamed hnO hmO
  have hnT : (Z.setVm T.vm).methodNamed? y = some obj := by
    have q := X.named hnO
    exact q
  have hmr : mr = obj := by
    have q := State.methodFound?_of_named hnT hy
    exact Option.some.inj (hmf.symm.trans q)
  subst hmr
  have hfc : s.vm.findClass y.cls = some mr.cls := findClass_of_methodNamed hnO
  have hcr : cr = mr.cls := by
    have q : T.vm.findClass y.cls = some mr.cls := by rw [al.findClass]; exact hfc
    exact Option.some.inj (hfind.symm.trans q)
  subst hcr
  have hmT : T.vm.method? mr = some methO := by rw [al.method?]; exact hmO
  obtain ⟨kT, hkT, -⟩ := al.2.2 _ _ hkO
  have hfound : lookupSpecial T.vm mr.cls "<init>" methO.desc = .method mr := by
    rw [al.lookupSpecial, hdescO, ← hy1]; exact lookupSpecial_of_named hnO hmO hstO
  have hK := backOf (R := R) (W := W) (len := 3) (p := p) (e := e) (below := below) (args := args) hM hZ w6 w3 hf hl
  obtain ⟨v, ⟨T', L', k', n'⟩, X', ⟨L, hQ, l1, l2, l3⟩, hsteps⟩ := hK m meth c ⟨T, locs, cells, slots⟩ { g with stack := rest } (.invokespecial index) mr (.ref b :: argsL).toArray X hg hsize hd hW (X.named hnO) ⟨has, eT, hc, hs⟩
  dsimp only [Pt.U, Pt.locs, Pt.cells, Pt.slots] at X' l1 l2 l3 hsteps hQ
  subst l1 l2 l3
  refine ⟨v, T', L, X', hQ, fun t k => ?_⟩
  subst hg
  jvm_step X.here [hx, hd, invokespecial.wp_init (e := e) (s := T) (k := kT) (meth := methO) (m := mr) (a := b) (args := argsL) (rest := rest) (f := g) X.here.top hnames hready hkT hmT (by rw [hnameMO]; exact hy1) hstO habO hfound (hlen _ hsigO) hstack]
  intro acts
  rw [doInvoke_state]
  exact hsteps.trans k
end OwnRef
/-- an array of longs of a length, whatever it holds -/
def AL (Z : State) (h : Heap) (a : Addr) (z : Int32) : Prop := (∃ k vs, Arv Z h a k .long z vs (.long 0)) ∧ Exa Z h a "[J"
section OwnAL
variable {p : Program} {l : Launch} {e : Env} {R : Room} {s : State} {m : MethodId} {args : Array Value} {below : List Frame} {meth : Method} {c : Code} {T : State} {locs : List Loc} {cells slots : Nat} {Z : State} {h h' : Heap} {a b : Addr} {z j : Int32} {v : Value} {g : JFrame} {rest : List Value} {sl : Nat} {ws : List Addr}
theorem own_ltN {j z : Int32} (hj : ¬ j < 0 ∧ j < z) : j.toNatClampNeg < z.toNatClampNeg := by
  have e1 := nat_of hj.1
  have c0 : (0 : Int32).toInt = 0 := by decide
  have h2 := hj.2
  have h1 := hj.1
  rw [Int32.lt_iff_toInt_lt] at h2
  rw [Int32.lt_iff_toInt_lt, c0] at h1
  have hz : ¬ z < 0 := by rw [Int32.lt_iff_toInt_lt, c0]; omega
  have e2 := nat_of hz
  omega
theorem AL.lt (F : AL Z h a z) : a < h.size := F.2.lt
theorem AL.ext (F : AL Z h a z) (E : Ext h h') : AL Z h' a z := by
  obtain ⟨⟨k, vs, V⟩, Q⟩ := F
  exact ⟨⟨k, vs, V.ext E⟩, Q.ext E⟩
theorem AL.other (F : AL Z h b z) (W : Wr h h' a sl v) (q : b ≠ a) : AL Z h' b z := by
  obtain ⟨⟨k, vs, V⟩, Q⟩ := F
  exact ⟨⟨k, vs, V.other W q⟩, Q.wr W⟩
theorem AL.keep (F : AL Z h a z) (K : Keep h h' ws) (q : a ∉ ws) : AL Z h' a z := by
  obtain ⟨⟨k, vs, V⟩, Q⟩ := F
  exact ⟨⟨k, vs, V.keep K q⟩, Q.keep K⟩
theorem own_alenA (X : Stand p l e R s m args below meth c T locs cells slots) (hx : p.tables.exec = Jvm.exec) (hZ : Z.Warmed39 s.vm) (eT : T.heap = h) (F : AL Z h a z) (hg : g.method = m) (hs : g.stack = .ref a :: rest) (hd : decode c.code g.pc = .ok (.arraylength, 1)) :
    ∀ target, Steps p.tables e below (T.setTop { g with pc := g.pc + 1, stack := .int z :: rest }) target → Steps p.tables e below (T.setTop g) target := by
  obtain ⟨⟨k, vs, V⟩, Q⟩ := F
  exact own_alen X hx hZ eT V hg hs hd
theorem own_stA (X : Stand p l e R s m args below meth c T locs cells slots) (hx : p.tables.exec = Jvm.exec) (hZ : Z.Warmed39 s.vm) (eT : T.heap = h) (F : AL Z h a z) {x : Int64} (hj : ¬ j < 0 ∧ j < z) (hg : g.method = m) (hs : g.stack = .long x :: .int j :: .ref a :: rest) (hd : decode c.code g.pc = .ok (.lastore, 1)) :
    ∃ T' h', Stand p l e R s m args below meth c T' (locs ++ [⟨a, j.toNatClampNeg⟩]) cells slots ∧ T'.heap = h' ∧ Wr h h' a j.toNatClampNeg (.long x) ∧ AL Z h' a z ∧ ∀ target, Steps p.tables e below (T'.setTop { g with pc := g.pc + 1, stack := rest }) target → Steps p.tables e below (T.setTop g) target := by
  obtain ⟨⟨k, vs, V⟩, Q⟩ := F
  obtain ⟨T', h', X', e', W, V', st⟩ := own_stJ X hx hZ eT (V.pad (pad_rep vs (.long 0) (j.toNatClampNeg + 1))) hj _ rfl (by simp; omega) hg hs hd
  exact ⟨T', h', X', e', W, ⟨⟨_, _, V'⟩, Q.wr W⟩, st⟩
theorem own_ldA (X : Stand p l e R s m args below meth c T locs cells slots) (hx : p.tables.exec = Jvm.exec) (hZ : Z.Warmed39 s.vm) (eT : T.heap = h) (F : AL Z h a z) (hj : ¬ j < 0 ∧ j < z) (hg : g.method = m) (hs : g.stack = .int j :: .ref a :: rest) (hd : decode c.code g.pc = .ok (.laload, 1)) :
    ∃ x : Int64, ∀ target, Steps p.tables e below (T.setTop { g with pc := g.pc + 1, stack := .long x :: rest }) target → Steps p.tables e below (T.setTop g) target := by
  obtain ⟨⟨k, vs, V⟩, Q⟩ := F
  obtain ⟨cl, A, q, S, N, H, G⟩ := id V
  have hin := inb_of S hj
  have f := G j.toNatClampNeg (by rw [S]; exact own_ltN hj)
  cases hv : vs.getD j.toNatClampNeg (.long 0) with
  | long x => exact ⟨x, own_ldJ X hx hZ eT V hj hv hg hs hd⟩
  | _ => rw [hv] at f; exact absurd f (by simp [fits])
end OwnAL
theorem own_rem {x : Int32} {n : Int32} (hn : 0 < n.toInt) : 0 ≤ ((x &&& 2147483647) % n).toInt ∧ ((x &&& 2147483647) % n).toInt < n.toInt := by
  have e1 : (x &&& 2147483647).toInt = x.toInt % 2 ^ 31 := Jvm.Kit.i32_mask x 2147483647 (k := 31) (by decide) (by decide)
  have e2 := Jvm.Kit.i32_rem_nonneg (x := (x &&& 2147483647)) (y := n) (by omega)
  rw [e2]
  exact ⟨Int.emod_nonneg _ (by omega), Int.emod_lt_of_pos _ hn⟩
theorem own_i32 {x : Int32} {k : Int} (h : x.toInt = k) : x = Int32.ofInt k := by
  rw [← h, Int32.ofInt_toInt]
theorem own_lremE (x y : Int64) : x - (x / y) * y = x % y := Int64.toInt_inj.mp ((Jvm.Kit.i64_rem x y).trans (Int64.toInt_mod x y).symm)
theorem own_lrem {p : Program} {l : Launch} {e : Env} {R : Room} {s : State} {m : MethodId} {args : Array Value} {below : List Frame} {meth : Method} {c : Code} {T : State} {locs : List Loc} {cells slots : Nat} {g : JFrame} {target : State} (X : Stand p l e R s m args below meth c T locs cells slots) (hx : p.tables.exec = Jvm.exec) (hg : g.method = m) {x y : Int64} {rest : List Value} (hd : decode c.code g.pc = .ok (.lrem, 1)) (hs : g.stack = .long y :: .long x :: rest) (hy : y ≠ 0)
    (hr : Steps p.tables e below (T.setTop { g with pc := g.pc + 1, stack := .long (x % y) :: rest }) target) : Steps p.tables e below (T.setTop g) target :=
  XT.lrem X.here hx hg hd hs hy (by rw [lrem_mod]; exact hr)
abbrev sU : Slot := .unset
abbrev sS : Slot := .second
abbrev sI (x : Int32) : Slot := .val (.int x)
abbrev sJ (x : Int64) : Slot := .val (.long x)
abbrev sR (x : Addr) : Slot := .val (.ref x)
/-- what stands at the start: the statics, their classes and fields -/
def SF (Z : State) (w_NONE : Addr) (k_NONE : ClassId) : Prop := Sta Z Z.heap "com/example/palimpsest/palimpsest/CommitTimes" "NONE" "[J" (.ref w_NONE) ∧ Exa Z Z.heap w_NONE "[J" ∧ Arv Z Z.heap w_NONE k_NONE .long (0 : Int32) [] (.long (0 : Int64))
def maxF (x y : Int32) : Int32 := if x < y then y else x
def minF (x y : Int32) : Int32 := if y < x then y else x
def maxJ (x y : Int64) : Int64 := if x < y then y else x
def roomF (x : Int32) : Int32 := if x = 0 then 0 else if x = 1 then 1 else if x = 2 then 2 else 4
def curF (n1 n2 t3 : Int32) : Int32 := if t3 = 0 then (if 0 < n2 then n2 else if 0 < n1 then n1 else 0) else 1
def ocF (n1 n2 t3 : Int32) : Int32 := if 0 < n1 then (if 0 < n2 then (if t3 = 0 then n1 else n1 + n2) else (if t3 = 0 then 0 else n1)) else (if 0 < n2 then (if t3 = 0 then 0 else n2) else 0)
def olF (n1 n2 t3 : Int32) : Int32 := if 0 < n1 then (if 0 < n2 then (if t3 = 0 then n1 else maxF (n1 + n2) (2 * n1)) else (if t3 = 0 then 0 else n1)) else (if 0 < n2 then (if t3 = 0 then 0 else n2) else 0)
def expF (n1 n2 t3 tr : Int32) : Int64 := if tr = 0 then 8 * (roomF (curF n1 n2 t3)).toInt64 + 16 * (olF n1 n2 t3).toInt64 else 8 * (curF n1 n2 t3).toInt64 + 16 * (ocF n1 n2 t3).toInt64
theorem own_toNat {x : Int32} (h : ¬ x < 0) : (x.toNatClampNeg : Int) = x.toInt := (nat_of h).symm
theorem own_pos {x : Int32} (h : 0 ≤ x.toInt) : ¬ x < 0 := by
  have c0 : (0 : Int32).toInt = 0 := by decide
  rw [Int32.lt_iff_toInt_lt, c0]; omega
theorem own_bd {x z : Int32} (h1 : 0 ≤ x.toInt) (h2 : x.toInt < z.toInt) : ¬ x < 0 ∧ x < z := ⟨own_pos h1, by rw [Int32.lt_iff_toInt_lt]; exact h2⟩
theorem own_cap {n : Int32} {k : Nat} (h0 : 0 ≤ n.toInt) (h : n.toInt ≤ k) : n.toNatClampNeg ≤ k := by
  have := own_toNat (own_pos h0); omega
theorem own_mn {z n : Int32} (hz : 0 ≤ z.toInt) (hn : 0 ≤ n.toInt) : 0 ≤ (minF z n).toInt ∧ (minF z n).toInt ≤ z.toInt ∧ (minF z n).toInt ≤ n.toInt := by
  unfold minF
  split
  · rename_i h; rw [Int32.lt_iff_toInt_lt] at h; omega
  · rename_i h; rw [Int32.lt_iff_toInt_lt] at h; omega
theorem own_mxc {x y : Int32} : (maxF x y).toInt = x.toInt ∧ y.toInt ≤ x.toInt ∨ (maxF x y).toInt = y.toInt ∧ x.toInt ≤ y.toInt := by
  unfold maxF
  split
  · rename_i h; rw [Int32.lt_iff_toInt_lt] at h; omega
  · rename_i h; rw [Int32.lt_iff_toInt_lt] at h; omega
theorem own_leN {x y : Int32} (h0 : 0 ≤ x.toInt) (h : x.toInt ≤ y.toInt) : (0 : Int32).toNatClampNeg + x.toNatClampNeg ≤ y.toNatClampNeg := by
  have c0 : (0 : Int32).toNatClampNeg = 0 := by decide
  have e1 := own_toNat (own_pos h0)
  have e2 := own_toNat (own_pos (x := y) (by omega))
  omega
theorem own_leR {x : Int32} {k : Nat} {v : Value} (h0 : 0 ≤ x.toInt) (h : x.toInt ≤ k) : (0 : Int32).toNatClampNeg + x.toNatClampNeg ≤ (List.replicate k v).length := by
  have c0 : (0 : Int32).toNatClampNeg = 0 := by decide
  have e1 := own_toNat (own_pos h0)
  rw [List.length_replicate]; omega
theorem own_two {x : Int32} (h0 : 0 ≤ x.toInt) (h : x.toInt ≤ 6) : ((2 : Int32) * x).toInt = 2 * x.toInt := by
  have c2 : (2 : Int32).toInt = 2 := by decide
  rw [Jvm.Kit.i32_mul (by rw [c2]; omega) (by rw [c2]; omega), c2]
theorem own_plus {x y : Int32} (h0 : 0 ≤ x.toInt) (h : x.toInt ≤ 6) (h1 : 0 ≤ y.toInt) (h2 : y.toInt ≤ 6) : (x + y).toInt = x.toInt + y.toInt := Jvm.Kit.i32_add (by omega) (by omega)
theorem own_rt (x : Int32) : x.toInt64.toInt32 = x := Int32.toInt_inj.mp (by rw [Jvm.Kit.i32_of_i64, Jvm.Kit.i64_of_i32] <;> rw [Jvm.Kit.i64_of_i32] <;> first | exact x.le_toInt | exact x.toInt_lt)
theorem own_o0 (x : Int64) : x - x = 0 := Int64.sub_self x
theorem own_o1 (x y : Int64) : (x + y) - x = y := by rw [Int64.add_comm, Int64.add_sub_cancel]
theorem own_oa (x : Int64) : (x + 1) + 1 = x + 2 := by rw [Int64.add_assoc]; rfl
theorem own_nw1 (x : Int64) : (x + 1) - 1 = x := Int64.add_sub_cancel x 1
theorem own_nw2 (x : Int64) : (x + 2) - 1 = x + 1 := by rw [show (2 : Int64) = 1 + 1 from rfl, ← Int64.add_assoc, Int64.add_sub_cancel]
theorem own_nw3 (x : Int64) : (x + 3) - 1 = x + 2 := by rw [show (3 : Int64) = 2 + 1 from rfl, ← Int64.add_assoc, Int64.add_sub_cancel]
theorem own_mxj {x : Int32} (h : 0 ≤ x.toInt) : maxJ x.toInt64 0 = x.toInt64 := by
  have c0 : (0 : Int64).toInt = 0 := by decide
  unfold maxJ
  rw [if_neg (by rw [Int64.lt_iff_toInt_lt, Jvm.Kit.i64_of_i32, c0]; omega)]
theorem own_c4 (x : Int32) : x &&& 3 = 0 ∨ x &&& 3 = 1 ∨ x &&& 3 = 2 ∨ x &&& 3 = 3 := by
  have h := Jvm.Kit.i32_mask x 3 (k := 2) (by decide) (by decide)
  generalize x &&& 3 = k at *
  have q : k.toInt = 0 ∨ k.toInt = 1 ∨ k.toInt = 2 ∨ k.toInt = 3 := by omega
  rcases q with q | q | q | q
  · exact Or.inl (own_i32 q)
  · exact Or.inr (Or.inl (own_i32 q))
  · exact Or.inr (Or.inr (Or.inl (own_i32 q)))
  · exact Or.inr (Or.inr (Or.inr (own_i32 q)))
theorem own_m60 (x : Int64) : 0 ≤ (x &&& 1152921504606846975).toInt := by
  rw [Jvm.Kit.i64_mask x 1152921504606846975 (k := 60) (by decide) (by decide)]
  exact Int.emod_nonneg _ (by decide)
theorem own_gap (x g : Int64) (hg : 0 ≤ g.toInt) : ¬ ((x + 2) + g = x + 1) := by
  intro q
  rw [show (2 : Int64) = 1 + 1 from rfl, ← Int64.add_assoc, Int64.add_assoc (x + 1)] at q
  have e : 1 + g = 0 := by
    have := congrArg (fun z => z - (x + 1)) q
    simp only [own_o1, own_o0] at this
    exact this
  have e2 : g = -1 := by
    have := congrArg (fun z => z - 1) e
    simp only [own_o1] at this
    exact this
  rw [e2] at hg
  exact absurd hg (by decide)
theorem d11_0 : decode jdk_29_method_65_code 0 = .ok (.iload_n 0, 1) := by decide +kernel
theorem d11_1 : decode jdk_29_method_65_code 1 = .ok (.iload_n 1, 1) := by decide +kernel
theorem d11_2 : decode jdk_29_method_65_code 2 = .ok (.if_icmp .lt 7, 3) := by decide +kernel
theorem d11_5 : decode jdk_29_method_65_code 5 = .ok (.iload_n 0, 1) := by decide +kernel
theorem d11_6 : decode jdk_29_method_65_code 6 = .ok (.goto 4, 3) := by decide +kernel
theorem d11_9 : decode jdk_29_method_65_code 9 = .ok (.iload_n 1, 1) := by decide +kernel
theorem d11_10 : decode jdk_29_method_65_code 10 = .ok (.ireturn, 1) := by decide +kernel
theorem pn_85959 {n d : String} (h : plainFor ⟨"java/lang/Math", n, d⟩ = true) : plainFor ⟨"java/lang/Math", n, d⟩ = true := h
theorem ef_rm_maxF (m : MethodId) (x0 : Int32) (x1 : Int32) : entryFrame m #[(.int x0), (.int x1)] 2 = mkF m 0 #[sI x0, sI x1] [] := by first | (simp [entryFrame, mkF, argsToLocals, Value.category]; done) | rfl
set_option maxRecDepth 65536 in
set_option maxHeartbeats 400000000 in
theorem rm_maxF (l : Launch) (Z : State) (a0 : Array Value) (hw : ∀ d ∈ tables_1, d.before a0 Z = true) (ws : List Jvm.Cond) (w_NONE : Addr) (k_NONE : ClassId) (hS : SF Z w_NONE k_NONE) (p1 : Int32) (p2 : Int32) (h0 : Heap) (O0 : Ext Z.heap h0)  :
    Con l Z h0 (⟨"java/lang/Math", "max", "(II)I"⟩ : MethodName) jdk_29_method_65_code 2 (some .int) ws ({ frames := 0, cells := 0, slots := 0, locals := 0 } : Room) #[(.int p1), (.int p2)] (fun v h L => v = some (.int (maxF p1 p2)) ∧ Fr Z.heap.size L ∧ h = h0) := by
  obtain ⟨S_NONE, E_NONE, V_NONE⟩ := id hS
  refine own_con (Jvm.Free.JP.mathPlain rfl (by decide +kernel)) ?_
  intro p e s m below meth c T0 X0 hx hby hml hown hnm hret hlk hZ e0
  have hown : s.vm.findClass "java/lang/Math" = some m.cls := hown
  have N0 := Fr.nil Z.heap.size
  refine Go.st (S' := T0.setTop (mkF m 0 #[sI p1, sI p2] [])) (fun _ k => castTop (ef_rm_maxF m p1 p2) k) ?_
  refine Go.st (S' := T0.setTop (mkF m 1 #[sI p1, sI p2] [(.int p1)])) (fun _ k => XS.iloadN X0.here hx rfl (hb hby d11_0) rfl k) ?_
  refine Go.st (S' := T0.setTop (mkF m 2 #[sI p1, sI p2] [(.int p2), (.int p1)])) (fun _ k => XS.iloadN X0.here hx rfl (hb hby d11_1) rfl k) ?_
  by_cases hc2 : p1 < p2
  · refine Go.st (S' := T0.setTop (mkF m 9 #[sI p1, sI p2] [])) (fun _ k => XS.icmpYes X0.here hx rfl (pc0 := 2) (pc' := 9) rfl (hb hby d11_2) rfl (tlt hc2).1 (by decide) (by decide) k) ?_
    refine Go.st (S' := T0.setTop (mkF m 10 #[sI p1, sI p2] [(.int p2)])) (fun _ k => XS.iloadN X0.here hx rfl (hb hby d11_9) rfl k) ?_
    exact own_retI X0 hx hlk hret (hb hby d11_10) e0 ⟨by simp only [maxF, hc2, if_true, if_false], N0, rfl⟩ (by decide) (by decide)
  · refine Go.st (S' := T0.setTop (mkF m 5 #[sI p1, sI p2] [])) (fun _ k => XS.icmpNo X0.here hx rfl (hb hby d11_2) rfl (flt hc2).1 k) ?_
    refine Go.st (S' := T0.setTop (mkF m 6 #[sI p1, sI p2] [(.int p1)])) (fun _ k => XS.iloadN X0.here hx rfl (hb hby d11_5) rfl k) ?_
    refine Go.st (S' := T0.setTop (mkF m 10 #[sI p1, sI p2] [(.int p1)])) (fun _ k => XS.goto X0.here hx rfl (pc0 := 6) (pc' := 10) rfl (hb hby d11_6) (by decide) (by decide) k) ?_
    exact own_retI X0 hx hlk hret (hb hby d11_10) e0 ⟨by simp only [maxF, hc2, if_true, if_false], N0, rfl⟩ (by decide) (by decide)
theorem d13_0 : decode jdk_29_method_69_code 0 = .ok (.iload_n 0, 1) := by decide +kernel
theorem d13_1 : decode jdk_29_method_69_code 1 = .ok (.iload_n 1, 1) := by decide +kernel
theorem d13_2 : decode jdk_29_method_69_code 2 = .ok (.if_icmp .gt 7, 3) := by decide +kernel
theorem d13_5 : decode jdk_29_method_69_code 5 = .ok (.iload_n 0, 1) := by decide +kernel
theorem d13_6 : decode jdk_29_method_69_code 6 = .ok (.goto 4, 3) := by decide +kernel
theorem d13_9 : decode jdk_29_method_69_code 9 = .ok (.iload_n 1, 1) := by decide +kernel
theorem d13_10 : decode jdk_29_method_69_code 10 = .ok (.ireturn, 1) := by decide +kernel
theorem ef_rm_minF (m : MethodId) (x0 : Int32) (x1 : Int32) : entryFrame m #[(.int x0), (.int x1)] 2 = mkF m 0 #[sI x0, sI x1] [] := by first | (simp [entryFrame, mkF, argsToLocals, Value.category]; done) | rfl
set_option maxRecDepth 65536 in
set_option maxHeartbeats 400000000 in
theorem rm_minF (l : Launch) (Z : State) (a0 : Array Value) (hw : ∀ d ∈ tables_1, d.before a0 Z = true) (ws : List Jvm.Cond) (w_NONE : Addr) (k_NONE : ClassId) (hS : SF Z w_NONE k_NONE) (p1 : Int32) (p2 : Int32) (h0 : Heap) (O0 : Ext Z.heap h0)  :
    Con l Z h0 (⟨"java/lang/Math", "min", "(II)I"⟩ : MethodName) jdk_29_method_69_code 2 (some .int) ws ({ frames := 0, cells := 0, slots := 0, locals := 0 } : Room) #[(.int p1), (.int p2)] (fun v h L => v = some (.int (minF p1 p2)) ∧ Fr Z.heap.size L ∧ h = h0) := by
  obtain ⟨S_NONE, E_NONE, V_NONE⟩ := id hS
  refine own_con (Jvm.Free.JP.mathPlain rfl (by decide +kernel)) ?_
  intro p e s m below meth c T0 X0 hx hby hml hown hnm hret hlk hZ e0
  have hown : s.vm.findClass "java/lang/Math" = some m.cls := hown
  have N0 := Fr.nil Z.heap.size
  refine Go.st (S' := T0.setTop (mkF m 0 #[sI p1, sI p2] [])) (fun _ k => castTop (ef_rm_minF m p1 p2) k) ?_
  refine Go.st (S' := T0.setTop (mkF m 1 #[sI p1, sI p2] [(.int p1)])) (fun _ k => XS.iloadN X0.here hx rfl (hb hby d13_0) rfl k) ?_
  refine Go.st (S' := T0.setTop (mkF m 2 #[sI p1, sI p2] [(.int p2), (.int p1)])) (fun _ k => XS.iloadN X0.here hx rfl (hb hby d13_1) rfl k) ?_
  by_cases hc2 : p2 < p1
  · refine Go.st (S' := T0.setTop (mkF m 9 #[sI p1, sI p2] [])) (fun _ k => XS.icmpYes X0.here hx rfl (pc0 := 2) (pc' := 9) rfl (hb hby d13_2) rfl (tlt hc2).2.2.1 (by decide) (by decide) k) ?_
    refine Go.st (S' := T0.setTop (mkF m 10 #[sI p1, sI p2] [(.int p2)])) (fun _ k => XS.iloadN X0.here hx rfl (hb hby d13_9) rfl k) ?_
    exact own_retI X0 hx hlk hret (hb hby d13_10) e0 ⟨by simp only [minF, hc2, if_true, if_false], N0, rfl⟩ (by decide) (by decide)
  · refine Go.st (S' := T0.setTop (mkF m 5 #[sI p1, sI p2] [])) (fun _ k => XS.icmpNo X0.here hx rfl (hb hby d13_2) rfl (flt hc2).2.2.1 k) ?_
    refine Go.st (S' := T0.setTop (mkF m 6 #[sI p1, sI p2] [(.int p1)])) (fun _ k => XS.iloadN X0.here hx rfl (hb hby d13_5) rfl k) ?_
    refine Go.st (S' := T0.setTop (mkF m 10 #[sI p1, sI p2] [(.int p1)])) (fun _ k => XS.goto X0.here hx rfl (pc0 := 6) (pc' := 10) rfl (hb hby d13_6) (by decide) (by decide) k) ?_
    exact own_retI X0 hx hlk hret (hb hby d13_10) e0 ⟨by simp only [minF, hc2, if_true, if_false], N0, rfl⟩ (by decide) (by decide)
theorem d16_0 : decode jdk_29_method_66_code 0 = .ok (.lload_n 0, 1) := by decide +kernel
theorem d16_1 : decode jdk_29_method_66_code 1 = .ok (.lload_n 2, 1) := by decide +kernel
theorem d16_2 : decode jdk_29_method_66_code 2 = .ok (.lcmp, 1) := by decide +kernel
theorem d16_3 : decode jdk_29_method_66_code 3 = .ok (.ifCond .lt 7, 3) := by decide +kernel
theorem d16_6 : decode jdk_29_method_66_code 6 = .ok (.lload_n 0, 1) := by decide +kernel
theorem d16_7 : decode jdk_29_method_66_code 7 = .ok (.goto 4, 3) := by decide +kernel
theorem d16_10 : decode jdk_29_method_66_code 10 = .ok (.lload_n 2, 1) := by decide +kernel
theorem d16_11 : decode jdk_29_method_66_code 11 = .ok (.lreturn, 1) := by decide +kernel
theorem ef_rm_maxJ (m : MethodId) (x0 : Int64) (x1 : Int64) : entryFrame m #[(.long x0), (.long x1)] 4 = mkF m 0 #[sJ x0, sS, sJ x1, sS] [] := by first | (simp [entryFrame, mkF, argsToLocals, Value.category]; done) | rfl
set_option maxRecDepth 65536 in
set_option maxHeartbeats 400000000 in
theorem rm_maxJ (l : Launch) (Z : State) (a0 : Array Value) (hw : ∀ d ∈ tables_1, d.before a0 Z = true) (ws : List Jvm.Cond) (w_NONE : Addr) (k_NONE : ClassId) (hS : SF Z w_NONE k_NONE) (p1 : Int64) (p2 : Int64) (h0 : Heap) (O0 : Ext Z.heap h0)  :
    Con l Z h0 (⟨"java/lang/Math", "max", "(JJ)J"⟩ : MethodName) jdk_29_method_66_code 4 (some .long) ws ({ frames := 0, cells := 0, slots := 0, locals := 0 } : Room) #[(.long p1), (.long p2)] (fun v h L => v = some (.long (maxJ p1 p2)) ∧ Fr Z.heap.size L ∧ h = h0) := by
  obtain ⟨S_NONE, E_NONE, V_NONE⟩ := id hS
  refine own_con (Jvm.Free.JP.mathPlain rfl (by decide +kernel)) ?_
  intro p e s m below meth c T0 X0 hx hby hml hown hnm hret hlk hZ e0
  have hown : s.vm.findClass "java/lang/Math" = some m.cls := hown
  have N0 := Fr.nil Z.heap.size
  refine Go.st (S' := T0.setTop (mkF m 0 #[sJ p1, sS, sJ p2, sS] [])) (fun _ k => castTop (ef_rm_maxJ m p1 p2) k) ?_
  refine Go.st (S' := T0.setTop (mkF m 1 #[sJ p1, sS, sJ p2, sS] [(.long p1)])) (fun _ k => XS.lloadN X0.here hx rfl (hb hby d16_0) rfl k) ?_
  refine Go.st (S' := T0.setTop (mkF m 2 #[sJ p1, sS, sJ p2, sS] [(.long p2), (.long p1)])) (fun _ k => XS.lloadN X0.here hx rfl (hb hby d16_1) rfl k) ?_
  refine Go.st (S' := T0.setTop (mkF m 3 #[sJ p1, sS, sJ p2, sS] [(.int (lcmpW p1 p2))])) (fun _ k => XS.lcmp X0.here hx rfl (hb hby d16_2) rfl k) ?_
  by_cases hc3 : p1 < p2
  · refine Go.st (S' := T0.setTop (mkF m 10 #[sJ p1, sS, sJ p2, sS] [])) (fun _ k => XS.ifYes X0.here hx rfl (pc0 := 3) (pc' := 10) rfl (hb hby d16_3) rfl (own_Llt hc3).1 (by decide) (by decide) k) ?_
    refine Go.st (S' := T0.setTop (mkF m 11 #[sJ p1, sS, sJ p2, sS] [(.long p2)])) (fun _ k => XS.lloadN X0.here hx rfl (hb hby d16_10) rfl k) ?_
    exact own_retJ X0 hx hlk hret (hb hby d16_11) e0 ⟨by simp only [maxJ, hc3, if_true, if_false], N0, rfl⟩ (by decide) (by decide)
  · refine Go.st (S' := T0.setTop (mkF m 6 #[sJ p1, sS, sJ p2, sS] [])) (fun _ k => XS.ifNo X0.here hx rfl (hb hby d16_3) rfl (own_Lnlt hc3).1 k) ?_
    refine Go.st (S' := T0.setTop (mkF m 7 #[sJ p1, sS, sJ p2, sS] [(.long p1)])) (fun _ k => XS.lloadN X0.here hx rfl (hb hby d16_6) rfl k) ?_
    refine Go.st (S' := T0.setTop (mkF m 11 #[sJ p1, sS, sJ p2, sS] [(.long p1)])) (fun _ k => XS.goto X0.here hx rfl (pc0 := 7) (pc' := 11) rfl (hb hby d16_7) (by decide) (by decide) k) ?_
    exact own_retJ X0 hx hlk hret (hb hby d16_11) e0 ⟨by simp only [maxJ, hc3, if_true, if_false], N0, rfl⟩ (by decide) (by decide)
theorem d7_0 : decode method_3_code 0 = .ok (.iload_n 0, 1) := by decide +kernel
theorem d7_1 : decode method_3_code 1 = .ok (.ifCond .ne 5, 3) := by decide +kernel
theorem d7_4 : decode method_3_code 4 = .ok (.iconst 0, 1) := by decide +kernel
theorem d7_5 : decode method_3_code 5 = .ok (.ireturn, 1) := by decide +kernel
theorem d7_6 : decode method_3_code 6 = .ok (.iload_n 0, 1) := by decide +kernel
theorem d7_7 : decode method_3_code 7 = .ok (.iconst 1, 1) := by decide +kernel
theorem d7_8 : decode method_3_code 8 = .ok (.if_icmp .ne 5, 3) := by decide +kernel
theorem d7_11 : decode method_3_code 11 = .ok (.iconst 1, 1) := by decide +kernel
theorem d7_12 : decode method_3_code 12 = .ok (.ireturn, 1) := by decide +kernel
theorem d7_13 : decode method_3_code 13 = .ok (.iload_n 0, 1) := by decide +kernel
theorem d7_14 : decode method_3_code 14 = .ok (.iconst 2, 1) := by decide +kernel
theorem d7_15 : decode method_3_code 15 = .ok (.if_icmp .ne 5, 3) := by decide +kernel
theorem d7_18 : decode method_3_code 18 = .ok (.iconst 2, 1) := by decide +kernel
theorem d7_19 : decode method_3_code 19 = .ok (.ireturn, 1) := by decide +kernel
theorem d7_20 : decode method_3_code 20 = .ok (.iconst 4, 1) := by decide +kernel
theorem d7_21 : decode method_3_code 21 = .ok (.ireturn, 1) := by decide +kernel
theorem pn_531690 : plainName "com/example/palimpsest/palimpsest/CommitTimesHeapBytesPinLaw" = true := by first | (simp [plainName, overriddenIn]; done) | decide +kernel
theorem ef_rmRoom (m : MethodId) (x0 : Int32) : entryFrame m #[(.int x0)] 1 = mkF m 0 #[sI x0] [] := by first | (simp [entryFrame, mkF, argsToLocals, Value.category]; done) | rfl
set_option maxRecDepth 65536 in
set_option maxHeartbeats 400000000 in
theorem rmRoom (l : Launch) (Z : State) (a0 : Array Value) (hw : ∀ d ∈ tables_1, d.before a0 Z = true) (ws : List Jvm.Cond) (w_NONE : Addr) (k_NONE : ClassId) (hS : SF Z w_NONE k_NONE) (p1 : Int32) (h0 : Heap) (O0 : Ext Z.heap h0)  :
    Con l Z h0 (⟨"com/example/palimpsest/palimpsest/CommitTimesHeapBytesPinLaw", "room", "(I)I"⟩ : MethodName) method_3_code 1 (some .int) ws ({ frames := 0, cells := 0, slots := 0, locals := 0 } : Room) #[(.int p1)] (fun v h L => v = some (.int (roomF p1)) ∧ Fr Z.heap.size L ∧ h = h0) := by
  obtain ⟨S_NONE, E_NONE, V_NONE⟩ := id hS
  refine own_con (plainFor_of_name pn_531690) ?_
  intro p e s m below meth c T0 X0 hx hby hml hown hnm hret hlk hZ e0
  have hown : s.vm.findClass "com/example/palimpsest/palimpsest/CommitTimesHeapBytesPinLaw" = some m.cls := hown
  have N0 := Fr.nil Z.heap.size
  refine Go.st (S' := T0.setTop (mkF m 0 #[sI p1] [])) (fun _ k => castTop (ef_rmRoom m p1) k) ?_
  refine Go.st (S' := T0.setTop (mkF m 1 #[sI p1] [(.int p1)])) (fun _ k => XS.iloadN X0.here hx rfl (hb hby d7_0) rfl k) ?_
  by_cases hc1 : p1 = (0 : Int32)
  · refine Go.st (S' := T0.setTop (mkF m 4 #[sI p1] [])) (fun _ k => XS.ifNo X0.here hx rfl (hb hby d7_1) rfl ((if0 _ _).trans (teq hc1).2) k) ?_
    refine Go.st (S' := T0.setTop (mkF m 5 #[sI p1] [(.int (0 : Int32))])) (fun _ k => XS.iconst X0.here hx rfl (hb hby d7_4) k) ?_
    exact own_retI X0 hx hlk hret (hb hby d7_5) e0 ⟨by first | (simp only [roomF, hc1, if_true, if_false]; done) | (simp [roomF, hc1]; done), N0, rfl⟩ (by decide) (by decide)
  · refine Go.st (S' := T0.setTop (mkF m 6 #[sI p1] [])) (fun _ k => XS.ifYes X0.here hx rfl (pc0 := 1) (pc' := 6) rfl (hb hby d7_1) rfl ((if0 _ _).trans (feq hc1).2) (by decide) (by decide) k) ?_
    refine Go.st (S' := T0.setTop (mkF m 7 #[sI p1] [(.int p1)])) (fun _ k => XS.iloadN X0.here hx rfl (hb hby d7_6) rfl k) ?_
    refine Go.st (S' := T0.setTop (mkF m 8 #[sI p1] [(.int (1 : Int32)), (.int p1)])) (fun _ k => XS.iconst X0.here hx rfl (hb hby d7_7) k) ?_
    by_cases hc8 : p1 = (1 : Int32)
    · refine Go.st (S' := T0.setTop (mkF m 11 #[sI p1] [])) (fun _ k => XS.icmpNo X0.here hx rfl (hb hby d7_8) rfl (teq hc8).2 k) ?_
      refine Go.st (S' := T0.setTop (mkF m 12 #[sI p1] [(.int (1 : Int32))])) (fun _ k => XS.iconst X0.here hx rfl (hb hby d7_11) k) ?_
      exact own_retI X0 hx hlk hret (hb hby d7_12) e0 ⟨by first | (simp only [roomF, hc1, hc8, if_true, if_false]; done) | (simp [roomF, hc1, hc8]; done), N0, rfl⟩ (by decide) (by decide)
    · refine Go.st (S' := T0.setTop (mkF m 13 #[sI p1] [])) (fun _ k => XS.icmpYes X0.here hx rfl (pc0 := 8) (pc' := 13) rfl (hb hby d7_8) rfl (feq hc8).2 (by decide) (by decide) k) ?_
      refine Go.st (S' := T0.setTop (mkF m 14 #[sI p1] [(.int p1)])) (fun _ k => XS.iloadN X0.here hx rfl (hb hby d7_13) rfl k) ?_
      refine Go.st (S' := T0.setTop (mkF m 15 #[sI p1] [(.int (2 : Int32)), (.int p1)])) (fun _ k => XS.iconst X0.here hx rfl (hb hby d7_14) k) ?_
      by_cases hc15 : p1 = (2 : Int32)
      · refine Go.st (S' := T0.setTop (mkF m 18 #[sI p1] [])) (fun _ k => XS.icmpNo X0.here hx rfl (hb hby d7_15) rfl (teq hc15).2 k) ?_
        refine Go.st (S' := T0.setTop (mkF m 19 #[sI p1] [(.int (2 : Int32))])) (fun _ k => XS.iconst X0.here hx rfl (hb hby d7_18) k) ?_
        exact own_retI X0 hx hlk hret (hb hby d7_19) e0 ⟨by first | (simp only [roomF, hc1, hc8, hc15, if_true, if_false]; done) | (simp [roomF, hc1, hc8, hc15]; done), N0, rfl⟩ (by decide) (by decide)
      · refine Go.st (S' := T0.setTop (mkF m 20 #[sI p1] [])) (fun _ k => XS.icmpYes X0.here hx rfl (pc0 := 15) (pc' := 20) rfl (hb hby d7_15) rfl (feq hc15).2 (by decide) (by decide) k) ?_
        refine Go.st (S' := T0.setTop (mkF m 21 #[sI p1] [(.int (4 : Int32))])) (fun _ k => XS.iconst X0.here hx rfl (hb hby d7_20) k) ?_
        exact own_retI X0 hx hlk hret (hb hby d7_21) e0 ⟨by first | (simp only [roomF, hc1, hc8, hc15, if_true, if_false]; done) | (simp [roomF, hc1, hc8, hc15]; done), N0, rfl⟩ (by decide) (by decide)
theorem d4_0 : decode jdk_30_method_1_code 0 = .ok (.aload_n 0, 1) := by decide +kernel
theorem d4_1 : decode jdk_30_method_1_code 1 = .ok (.invokespecial 1, 3) := by decide +kernel
theorem d4_4 : decode jdk_30_method_1_code 4 = .ok (.return_, 1) := by decide +kernel
theorem pn_921419 : plainName "java/lang/Record" = true := by first | (simp [plainName, overriddenIn]; done) | decide +kernel
theorem ef_rmRec (m : MethodId) (x0 : Addr) : entryFrame m #[(.ref x0)] 1 = mkF m 0 #[sR x0] [] := by first | (simp [entryFrame, mkF, argsToLocals, Value.category]; done) | rfl
set_option maxRecDepth 65536 in
set_option maxHeartbeats 400000000 in
theorem rmRec (l : Launch) (Z : State) (a0 : Array Value) (hw : ∀ d ∈ tables_1, d.before a0 Z = true) (ws : List Jvm.Cond) (w_NONE : Addr) (k_NONE : ClassId) (hS : SF Z w_NONE k_NONE) (a1 : Addr) (h0 : Heap) (O0 : Ext Z.heap h0)  :
    Con l Z h0 (⟨"java/lang/Record", "<init>", "()V"⟩ : MethodName) jdk_30_method_1_code 1 none ws ({ frames := 1, cells := 0, slots := 0, locals := 12 } : Room) #[(.ref a1)] (fun v h L => v = none ∧ Fr Z.heap.size L ∧ h = h0) := by
  obtain ⟨S_NONE, E_NONE, V_NONE⟩ := id hS
  refine own_con (plainFor_of_name pn_921419) ?_
  intro p e s m below meth c T0 X0 hx hby hml hown hnm hret hlk hZ e0
  have hown : s.vm.findClass "java/lang/Record" = some m.cls := hown
  have N0 := Fr.nil Z.heap.size
  refine Go.st (S' := T0.setTop (mkF m 0 #[sR a1] [])) (fun _ k => castTop (ef_rmRec m a1) k) ?_
  refine Go.st (S' := T0.setTop (mkF m 1 #[sR a1] [(.ref a1)])) (fun _ k => XS.aloadN X0.here hx rfl (hb hby d4_0) rfl rfl k) ?_
  obtain ⟨T1, X1, e1, st1⟩ := initO X0 hx hZ hown (ww hw 24 rfl) (ww hw 9 rfl) (ww hw 10 rfl) e0 (g := (mkF m 1 #[sR a1] [(.ref a1)])) rfl (by rw [hml]; rfl) rfl (hb hby d4_1) (by decide) (W := 0) (by show 2 * 0 + _ ≤ _; exact Nat.le_of_eq rfl) (by decide)
  refine Go.st (S' := T1.setTop (mkF m 4 #[sR a1] [])) st1 ?_
  exact own_retV X1 hx hlk hret (hb hby d4_4) e1 ⟨rfl, N0, rfl⟩ (by decide) (by decide)
theorem d3_0 : decode prog_8_method_1_code 0 = .ok (.aload_n 0, 1) := by decide +kernel
theorem d3_1 : decode prog_8_method_1_code 1 = .ok (.invokespecial 1, 3) := by decide +kernel
theorem d3_4 : decode prog_8_method_1_code 4 = .ok (.aload_n 0, 1) := by decide +kernel
theorem d3_5 : decode prog_8_method_1_code 5 = .ok (.aload_n 1, 1) := by decide +kernel
theorem d3_6 : decode prog_8_method_1_code 6 = .ok (.putfield 7, 3) := by decide +kernel
theorem d3_9 : decode prog_8_method_1_code 9 = .ok (.aload_n 0, 1) := by decide +kernel
theorem d3_10 : decode prog_8_method_1_code 10 = .ok (.aload_n 2, 1) := by decide +kernel
theorem d3_11 : decode prog_8_method_1_code 11 = .ok (.putfield 13, 3) := by decide +kernel
theorem d3_14 : decode prog_8_method_1_code 14 = .ok (.aload_n 0, 1) := by decide +kernel
theorem d3_15 : decode prog_8_method_1_code 15 = .ok (.iload_n 3, 1) := by decide +kernel
theorem d3_16 : decode prog_8_method_1_code 16 = .ok (.putfield 16, 3) := by decide +kernel
theorem d3_19 : decode prog_8_method_1_code 19 = .ok (.aload_n 0, 1) := by decide +kernel
theorem d3_20 : decode prog_8_method_1_code 20 = .ok (.lload 4, 2) := by decide +kernel
theorem d3_22 : decode prog_8_method_1_code 22 = .ok (.putfield 20, 3) := by decide +kernel
theorem d3_25 : decode prog_8_method_1_code 25 = .ok (.aload_n 0, 1) := by decide +kernel
theorem d3_26 : decode prog_8_method_1_code 26 = .ok (.aload 6, 2) := by decide +kernel
theorem d3_28 : decode prog_8_method_1_code 28 = .ok (.putfield 24, 3) := by decide +kernel
theorem d3_31 : decode prog_8_method_1_code 31 = .ok (.return_, 1) := by decide +kernel
theorem pd_428486 : parseMethodDescriptor "()V" = some ⟨[], none⟩ := by decide +kernel
theorem pf_132122 : parseFieldDescriptor "[J" = some (.array .long) := by decide +kernel
theorem sn_548260_olderTimes_olderTimestamps {Z : State} {a0 : Array Value} (hw : ∀ d ∈ tables_1, d.before a0 Z = true) : Jvm.RoadKit.slotOf Z "com/example/palimpsest/palimpsest/CommitTimes$Layout" "olderTimes" "[J" ≠ Jvm.RoadKit.slotOf Z "com/example/palimpsest/palimpsest/CommitTimes$Layout" "olderTimestamps" "[J" := slot_ne (Or.inr (ww hw 28 rfl)) (Or.inr (ww hw 26 rfl)) (by decide +kernel) (t := (.array .long)) (t' := (.array .long)) (by decide +kernel) (by decide +kernel)
theorem sn_548260_olderCount_olderTimestamps {Z : State} {a0 : Array Value} (hw : ∀ d ∈ tables_1, d.before a0 Z = true) : Jvm.RoadKit.slotOf Z "com/example/palimpsest/palimpsest/CommitTimes$Layout" "olderCount" "I" ≠ Jvm.RoadKit.slotOf Z "com/example/palimpsest/palimpsest/CommitTimes$Layout" "olderTimestamps" "[J" := slot_ne (Or.inr (ww hw 30 rfl)) (Or.inr (ww hw 26 rfl)) (by decide +kernel) (t := .int) (t' := (.array .long)) (by decide +kernel) (by decide +kernel)
theorem sn_548260_olderCount_olderTimes {Z : State} {a0 : Array Value} (hw : ∀ d ∈ tables_1, d.before a0 Z = true) : Jvm.RoadKit.slotOf Z "com/example/palimpsest/palimpsest/CommitTimes$Layout" "olderCount" "I" ≠ Jvm.RoadKit.slotOf Z "com/example/palimpsest/palimpsest/CommitTimes$Layout" "olderTimes" "[J" := slot_ne (Or.inr (ww hw 30 rfl)) (Or.inr (ww hw 28 rfl)) (by decide +kernel) (t := .int) (t' := (.array .long)) (by decide +kernel) (by decide +kernel)
theorem pf_990 : parseFieldDescriptor "I" = some .int := by decide +kernel
theorem sn_548260_floor_olderTimestamps {Z : State} {a0 : Array Value} (hw : ∀ d ∈ tables_1, d.before a0 Z = true) : Jvm.RoadKit.slotOf Z "com/example/palimpsest/palimpsest/CommitTimes$Layout" "floor" "J" ≠ Jvm.RoadKit.slotOf Z "com/example/palimpsest/palimpsest/CommitTimes$Layout" "olderTimestamps" "[J" := slot_ne (Or.inr (ww hw 32 rfl)) (Or.inr (ww hw 26 rfl)) (by decide +kernel) (t := .long) (t' := (.array .long)) (by decide +kernel) (by decide +kernel)
theorem sn_548260_floor_olderTimes {Z : State} {a0 : Array Value} (hw : ∀ d ∈ tables_1, d.before a0 Z = true) : Jvm.RoadKit.slotOf Z "com/example/palimpsest/palimpsest/CommitTimes$Layout" "floor" "J" ≠ Jvm.RoadKit.slotOf Z "com/example/palimpsest/palimpsest/CommitTimes$Layout" "olderTimes" "[J" := slot_ne (Or.inr (ww hw 32 rfl)) (Or.inr (ww hw 28 rfl)) (by decide +kernel) (t := .long) (t' := (.array .long)) (by decide +kernel) (by decide +kernel)
theorem sn_548260_floor_olderCount {Z : State} {a0 : Array Value} (hw : ∀ d ∈ tables_1, d.before a0 Z = true) : Jvm.RoadKit.slotOf Z "com/example/palimpsest/palimpsest/CommitTimes$Layout" "floor" "J" ≠ Jvm.RoadKit.slotOf Z "com/example/palimpsest/palimpsest/CommitTimes$Layout" "olderCount" "I" := slot_ne (Or.inr (ww hw 32 rfl)) (Or.inr (ww hw 30 rfl)) (by decide +kernel) (t := .long) (t' := .int) (by decide +kernel) (by decide +kernel)
theorem pf_991 : parseFieldDescriptor "J" = some .long := by decide +kernel
theorem sn_548260_slots_olderTimestamps {Z : State} {a0 : Array Value} (hw : ∀ d ∈ tables_1, d.before a0 Z = true) : Jvm.RoadKit.slotOf Z "com/example/palimpsest/palimpsest/CommitTimes$Layout" "slots" "[J" ≠ Jvm.RoadKit.slotOf Z "com/example/palimpsest/palimpsest/CommitTimes$Layout" "olderTimestamps" "[J" := slot_ne (Or.inr (ww hw 34 rfl)) (Or.inr (ww hw 26 rfl)) (by decide +kernel) (t := (.array .long)) (t' := (.array .long)) (by decide +kernel) (by decide +kernel)
theorem sn_548260_slots_olderTimes {Z : State} {a0 : Array Value} (hw : ∀ d ∈ tables_1, d.before a0 Z = true) : Jvm.RoadKit.slotOf Z "com/example/palimpsest/palimpsest/CommitTimes$Layout" "slots" "[J" ≠ Jvm.RoadKit.slotOf Z "com/example/palimpsest/palimpsest/CommitTimes$Layout" "olderTimes" "[J" := slot_ne (Or.inr (ww hw 34 rfl)) (Or.inr (ww hw 28 rfl)) (by decide +kernel) (t := (.array .long)) (t' := (.array .long)) (by decide +kernel) (by decide +kernel)
theorem sn_548260_slots_olderCount {Z : State} {a0 : Array Value} (hw : ∀ d ∈ tables_1, d.before a0 Z = true) : Jvm.RoadKit.slotOf Z "com/example/palimpsest/palimpsest/CommitTimes$Layout" "slots" "[J" ≠ Jvm.RoadKit.slotOf Z "com/example/palimpsest/palimpsest/CommitTimes$Layout" "olderCount" "I" := slot_ne (Or.inr (ww hw 34 rfl)) (Or.inr (ww hw 30 rfl)) (by decide +kernel) (t := (.array .long)) (t' := .int) (by decide +kernel) (by decide +kernel)
theorem sn_548260_slots_floor {Z : State} {a0 : Array Value} (hw : ∀ d ∈ tables_1, d.before a0 Z = true) : Jvm.RoadKit.slotOf Z "com/example/palimpsest/palimpsest/CommitTimes$Layout" "slots" "[J" ≠ Jvm.RoadKit.slotOf Z "com/example/palimpsest/palimpsest/CommitTimes$Layout" "floor" "J" := slot_ne (Or.inr (ww hw 34 rfl)) (Or.inr (ww hw 32 rfl)) (by decide +kernel) (t := (.array .long)) (t' := .long) (by decide +kernel) (by decide +kernel)
theorem sn_548260_olderTimestamps_olderTimes {Z : State} {a0 : Array Value} (hw : ∀ d ∈ tables_1, d.before a0 Z = true) : Jvm.RoadKit.slotOf Z "com/example/palimpsest/palimpsest/CommitTimes$Layout" "olderTimestamps" "[J" ≠ Jvm.RoadKit.slotOf Z "com/example/palimpsest/palimpsest/CommitTimes$Layout" "olderTimes" "[J" := slot_ne (Or.inr (ww hw 26 rfl)) (Or.inr (ww hw 28 rfl)) (by decide +kernel) (t := (.array .long)) (t' := (.array .long)) (by decide +kernel) (by decide +kernel)
theorem sn_548260_olderTimestamps_olderCount {Z : State} {a0 : Array Value} (hw : ∀ d ∈ tables_1, d.before a0 Z = true) : Jvm.RoadKit.slotOf Z "com/example/palimpsest/palimpsest/CommitTimes$Layout" "olderTimestamps" "[J" ≠ Jvm.RoadKit.slotOf Z "com/example/palimpsest/palimpsest/CommitTimes$Layout" "olderCount" "I" := slot_ne (Or.inr (ww hw 26 rfl)) (Or.inr (ww hw 30 rfl)) (by decide +kernel) (t := (.array .long)) (t' := .int) (by decide +kernel) (by decide +kernel)
theorem sn_548260_olderTimestamps_floor {Z : State} {a0 : Array Value} (hw : ∀ d ∈ tables_1, d.before a0 Z = true) : Jvm.RoadKit.slotOf Z "com/example/palimpsest/palimpsest/CommitTimes$Layout" "olderTimestamps" "[J" ≠ Jvm.RoadKit.slotOf Z "com/example/palimpsest/palimpsest/CommitTimes$Layout" "floor" "J" := slot_ne (Or.inr (ww hw 26 rfl)) (Or.inr (ww hw 32 rfl)) (by decide +kernel) (t := (.array .long)) (t' := .long) (by decide +kernel) (by decide +kernel)
theorem sn_548260_olderTimestamps_slots {Z : State} {a0 : Array Value} (hw : ∀ d ∈ tables_1, d.before a0 Z = true) : Jvm.RoadKit.slotOf Z "com/example/palimpsest/palimpsest/CommitTimes$Layout" "olderTimestamps" "[J" ≠ Jvm.RoadKit.slotOf Z "com/example/palimpsest/palimpsest/CommitTimes$Layout" "slots" "[J" := slot_ne (Or.inr (ww hw 26 rfl)) (Or.inr (ww hw 34 rfl)) (by decide +kernel) (t := (.array .long)) (t' := (.array .long)) (by decide +kernel) (by decide +kernel)
theorem sn_548260_olderTimes_olderCount {Z : State} {a0 : Array Value} (hw : ∀ d ∈ tables_1, d.before a0 Z = true) : Jvm.RoadKit.slotOf Z "com/example/palimpsest/palimpsest/CommitTimes$Layout" "olderTimes" "[J" ≠ Jvm.RoadKit.slotOf Z "com/example/palimpsest/palimpsest/CommitTimes$Layout" "olderCount" "I" := slot_ne (Or.inr (ww hw 28 rfl)) (Or.inr (ww hw 30 rfl)) (by decide +kernel) (t := (.array .long)) (t' := .int) (by decide +kernel) (by decide +kernel)
theorem sn_548260_olderTimes_floor {Z : State} {a0 : Array Value} (hw : ∀ d ∈ tables_1, d.before a0 Z = true) : Jvm.RoadKit.slotOf Z "com/example/palimpsest/palimpsest/CommitTimes$Layout" "olderTimes" "[J" ≠ Jvm.RoadKit.slotOf Z "com/example/palimpsest/palimpsest/CommitTimes$Layout" "floor" "J" := slot_ne (Or.inr (ww hw 28 rfl)) (Or.inr (ww hw 32 rfl)) (by decide +kernel) (t := (.array .long)) (t' := .long) (by decide +kernel) (by decide +kernel)
theorem sn_548260_olderTimes_slots {Z : State} {a0 : Array Value} (hw : ∀ d ∈ tables_1, d.before a0 Z = true) : Jvm.RoadKit.slotOf Z "com/example/palimpsest/palimpsest/CommitTimes$Layout" "olderTimes" "[J" ≠ Jvm.RoadKit.slotOf Z "com/example/palimpsest/palimpsest/CommitTimes$Layout" "slots" "[J" := slot_ne (Or.inr (ww hw 28 rfl)) (Or.inr (ww hw 34 rfl)) (by decide +kernel) (t := (.array .long)) (t' := (.array .long)) (by decide +kernel) (by decide +kernel)
theorem sn_548260_olderCount_floor {Z : State} {a0 : Array Value} (hw : ∀ d ∈ tables_1, d.before a0 Z = true) : Jvm.RoadKit.slotOf Z "com/example/palimpsest/palimpsest/CommitTimes$Layout" "olderCount" "I" ≠ Jvm.RoadKit.slotOf Z "com/example/palimpsest/palimpsest/CommitTimes$Layout" "floor" "J" := slot_ne (Or.inr (ww hw 30 rfl)) (Or.inr (ww hw 32 rfl)) (by decide +kernel) (t := .int) (t' := .long) (by decide +kernel) (by decide +kernel)
theorem sn_548260_olderCount_slots {Z : State} {a0 : Array Value} (hw : ∀ d ∈ tables_1, d.before a0 Z = true) : Jvm.RoadKit.slotOf Z "com/example/palimpsest/palimpsest/CommitTimes$Layout" "olderCount" "I" ≠ Jvm.RoadKit.slotOf Z "com/example/palimpsest/palimpsest/CommitTimes$Layout" "slots" "[J" := slot_ne (Or.inr (ww hw 30 rfl)) (Or.inr (ww hw 34 rfl)) (by decide +kernel) (t := .int) (t' := (.array .long)) (by decide +kernel) (by decide +kernel)
theorem sn_548260_floor_slots {Z : State} {a0 : Array Value} (hw : ∀ d ∈ tables_1, d.before a0 Z = true) : Jvm.RoadKit.slotOf Z "com/example/palimpsest/palimpsest/CommitTimes$Layout" "floor" "J" ≠ Jvm.RoadKit.slotOf Z "com/example/palimpsest/palimpsest/CommitTimes$Layout" "slots" "[J" := slot_ne (Or.inr (ww hw 32 rfl)) (Or.inr (ww hw 34 rfl)) (by decide +kernel) (t := .long) (t' := (.array .long)) (by decide +kernel) (by decide +kernel)
theorem pn_938991 : plainName "com/example/palimpsest/palimpsest/CommitTimes$Layout" = true := by first | (simp [plainName, overriddenIn]; done) | decide +kernel
theorem ef_rmLY (m : MethodId) (x0 : Addr) (x1 : Addr) (x2 : Addr) (x3 : Int32) (x4 : Int64) (x5 : Addr) : entryFrame m #[(.ref x0), (.ref x1), (.ref x2), (.int x3), (.long x4), (.ref x5)] 7 = mkF m 0 #[sR x0, sR x1, sR x2, sI x3, sJ x4, sS, sR x5] [] := by first | (simp [entryFrame, mkF, argsToLocals, Value.category]; done) | rfl
set_option maxRecDepth 65536 in
set_option maxHeartbeats 400000000 in
theorem rmLY (l : Launch) (Z : State) (a0 : Array Value) (hw : ∀ d ∈ tables_1, d.before a0 Z = true) (ws : List Jvm.Cond) (w_NONE : Addr) (k_NONE : ClassId) (hS : SF Z w_NONE k_NONE) (a1 : Addr) (a2 : Addr) (a3 : Addr) (p4 : Int32) (q5 : Int64) (a6 : Addr) (h0 : Heap) (O0 : Ext Z.heap h0) (ga : Z.heap.size ≤ a1) (EA : Exa Z h0 a1 "com/example/palimpsest/palimpsest/CommitTimes$Layout") (F_olderTimestamps : Fld Z h0 a1 "com/example/palimpsest/palimpsest/CommitTimes$Layout" "olderTimestamps" "[J" .null) (F_olderTimes : Fld Z h0 a1 "com/example/palimpsest/palimpsest/CommitTimes$Layout" "olderTimes" "[J" .null) (F_olderCount : Fld Z h0 a1 "com/example/palimpsest/palimpsest/CommitTimes$Layout" "olderCount" "I" (.int (0 : Int32))) (F_floor : Fld Z h0 a1 "com/example/palimpsest/palimpsest/CommitTimes$Layout" "floor" "J" (.long (0 : Int64))) (F_slots : Fld Z h0 a1 "com/example/palimpsest/palimpsest/CommitTimes$Layout" "slots" "[J" .null) :
    Con l Z h0 (⟨"com/example/palimpsest/palimpsest/CommitTimes$Layout", "<init>", "([J[JIJ[J)V"⟩ : MethodName) prog_8_method_1_code 7 none ws ({ frames := 2, cells := 0, slots := 0, locals := 24 } : Room) #[(.ref a1), (.ref a2), (.ref a3), (.int p4), (.long q5), (.ref a6)] (fun v h L => v = none ∧ Fr Z.heap.size L ∧ Keep h0 h [a1] ∧ Fld Z h a1 "com/example/palimpsest/palimpsest/CommitTimes$Layout" "olderTimestamps" "[J" (.ref a2) ∧ Fld Z h a1 "com/example/palimpsest/palimpsest/CommitTimes$Layout" "olderTimes" "[J" (.ref a3) ∧ Fld Z h a1 "com/example/palimpsest/palimpsest/CommitTimes$Layout" "olderCount" "I" (.int p4) ∧ Fld Z h a1 "com/example/palimpsest/palimpsest/CommitTimes$Layout" "floor" "J" (.long q5) ∧ Fld Z h a1 "com/example/palimpsest/palimpsest/CommitTimes$Layout" "slots" "[J" (.ref a6)) := by
  obtain ⟨S_NONE, E_NONE, V_NONE⟩ := id hS
  refine own_con (plainFor_of_name pn_938991) ?_
  intro p e s m below meth c T0 X0 hx hby hml hown hnm hret hlk hZ e0
  have hown : s.vm.findClass "com/example/palimpsest/palimpsest/CommitTimes$Layout" = some m.cls := hown
  have N0 := Fr.nil Z.heap.size
  have KP0 : Keep h0 h0 [a1] := Keep.refl h0 _
  refine Go.st (S' := T0.setTop (mkF m 0 #[sR a1, sR a2, sR a3, sI p4, sJ q5, sS, sR a6] [])) (fun _ k => castTop (ef_rmLY m a1 a2 a3 p4 q5 a6) k) ?_
  refine Go.st (S' := T0.setTop (mkF m 1 #[sR a1, sR a2, sR a3, sI p4, sJ q5, sS, sR a6] [(.ref a1)])) (fun _ k => XS.aloadN X0.here hx rfl (hb hby d3_0) rfl rfl k) ?_
  obtain ⟨_, T2, L2, X2, ⟨rfl, Nq2, eq2⟩, st2⟩ := own_callI X0 hx hZ rfl hown (ww hw 19 rfl) (ww hw 20 rfl) (ww hw 22 rfl) (ww hw 23 rfl) (by decide) e0 (rmRec l Z a0 hw [] w_NONE k_NONE hS a1 h0 O0) 0 (by decide) (by decide) (by decide) (by decide) (g := (mkF m 1 #[sR a1, sR a2, sR a3, sI p4, sJ q5, sS, sR a6] [(.ref a1)])) rfl (by rw [hml]; rfl) [] [] rfl (lenOf pd_428486 rfl) rfl (by show 2 * 0 + _ ≤ _; exact Nat.le_of_eq rfl) (hb hby d3_1)
  have N2 := Fr.app N0 Nq2
  refine Go.st (S' := T2.setTop (mkF m 4 #[sR a1, sR a2, sR a3, sI p4, sJ q5, sS, sR a6] [])) st2 ?_
  refine Go.st (S' := T2.setTop (mkF m 5 #[sR a1, sR a2, sR a3, sI p4, sJ q5, sS, sR a6] [(.ref a1)])) (fun _ k => XS.aloadN X2.here hx rfl (hb hby d3_4) rfl rfl k) ?_
  refine Go.st (S' := T2.setTop (mkF m 6 #[sR a1, sR a2, sR a3, sI p4, sJ q5, sS, sR a6] [(.ref a2), (.ref a1)])) (fun _ k => XS.aloadN X2.here hx rfl (hb hby d3_5) rfl rfl k) ?_
  obtain ⟨T3, h3, X3, e3, W3, st3⟩ := putF X2 hx hZ hown (host := "") (Or.inl (ww hw 25 rfl)) Via.refl eq2 F_olderTimestamps EA (Or.inr ⟨(ww hw 26 rfl), rfl, hnm⟩) (ww hw 12 rfl) (ty := (.array .long)) pf_132122 rfl rfl (g := (mkF m 6 #[sR a1, sR a2, sR a3, sI p4, sJ q5, sS, sR a6] [(.ref a2), (.ref a1)])) rfl rfl (hb hby d3_6)
  have N3 := Fr.snoc X3 N2 ga
  have Fw3 := F_olderTimestamps.same W3
  have O3 : Ext Z.heap h3 := own_Ext.wr O0 W3 ga
  have KP3 : Keep h0 h3 [a1] := KP0.wr W3 (Or.inl (List.mem_of_getElem? (i := 0) rfl))
  refine Go.st (S' := T3.setTop (mkF m 9 #[sR a1, sR a2, sR a3, sI p4, sJ q5, sS, sR a6] [])) st3 ?_
  refine Go.st (S' := T3.setTop (mkF m 10 #[sR a1, sR a2, sR a3, sI p4, sJ q5, sS, sR a6] [(.ref a1)])) (fun _ k => XS.aloadN X3.here hx rfl (hb hby d3_9) rfl rfl k) ?_
  refine Go.st (S' := T3.setTop (mkF m 11 #[sR a1, sR a2, sR a3, sI p4, sJ q5, sS, sR a6] [(.ref a3), (.ref a1)])) (fun _ k => XS.aloadN X3.here hx rfl (hb hby d3_10) rfl rfl k) ?_
  obtain ⟨T4, h4, X4, e4, W4, st4⟩ := putF X3 hx hZ hown (host := "") (Or.inl (ww hw 27 rfl)) Via.refl e3 (F_olderTimes.other W3 (Or.inr (sn_548260_olderTimes_olderTimestamps hw))) (EA.wr W3) (Or.inr ⟨(ww hw 28 rfl), rfl, hnm⟩) (ww hw 12 rfl) (ty := (.array .long)) pf_132122 rfl rfl (g := (mkF m 11 #[sR a1, sR a2, sR a3, sI p4, sJ q5, sS, sR a6] [(.ref a3), (.ref a1)])) rfl rfl (hb hby d3_11)
  have N4 := Fr.snoc X4 N3 ga
  have Fw4 := (F_olderTimes.other W3 (Or.inr (sn_548260_olderTimes_olderTimestamps hw))).same W4
  have O4 : Ext Z.heap h4 := own_Ext.wr O3 W4 ga
  have KP4 : Keep h0 h4 [a1] := KP3.wr W4 (Or.inl (List.mem_of_getElem? (i := 0) rfl))
  refine Go.st (S' := T4.setTop (mkF m 14 #[sR a1, sR a2, sR a3, sI p4, sJ q5, sS, sR a6] [])) st4 ?_
  refine Go.st (S' := T4.setTop (mkF m 15 #[sR a1, sR a2, sR a3, sI p4, sJ q5, sS, sR a6] [(.ref a1)])) (fun _ k => XS.aloadN X4.here hx rfl (hb hby d3_14) rfl rfl k) ?_
  refine Go.st (S' := T4.setTop (mkF m 16 #[sR a1, sR a2, sR a3, sI p4, sJ q5, sS, sR a6] [(.int p4), (.ref a1)])) (fun _ k => XS.iloadN X4.here hx rfl (hb hby d3_15) rfl k) ?_
  obtain ⟨T5, h5, X5, e5, W5, st5⟩ := putF X4 hx hZ hown (host := "") (Or.inl (ww hw 29 rfl)) Via.refl e4 ((F_olderCount.other W3 (Or.inr (sn_548260_olderCount_olderTimestamps hw))).other W4 (Or.inr (sn_548260_olderCount_olderTimes hw))) ((EA.wr W3).wr W4) (Or.inr ⟨(ww hw 30 rfl), rfl, hnm⟩) (ww hw 12 rfl) (ty := .int) pf_990 rfl rfl (g := (mkF m 16 #[sR a1, sR a2, sR a3, sI p4, sJ q5, sS, sR a6] [(.int p4), (.ref a1)])) rfl rfl (hb hby d3_16)
  have N5 := Fr.snoc X5 N4 ga
  have Fw5 := ((F_olderCount.other W3 (Or.inr (sn_548260_olderCount_olderTimestamps hw))).other W4 (Or.inr (sn_548260_olderCount_olderTimes hw))).same W5
  have O5 : Ext Z.heap h5 := own_Ext.wr O4 W5 ga
  have KP5 : Keep h0 h5 [a1] := KP4.wr W5 (Or.inl (List.mem_of_getElem? (i := 0) rfl))
  refine Go.st (S' := T5.setTop (mkF m 19 #[sR a1, sR a2, sR a3, sI p4, sJ q5, sS, sR a6] [])) st5 ?_
  refine Go.st (S' := T5.setTop (mkF m 20 #[sR a1, sR a2, sR a3, sI p4, sJ q5, sS, sR a6] [(.ref a1)])) (fun _ k => XS.aloadN X5.here hx rfl (hb hby d3_19) rfl rfl k) ?_
  refine Go.st (S' := T5.setTop (mkF m 22 #[sR a1, sR a2, sR a3, sI p4, sJ q5, sS, sR a6] [(.long q5), (.ref a1)])) (fun _ k => XS.lload X5.here hx rfl (hb hby d3_20) rfl k) ?_
  obtain ⟨T6, h6, X6, e6, W6, st6⟩ := putF X5 hx hZ hown (host := "") (Or.inl (ww hw 31 rfl)) Via.refl e5 (((F_floor.other W3 (Or.inr (sn_548260_floor_olderTimestamps hw))).other W4 (Or.inr (sn_548260_floor_olderTimes hw))).other W5 (Or.inr (sn_548260_floor_olderCount hw))) (((EA.wr W3).wr W4).wr W5) (Or.inr ⟨(ww hw 32 rfl), rfl, hnm⟩) (ww hw 12 rfl) (ty := .long) pf_991 rfl rfl (g := (mkF m 22 #[sR a1, sR a2, sR a3, sI p4, sJ q5, sS, sR a6] [(.long q5), (.ref a1)])) rfl rfl (hb hby d3_22)
  have N6 := Fr.snoc X6 N5 ga
  have Fw6 := (((F_floor.other W3 (Or.inr (sn_548260_floor_olderTimestamps hw))).other W4 (Or.inr (sn_548260_floor_olderTimes hw))).other W5 (Or.inr (sn_548260_floor_olderCount hw))).same W6
  have O6 : Ext Z.heap h6 := own_Ext.wr O5 W6 ga
  have KP6 : Keep h0 h6 [a1] := KP5.wr W6 (Or.inl (List.mem_of_getElem? (i := 0) rfl))
  refine Go.st (S' := T6.setTop (mkF m 25 #[sR a1, sR a2, sR a3, sI p4, sJ q5, sS, sR a6] [])) st6 ?_
  refine Go.st (S' := T6.setTop (mkF m 26 #[sR a1, sR a2, sR a3, sI p4, sJ q5, sS, sR a6] [(.ref a1)])) (fun _ k => XS.aloadN X6.here hx rfl (hb hby d3_25) rfl rfl k) ?_
  refine Go.st (S' := T6.setTop (mkF m 28 #[sR a1, sR a2, sR a3, sI p4, sJ q5, sS, sR a6] [(.ref a6), (.ref a1)])) (fun _ k => XS.aload X6.here hx rfl (hb hby d3_26) rfl rfl k) ?_
  obtain ⟨T7, h7, X7, e7, W7, st7⟩ := putF X6 hx hZ hown (host := "") (Or.inl (ww hw 33 rfl)) Via.refl e6 ((((F_slots.other W3 (Or.inr (sn_548260_slots_olderTimestamps hw))).other W4 (Or.inr (sn_548260_slots_olderTimes hw))).other W5 (Or.inr (sn_548260_slots_olderCount hw))).other W6 (Or.inr (sn_548260_slots_floor hw))) ((((EA.wr W3).wr W4).wr W5).wr W6) (Or.inr ⟨(ww hw 34 rfl), rfl, hnm⟩) (ww hw 12 rfl) (ty := (.array .long)) pf_132122 rfl rfl (g := (mkF m 28 #[sR a1, sR a2, sR a3, sI p4, sJ q5, sS, sR a6] [(.ref a6), (.ref a1)])) rfl rfl (hb hby d3_28)
  have N7 := Fr.snoc X7 N6 ga
  have Fw7 := ((((F_slots.other W3 (Or.inr (sn_548260_slots_olderTimestamps hw))).other W4 (Or.inr (sn_548260_slots_olderTimes hw))).other W5 (Or.inr (sn_548260_slots_olderCount hw))).other W6 (Or.inr (sn_548260_slots_floor hw))).same W7
  have O7 : Ext Z.heap h7 := own_Ext.wr O6 W7 ga
  have KP7 : Keep h0 h7 [a1] := KP6.wr W7 (Or.inl (List.mem_of_getElem? (i := 0) rfl))
  refine Go.st (S' := T7.setTop (mkF m 31 #[sR a1, sR a2, sR a3, sI p4, sJ q5, sS, sR a6] [])) st7 ?_
  exact own_retV X7 hx hlk hret (hb hby d3_31) e7 ⟨rfl, N7, KP7, ((((Fw3.other W4 (Or.inr (sn_548260_olderTimestamps_olderTimes hw))).other W5 (Or.inr (sn_548260_olderTimestamps_olderCount hw))).other W6 (Or.inr (sn_548260_olderTimestamps_floor hw))).other W7 (Or.inr (sn_548260_olderTimestamps_slots hw))), (((Fw4.other W5 (Or.inr (sn_548260_olderTimes_olderCount hw))).other W6 (Or.inr (sn_548260_olderTimes_floor hw))).other W7 (Or.inr (sn_548260_olderTimes_slots hw))), ((Fw5.other W6 (Or.inr (sn_548260_olderCount_floor hw))).other W7 (Or.inr (sn_548260_olderCount_slots hw))), (Fw6.other W7 (Or.inr (sn_548260_floor_slots hw))), Fw7⟩ (by decide) (by decide)
theorem d1_0 : decode prog_7_method_1_code 0 = .ok (.aload_n 0, 1) := by decide +kernel
theorem d1_1 : decode prog_7_method_1_code 1 = .ok (.invokespecial 3, 3) := by decide +kernel
theorem d1_4 : decode prog_7_method_1_code 4 = .ok (.aload_n 0, 1) := by decide +kernel
theorem d1_5 : decode prog_7_method_1_code 5 = .ok (.new 9, 3) := by decide +kernel
theorem d1_8 : decode prog_7_method_1_code 8 = .ok (.dup, 1) := by decide +kernel
theorem d1_9 : decode prog_7_method_1_code 9 = .ok (.getstatic 11, 3) := by decide +kernel
theorem d1_12 : decode prog_7_method_1_code 12 = .ok (.getstatic 11, 3) := by decide +kernel
theorem d1_15 : decode prog_7_method_1_code 15 = .ok (.iconst 0, 1) := by decide +kernel
theorem d1_16 : decode prog_7_method_1_code 16 = .ok (.lconst 1, 1) := by decide +kernel
theorem d1_17 : decode prog_7_method_1_code 17 = .ok (.getstatic 11, 3) := by decide +kernel
theorem d1_20 : decode prog_7_method_1_code 20 = .ok (.invokespecial 17, 3) := by decide +kernel
theorem d1_23 : decode prog_7_method_1_code 23 = .ok (.putfield 20, 3) := by decide +kernel
theorem d1_26 : decode prog_7_method_1_code 26 = .ok (.return_, 1) := by decide +kernel
theorem pd_950621 : parseMethodDescriptor "([J[JIJ[J)V" = some ⟨[(.array .long), (.array .long), .int, .long, (.array .long)], none⟩ := by decide +kernel
theorem pf_770827 : parseFieldDescriptor "Lcom/example/palimpsest/palimpsest/CommitTimes$Layout;" = some (.object "com/example/palimpsest/palimpsest/CommitTimes$Layout") := by decide +kernel
theorem sn_653249_newest_layout {Z : State} {a0 : Array Value} (hw : ∀ d ∈ tables_1, d.before a0 Z = true) : Jvm.RoadKit.slotOf Z "com/example/palimpsest/palimpsest/CommitTimes" "newest" "J" ≠ Jvm.RoadKit.slotOf Z "com/example/palimpsest/palimpsest/CommitTimes" "layout" "Lcom/example/palimpsest/palimpsest/CommitTimes$Layout;" := slot_ne (Or.inl (ww hw 62 rfl)) (Or.inl (ww hw 36 rfl)) (by decide +kernel) (t := .long) (t' := (.object "com/example/palimpsest/palimpsest/CommitTimes$Layout")) (by decide +kernel) (by decide +kernel)
theorem pn_977193 : plainName "com/example/palimpsest/palimpsest/CommitTimes" = true := by first | (simp [plainName, overriddenIn]; done) | decide +kernel
theorem ef_rmCT (m : MethodId) (x0 : Addr) : entryFrame m #[(.ref x0)] 1 = mkF m 0 #[sR x0] [] := by first | (simp [entryFrame, mkF, argsToLocals, Value.category]; done) | rfl
set_option maxRecDepth 65536 in
set_option maxHeartbeats 400000000 in
theorem rmCT (l : Launch) (Z : State) (a0 : Array Value) (hw : ∀ d ∈ tables_1, d.before a0 Z = true) (ws : List Jvm.Cond) (w_NONE : Addr) (k_NONE : ClassId) (hS : SF Z w_NONE k_NONE) (a1 : Addr) (h0 : Heap) (O0 : Ext Z.heap h0) (ga : Z.heap.size ≤ a1) (EA : Exa Z h0 a1 "com/example/palimpsest/palimpsest/CommitTimes") (F_layout : Fld Z h0 a1 "com/example/palimpsest/palimpsest/CommitTimes" "layout" "Lcom/example/palimpsest/palimpsest/CommitTimes$Layout;" .null) (F_newest : Fld Z h0 a1 "com/example/palimpsest/palimpsest/CommitTimes" "newest" "J" (.long (0 : Int64))) :
    Con l Z h0 (⟨"com/example/palimpsest/palimpsest/CommitTimes", "<init>", "()V"⟩ : MethodName) prog_7_method_1_code 1 none ws ({ frames := 3, cells := 1, slots := 5, locals := 45 } : Room) #[(.ref a1)] (fun v h L => v = none ∧ Fr Z.heap.size L ∧ Keep h0 h [a1] ∧ ∃ ly, h0.size ≤ ly ∧ Exa Z h ly "com/example/palimpsest/palimpsest/CommitTimes$Layout" ∧ Fld Z h ly "com/example/palimpsest/palimpsest/CommitTimes$Layout" "olderTimestamps" "[J" (.ref w_NONE) ∧ Fld Z h ly "com/example/palimpsest/palimpsest/CommitTimes$Layout" "olderTimes" "[J" (.ref w_NONE) ∧ Fld Z h ly "com/example/palimpsest/palimpsest/CommitTimes$Layout" "olderCount" "I" (.int (0 : Int32)) ∧ Fld Z h ly "com/example/palimpsest/palimpsest/CommitTimes$Layout" "floor" "J" (.long (1 : Int64)) ∧ Fld Z h ly "com/example/palimpsest/palimpsest/CommitTimes$Layout" "slots" "[J" (.ref w_NONE) ∧ Fld Z h a1 "com/example/palimpsest/palimpsest/CommitTimes" "layout" "Lcom/example/palimpsest/palimpsest/CommitTimes$Layout;" (.ref ly) ∧ Fld Z h a1 "com/example/palimpsest/palimpsest/CommitTimes" "newest" "J" (.long (0 : Int64))) := by
  obtain ⟨S_NONE, E_NONE, V_NONE⟩ := id hS
  refine own_con (plainFor_of_name pn_977193) ?_
  intro p e s m below meth c T0 X0 hx hby hml hown hnm hret hlk hZ e0
  have hown : s.vm.findClass "com/example/palimpsest/palimpsest/CommitTimes" = some m.cls := hown
  have N0 := Fr.nil Z.heap.size
  have KP0 : Keep h0 h0 [a1] := Keep.refl h0 _
  refine Go.st (S' := T0.setTop (mkF m 0 #[sR a1] [])) (fun _ k => castTop (ef_rmCT m a1) k) ?_
  refine Go.st (S' := T0.setTop (mkF m 1 #[sR a1] [(.ref a1)])) (fun _ k => XS.aloadN X0.here hx rfl (hb hby d1_0) rfl rfl k) ?_
  obtain ⟨T8, X8, e8, st8⟩ := initO X0 hx hZ hown (ww hw 8 rfl) (ww hw 9 rfl) (ww hw 10 rfl) e0 (g := (mkF m 1 #[sR a1] [(.ref a1)])) rfl (by rw [hml]; rfl) rfl (hb hby d1_1) (by decide) (W := 0) (by show 2 * 0 + _ ≤ _; exact Nat.le_of_eq rfl) (by decide)
  refine Go.st (S' := T8.setTop (mkF m 4 #[sR a1] [])) st8 ?_
  refine Go.st (S' := T8.setTop (mkF m 5 #[sR a1] [(.ref a1)])) (fun _ k => XS.aloadN X8.here hx rfl (hb hby d1_4) rfl rfl k) ?_
  obtain ⟨T9, h9, X9, e9, E9, A9, D9, -, st9⟩ := newO X8 hx hZ hown (ww hw 11 rfl) (ww hw 12 rfl) (ww hw 13 rfl) e8 (g := (mkF m 5 #[sR a1] [(.ref a1)])) rfl (hb hby d1_5) (by decide) (by decide)
  obtain ⟨b9, g9⟩ : ∃ z, z = h0.size := ⟨_, rfl⟩
  rw [← g9] at A9 D9 st9
  have gz9 : Z.heap.size ≤ b9 := Nat.le_trans O0.1 (Nat.le_of_eq g9.symm)
  have sz9 : h0.size ≤ b9 := Nat.le_trans KP0.1 (Nat.le_of_eq g9.symm)
  have ne_a1_b9 : a1 ≠ b9 := own_lt_ne F_layout.lt g9
  have O9 : Ext Z.heap h9 := own_Ext.trans O0 E9
  have KP9 : Keep h0 h9 [a1] := KP0.ext E9
  have F9_olderTimestamps : Fld Z h9 b9 "com/example/palimpsest/palimpsest/CommitTimes$Layout" "olderTimestamps" "[J" .null := D9 (Or.inr (ww hw 26 rfl)) (ty := (.array .long)) pf_132122
  have F9_olderTimes : Fld Z h9 b9 "com/example/palimpsest/palimpsest/CommitTimes$Layout" "olderTimes" "[J" .null := D9 (Or.inr (ww hw 28 rfl)) (ty := (.array .long)) pf_132122
  have F9_olderCount : Fld Z h9 b9 "com/example/palimpsest/palimpsest/CommitTimes$Layout" "olderCount" "I" (.int (0 : Int32)) := D9 (Or.inr (ww hw 30 rfl)) (ty := .int) pf_990
  have F9_floor : Fld Z h9 b9 "com/example/palimpsest/palimpsest/CommitTimes$Layout" "floor" "J" (.long (0 : Int64)) := D9 (Or.inr (ww hw 32 rfl)) (ty := .long) pf_991
  have F9_slots : Fld Z h9 b9 "com/example/palimpsest/palimpsest/CommitTimes$Layout" "slots" "[J" .null := D9 (Or.inr (ww hw 34 rfl)) (ty := (.array .long)) pf_132122
  refine Go.st (S' := T9.setTop (mkF m 8 #[sR a1] [(.ref b9), (.ref a1)])) st9 ?_
  refine Go.st (S' := T9.setTop (mkF m 9 #[sR a1] [(.ref b9), (.ref b9), (.ref a1)])) (fun _ k => XS.dup X9.here hx rfl (hb hby d1_8) rfl rfl k) ?_
  obtain ⟨T10, X10, e10, st10⟩ := getS2 X9 hx hZ hown (host := "") (Or.inl (ww hw 14 rfl)) Via.refl e9 (S_NONE.ext O9) (g := (mkF m 9 #[sR a1] [(.ref b9), (.ref b9), (.ref a1)])) rfl (hb hby d1_9)
  refine Go.st (S' := T10.setTop (mkF m 12 #[sR a1] [(.ref w_NONE), (.ref b9), (.ref b9), (.ref a1)])) st10 ?_
  obtain ⟨T11, X11, e11, st11⟩ := getS2 X10 hx hZ hown (host := "") (Or.inl (ww hw 14 rfl)) Via.refl e10 (S_NONE.ext O9) (g := (mkF m 12 #[sR a1] [(.ref w_NONE), (.ref b9), (.ref b9), (.ref a1)])) rfl (hb hby d1_12)
  refine Go.st (S' := T11.setTop (mkF m 15 #[sR a1] [(.ref w_NONE), (.ref w_NONE), (.ref b9), (.ref b9), (.ref a1)])) st11 ?_
  refine Go.st (S' := T11.setTop (mkF m 16 #[sR a1] [(.int (0 : Int32)), (.ref w_NONE), (.ref w_NONE), (.ref b9), (.ref b9), (.ref a1)])) (fun _ k => XS.iconst X11.here hx rfl (hb hby d1_15) k) ?_
  refine Go.st (S' := T11.setTop (mkF m 17 #[sR a1] [(.long (1 : Int64)), (.int (0 : Int32)), (.ref w_NONE), (.ref w_NONE), (.ref b9), (.ref b9), (.ref a1)])) (fun _ k => XS.lconst X11.here hx rfl (hb hby d1_16) k) ?_
  obtain ⟨T12, X12, e12, st12⟩ := getS2 X11 hx hZ hown (host := "") (Or.inl (ww hw 14 rfl)) Via.refl e11 (S_NONE.ext O9) (g := (mkF m 17 #[sR a1] [(.long (1 : Int64)), (.int (0 : Int32)), (.ref w_NONE), (.ref w_NONE), (.ref b9), (.ref b9), (.ref a1)])) rfl (hb hby d1_17)
  refine Go.st (S' := T12.setTop (mkF m 20 #[sR a1] [(.ref w_NONE), (.long (1 : Int64)), (.int (0 : Int32)), (.ref w_NONE), (.ref w_NONE), (.ref b9), (.ref b9), (.ref a1)])) st12 ?_
  obtain ⟨_, T13, L13, X13, ⟨rfl, Nq13, kp13, folderTimestamps13, folderTimes13, folderCount13, ffloor13, fslots13⟩, st13⟩ := own_callIR X12 hx hZ rfl hown (ww hw 16 rfl) (ww hw 17 rfl) (ww hw 13 rfl) (ww hw 18 rfl) (by decide) e12 (rmLY l Z a0 hw [] w_NONE k_NONE hS b9 w_NONE w_NONE (0 : Int32) (1 : Int64) w_NONE h9 O9 gz9 A9 F9_olderTimestamps F9_olderTimes F9_olderCount F9_floor F9_slots) 2 (by decide) (by decide) (by decide) (by decide) (g := (mkF m 20 #[sR a1] [(.ref w_NONE), (.long (1 : Int64)), (.int (0 : Int32)), (.ref w_NONE), (.ref w_NONE), (.ref b9), (.ref b9), (.ref a1)])) rfl (by rw [hml]; rfl) [(.ref w_NONE), (.ref w_NONE), (.int (0 : Int32)), (.long (1 : Int64)), (.ref w_NONE)] [(.ref b9), (.ref a1)] rfl (lenOf pd_950621 rfl) rfl (by show 2 * 0 + _ ≤ _; exact Nat.le_of_eq rfl) (hb hby d1_20)
  have N13 := Fr.app N0 Nq13
  have O13 : Ext Z.heap T13.heap := own_Ext.keep O9 kp13 (allS gz9 all0)
  have KP13 : Keep h0 T13.heap [a1] := KP9.trans kp13 (allS (Or.inr sz9) all0)
  refine Go.st (S' := T13.setTop (mkF m 23 #[sR a1] [(.ref b9), (.ref a1)])) st13 ?_
  obtain ⟨T14, h14, X14, e14, W14, st14⟩ := putF X13 hx hZ hown (host := "") (Or.inl (ww hw 35 rfl)) Via.refl rfl ((F_layout.ext E9).keep kp13 (ninS ne_a1_b9 nin0)) ((EA.ext E9).keep kp13) (Or.inl (ww hw 36 rfl)) (ww hw 3 rfl) (ty := (.object "com/example/palimpsest/palimpsest/CommitTimes$Layout")) pf_770827 rfl rfl (g := (mkF m 23 #[sR a1] [(.ref b9), (.ref a1)])) rfl rfl (hb hby d1_23)
  have N14 := Fr.snoc X14 N13 ga
  have Fw14 := ((F_layout.ext E9).keep kp13 (ninS ne_a1_b9 nin0)).same W14
  have O14 : Ext Z.heap h14 := own_Ext.wr O13 W14 ga
  have KP14 : Keep h0 h14 [a1] := KP13.wr W14 (Or.inl (List.mem_of_getElem? (i := 0) rfl))
  refine Go.st (S' := T14.setTop (mkF m 26 #[sR a1] [])) st14 ?_
  exact own_retV X14 hx hlk hret (hb hby d1_26) e14 ⟨rfl, N14, KP14, _, sz9, ((A9.keep kp13).wr W14), (folderTimestamps13.other W14 (Or.inl (Ne.symm ne_a1_b9))), (folderTimes13.other W14 (Or.inl (Ne.symm ne_a1_b9))), (folderCount13.other W14 (Or.inl (Ne.symm ne_a1_b9))), (ffloor13.other W14 (Or.inl (Ne.symm ne_a1_b9))), (fslots13.other W14 (Or.inl (Ne.symm ne_a1_b9))), Fw14, (((F_newest.ext E9).keep kp13 (ninS ne_a1_b9 nin0)).other W14 (Or.inr (sn_653249_newest_layout hw)))⟩ (by decide) (by decide)
theorem own_arv {Z : State} {h : Heap} {a : Addr} {k : ClassId} {ty : FieldType} {z : Int32} {vs : List Value} {dv : Value} (F : Arh Z h a k ty z [] vs dv) : Arv Z h a k ty z vs dv := by
  obtain ⟨cl, A, q, S, N, H, G⟩ := F
  exact ⟨cl, A, q, S, N, H, G⟩
theorem d12_0 : decode jdk_65_method_124_code 0 = .ok (.iload_n 1, 1) := by decide +kernel
theorem d12_1 : decode jdk_65_method_124_code 1 = .ok (.aload_n 0, 1) := by decide +kernel
theorem d12_2 : decode jdk_65_method_124_code 2 = .ok (.arraylength, 1) := by decide +kernel
theorem d12_3 : decode jdk_65_method_124_code 3 = .ok (.if_icmp .ne 11, 3) := by decide +kernel
theorem d12_6 : decode jdk_65_method_124_code 6 = .ok (.aload_n 0, 1) := by decide +kernel
theorem d12_7 : decode jdk_65_method_124_code 7 = .ok (.invokevirtual 319, 3) := by decide +kernel
theorem d12_10 : decode jdk_65_method_124_code 10 = .ok (.checkcast 320, 3) := by decide +kernel
theorem d12_13 : decode jdk_65_method_124_code 13 = .ok (.areturn, 1) := by decide +kernel
theorem d12_14 : decode jdk_65_method_124_code 14 = .ok (.iload_n 1, 1) := by decide +kernel
theorem d12_15 : decode jdk_65_method_124_code 15 = .ok (.newarray .long, 2) := by decide +kernel
theorem d12_17 : decode jdk_65_method_124_code 17 = .ok (.astore_n 2, 1) := by decide +kernel
theorem d12_18 : decode jdk_65_method_124_code 18 = .ok (.aload_n 0, 1) := by decide +kernel
theorem d12_19 : decode jdk_65_method_124_code 19 = .ok (.iconst 0, 1) := by decide +kernel
theorem d12_20 : decode jdk_65_method_124_code 20 = .ok (.aload_n 2, 1) := by decide +kernel
theorem d12_21 : decode jdk_65_method_124_code 21 = .ok (.iconst 0, 1) := by decide +kernel
theorem d12_22 : decode jdk_65_method_124_code 22 = .ok (.aload_n 0, 1) := by decide +kernel
theorem d12_23 : decode jdk_65_method_124_code 23 = .ok (.arraylength, 1) := by decide +kernel
theorem d12_24 : decode jdk_65_method_124_code 24 = .ok (.iload_n 1, 1) := by decide +kernel
theorem d12_25 : decode jdk_65_method_124_code 25 = .ok (.invokestatic 304, 3) := by decide +kernel
theorem d12_28 : decode jdk_65_method_124_code 28 = .ok (.invokestatic 150, 3) := by decide +kernel
theorem d12_31 : decode jdk_65_method_124_code 31 = .ok (.aload_n 2, 1) := by decide +kernel
theorem d12_32 : decode jdk_65_method_124_code 32 = .ok (.areturn, 1) := by decide +kernel
theorem pd_947237 : parseMethodDescriptor "(II)I" = some ⟨[.int, .int], some .int⟩ := by decide +kernel
theorem pn_654730 : plainName "java/util/Arrays" = true := by first | (simp [plainName, overriddenIn]; done) | decide +kernel
theorem ef_rmCP (m : MethodId) (x0 : Addr) (x1 : Int32) : entryFrame m #[(.ref x0), (.int x1)] 3 = mkF m 0 #[sR x0, sI x1, sU] [] := by first | (simp [entryFrame, mkF, argsToLocals, Value.category]; done) | rfl
set_option maxRecDepth 65536 in
set_option maxHeartbeats 400000000 in
theorem rmCP (l : Launch) (Z : State) (a0 : Array Value) (hw : ∀ d ∈ tables_1, d.before a0 Z = true) (ws : List Jvm.Cond) (w_NONE : Addr) (k_NONE : ClassId) (hS : SF Z w_NONE k_NONE) (a1 : Addr) (n z : Int32) (hz0 : 0 ≤ z.toInt) (hz : z.toInt ≤ 6) (hn0 : 0 ≤ n.toInt) (hn : n.toInt ≤ 6) (h0 : Heap) (O0 : Ext Z.heap h0) (VA : AL Z h0 a1 z) :
    Con l Z h0 (⟨"java/util/Arrays", "copyOf", "([JI)[J"⟩ : MethodName) jdk_65_method_124_code 3 (some (.array .long)) ws ({ frames := 1, cells := 1, slots := 6, locals := 40 } : Room) #[(.ref a1), (.int n)] (fun v h L => (∃ b, v = some (.ref b) ∧ h0.size ≤ b ∧ AL Z h b n) ∧ Fr Z.heap.size L ∧ Keep h0 h []) := by
  obtain ⟨S_NONE, E_NONE, V_NONE⟩ := id hS
  refine own_con (plainFor_of_name pn_654730) ?_
  intro p e s m below meth c T0 X0 hx hby hml hown hnm hret hlk hZ e0
  have hown : s.vm.findClass "java/util/Arrays" = some m.cls := hown
  have N0 := Fr.nil Z.heap.size
  have KP0 : Keep h0 h0 [] := Keep.refl h0 _
  refine Go.st (S' := T0.setTop (mkF m 0 #[sR a1, sI n, sU] [])) (fun _ k => castTop (ef_rmCP m a1 n) k) ?_
  refine Go.st (S' := T0.setTop (mkF m 1 #[sR a1, sI n, sU] [(.int n)])) (fun _ k => XS.iloadN X0.here hx rfl (hb hby d12_0) rfl k) ?_
  refine Go.st (S' := T0.setTop (mkF m 2 #[sR a1, sI n, sU] [(.ref a1), (.int n)])) (fun _ k => XS.aloadN X0.here hx rfl (hb hby d12_1) rfl rfl k) ?_
  refine Go.st (S' := T0.setTop (mkF m 3 #[sR a1, sI n, sU] [(.int z), (.int n)])) (own_alenA X0 hx hZ e0 VA (g := (mkF m 2 #[sR a1, sI n, sU] [(.ref a1), (.int n)])) rfl rfl (hb hby d12_2)) ?_
  by_cases hc3 : n = z
  · refine Go.st (S' := T0.setTop (mkF m 6 #[sR a1, sI n, sU] [])) (fun _ k => XS.icmpNo X0.here hx rfl (hb hby d12_3) rfl (teq hc3).2 k) ?_
    refine Go.st (S' := T0.setTop (mkF m 7 #[sR a1, sI n, sU] [(.ref a1)])) (fun _ k => XS.aloadN X0.here hx rfl (hb hby d12_6) rfl rfl k) ?_
    obtain ⟨⟨ks16, vS16, VS16⟩, -⟩ := id VA
    obtain ⟨T16, h16, X16, e16, E16, A16, Ex16, st16⟩ := cloneH X0 hx hZ hown (ww hw 106 rfl) (ww hw 107 rfl) (ww hw 111 rfl) (ww hw 109 rfl) (ww hw 110 rfl) (ww hw 112 rfl) e0 VS16.arh VA.2 (g := (mkF m 7 #[sR a1, sI n, sU] [(.ref a1)])) rfl (by rw [hml]; rfl) rfl (hb hby d12_7) (by decide) (W := 0) (cap := 6) (by show 2 * 0 + _ ≤ _; exact Nat.le_of_eq rfl) (by decide) (own_cap hz0 hz) (by decide) (by decide)
    obtain ⟨b16, g16⟩ : ∃ z, z = h0.size := ⟨_, rfl⟩
    rw [← g16] at A16 Ex16 st16
    have gz16 : Z.heap.size ≤ b16 := Nat.le_trans O0.1 (Nat.le_of_eq g16.symm)
    have sz16 : h0.size ≤ b16 := Nat.le_trans KP0.1 (Nat.le_of_eq g16.symm)
    have ne_a1_b16 : a1 ≠ b16 := own_lt_ne VA.lt g16
    have O16 : Ext Z.heap h16 := own_Ext.trans O0 E16
    have KP16 : Keep h0 h16 [] := KP0.ext E16
    have V16 : AL Z h16 b16 n := ⟨⟨_, _, by rw [hc3]; exact own_arv A16⟩, Ex16⟩
    refine Go.st (S' := T16.setTop (mkF m 10 #[sR a1, sI n, sU] [(.ref b16)])) st16 ?_
    obtain ⟨T17, X17, e17, st17⟩ := castY X16 hx hZ hown (ww hw 113 rfl) e16 (Ins.self Ex16) (g := (mkF m 10 #[sR a1, sI n, sU] [(.ref b16)])) rfl rfl (hb hby d12_10)
    refine Go.st (S' := T17.setTop (mkF m 13 #[sR a1, sI n, sU] [(.ref b16)])) st17 ?_
    exact own_retA X17 hx hlk hret rfl rfl rfl (hb hby d12_13) e17 ⟨⟨_, rfl, sz16, V16⟩, N0, KP16⟩ (by decide) (by decide)
  · refine Go.st (S' := T0.setTop (mkF m 14 #[sR a1, sI n, sU] [])) (fun _ k => XS.icmpYes X0.here hx rfl (pc0 := 3) (pc' := 14) rfl (hb hby d12_3) rfl (feq hc3).2 (by decide) (by decide) k) ?_
    refine Go.st (S' := T0.setTop (mkF m 15 #[sR a1, sI n, sU] [(.int n)])) (fun _ k => XS.iloadN X0.here hx rfl (hb hby d12_14) rfl k) ?_
    obtain ⟨T18, h18, k18, X18, e18, E18, A18, Ea18, st18⟩ := newPE X0 hx hZ (ww hw 69 rfl) e0 (g := (mkF m 15 #[sR a1, sI n, sU] [(.int n)])) rfl (hb hby d12_15) rfl (own_pos hn0) (cap := 6) (own_cap hn0 hn) (by decide) (by decide) (by decide) (ad := "[J") (by decide)
    obtain ⟨b18, g18⟩ : ∃ z, z = h0.size := ⟨_, rfl⟩
    rw [← g18] at A18 Ea18 st18
    have gz18 : Z.heap.size ≤ b18 := Nat.le_trans O0.1 (Nat.le_of_eq g18.symm)
    have sz18 : h0.size ≤ b18 := Nat.le_trans KP0.1 (Nat.le_of_eq g18.symm)
    have ne_a1_b18 : a1 ≠ b18 := own_lt_ne VA.lt g18
    have O18 : Ext Z.heap h18 := own_Ext.trans O0 E18
    have KP18 : Keep h0 h18 [] := KP0.ext E18
    have V18 : Arv Z h18 b18 k18 .long n (List.replicate 6 (.long (0 : Int64))) (.long (0 : Int64)) := (Arv.new A18 (own_pos hn0)).pad (pad_rep [] (.long (0 : Int64)) 6)
    refine Go.st (S' := T18.setTop (mkF m 17 #[sR a1, sI n, sU] [(.ref b18)])) st18 ?_
    refine Go.st (S' := T18.setTop (mkF m 18 #[sR a1, sI n, sR b18] [])) (fun _ k => XS.astoreN X18.here hx rfl (hb hby d12_17) rfl rfl (l' := #[sR a1, sI n, sR b18]) rfl k) ?_
    refine Go.st (S' := T18.setTop (mkF m 19 #[sR a1, sI n, sR b18] [(.ref a1)])) (fun _ k => XS.aloadN X18.here hx rfl (hb hby d12_18) rfl rfl k) ?_
    refine Go.st (S' := T18.setTop (mkF m 20 #[sR a1, sI n, sR b18] [(.int (0 : Int32)), (.ref a1)])) (fun _ k => XS.iconst X18.here hx rfl (hb hby d12_19) k) ?_
    refine Go.st (S' := T18.setTop (mkF m 21 #[sR a1, sI n, sR b18] [(.ref b18), (.int (0 : Int32)), (.ref a1)])) (fun _ k => XS.aloadN X18.here hx rfl (hb hby d12_20) rfl rfl k) ?_
    refine Go.st (S' := T18.setTop (mkF m 22 #[sR a1, sI n, sR b18] [(.int (0 : Int32)), (.ref b18), (.int (0 : Int32)), (.ref a1)])) (fun _ k => XS.iconst X18.here hx rfl (hb hby d12_21) k) ?_
    refine Go.st (S' := T18.setTop (mkF m 23 #[sR a1, sI n, sR b18] [(.ref a1), (.int (0 : Int32)), (.ref b18), (.int (0 : Int32)), (.ref a1)])) (fun _ k => XS.aloadN X18.here hx rfl (hb hby d12_22) rfl rfl k) ?_
    refine Go.st (S' := T18.setTop (mkF m 24 #[sR a1, sI n, sR b18] [(.int z), (.int (0 : Int32)), (.ref b18), (.int (0 : Int32)), (.ref a1)])) (own_alenA X18 hx hZ e18 (VA.ext E18) (g := (mkF m 23 #[sR a1, sI n, sR b18] [(.ref a1), (.int (0 : Int32)), (.ref b18), (.int (0 : Int32)), (.ref a1)])) rfl rfl (hb hby d12_23)) ?_
    refine Go.st (S' := T18.setTop (mkF m 25 #[sR a1, sI n, sR b18] [(.int n), (.int z), (.int (0 : Int32)), (.ref b18), (.int (0 : Int32)), (.ref a1)])) (fun _ k => XS.iloadN X18.here hx rfl (hb hby d12_24) rfl k) ?_
    obtain ⟨_, T20, L20, X20, ⟨rfl, Nq20, eq20⟩, st20⟩ := own_callS X18 hx hZ hown (ww hw 89 rfl) (ww hw 90 rfl) (ww hw 79 rfl) (ww hw 91 rfl) (by decide) e18 (rm_minF l Z a0 hw [] w_NONE k_NONE hS z n h18 O18) 4 (by decide) (by decide) (by decide) (by decide) (g := (mkF m 25 #[sR a1, sI n, sR b18] [(.int n), (.int z), (.int (0 : Int32)), (.ref b18), (.int (0 : Int32)), (.ref a1)])) rfl (by rw [hml]; rfl) [(.int z), (.int n)] [(.int (0 : Int32)), (.ref b18), (.int (0 : Int32)), (.ref a1)] rfl (lenOf pd_947237 rfl) rfl (by show 2 * 0 + _ ≤ _; exact Nat.le_of_eq rfl) (hb hby d12_25)
    have N20 := Fr.app N0 Nq20
    refine Go.st (S' := T20.setTop (mkF m 28 #[sR a1, sI n, sR b18] [(.int (minF z n)), (.int (0 : Int32)), (.ref b18), (.int (0 : Int32)), (.ref a1)])) st20 ?_
    obtain ⟨⟨kss, vSs, VSs⟩, -⟩ := id (VA.ext E18)
    obtain ⟨T21, h21, L21, X21, e21, N21, Kc21, V21, st21⟩ := cpA X20 hx hZ hown (ww hw 92 rfl) (ww hw 84 rfl) (ww hw 82 rfl) (ww hw 83 rfl) eq20 (us := ((List.range (minF z n).toNatClampNeg).map fun i => vSs.getD ((0 : Int32).toNatClampNeg + i) (.long (0 : Int64)))) VSs V18 (Or.inl ⟨rfl, rfl⟩) (by decide) (by decide) (own_pos (own_mn hz0 hn0).1) (own_leN (own_mn hz0 hn0).1 (own_mn hz0 hn0).2.1) (own_leN (own_mn hz0 hn0).1 (own_mn hz0 hn0).2.2) rfl (own_leR (own_mn hz0 hn0).1 (Int.le_trans (own_mn hz0 hn0).2.2 hn)) N20 gz18 (g := (mkF m 28 #[sR a1, sI n, sR b18] [(.int (minF z n)), (.int (0 : Int32)), (.ref b18), (.int (0 : Int32)), (.ref a1)])) rfl (by rw [hml]; rfl) (rest := []) rfl (hb hby d12_28) (by decide) (W := 0) (by show 2 * 0 + _ ≤ _; exact Nat.le_of_eq rfl) (by decide)
    have O21 : Ext Z.heap h21 := own_Ext.keep O18 Kc21 (allS gz18 all0)
    have KP21 : Keep h0 h21 [] := KP18.trans Kc21 (allS (Or.inr sz18) all0)
    refine Go.st (S' := T21.setTop (mkF m 31 #[sR a1, sI n, sR b18] [])) st21 ?_
    refine Go.st (S' := T21.setTop (mkF m 32 #[sR a1, sI n, sR b18] [(.ref b18)])) (fun _ k => XS.aloadN X21.here hx rfl (hb hby d12_31) rfl rfl k) ?_
    exact own_retA X21 hx hlk hret rfl rfl rfl (hb hby d12_32) e21 ⟨⟨_, rfl, sz18, ⟨⟨_, _, V21⟩, (Ea18.keep Kc21)⟩⟩, N21, KP21⟩ (by decide) (by decide)
theorem d9_0 : decode prog_8_method_2_code 0 = .ok (.lload_n 3, 1) := by decide +kernel
theorem d9_1 : decode prog_8_method_2_code 1 = .ok (.aload_n 0, 1) := by decide +kernel
theorem d9_2 : decode prog_8_method_2_code 2 = .ok (.getfield 20, 3) := by decide +kernel
theorem d9_5 : decode prog_8_method_2_code 5 = .ok (.lsub, 1) := by decide +kernel
theorem d9_6 : decode prog_8_method_2_code 6 = .ok (.lconst 1, 1) := by decide +kernel
theorem d9_7 : decode prog_8_method_2_code 7 = .ok (.ladd, 1) := by decide +kernel
theorem d9_8 : decode prog_8_method_2_code 8 = .ok (.l2i, 1) := by decide +kernel
theorem d9_9 : decode prog_8_method_2_code 9 = .ok (.istore 5, 2) := by decide +kernel
theorem d9_11 : decode prog_8_method_2_code 11 = .ok (.aload_n 0, 1) := by decide +kernel
theorem d9_12 : decode prog_8_method_2_code 12 = .ok (.getfield 16, 3) := by decide +kernel
theorem d9_15 : decode prog_8_method_2_code 15 = .ok (.iload 5, 2) := by decide +kernel
theorem d9_17 : decode prog_8_method_2_code 17 = .ok (.iadd, 1) := by decide +kernel
theorem d9_18 : decode prog_8_method_2_code 18 = .ok (.istore 6, 2) := by decide +kernel
theorem d9_20 : decode prog_8_method_2_code 20 = .ok (.aload_n 0, 1) := by decide +kernel
theorem d9_21 : decode prog_8_method_2_code 21 = .ok (.getfield 7, 3) := by decide +kernel
theorem d9_24 : decode prog_8_method_2_code 24 = .ok (.astore 7, 2) := by decide +kernel
theorem d9_26 : decode prog_8_method_2_code 26 = .ok (.aload_n 0, 1) := by decide +kernel
theorem d9_27 : decode prog_8_method_2_code 27 = .ok (.getfield 13, 3) := by decide +kernel
theorem d9_30 : decode prog_8_method_2_code 30 = .ok (.astore 8, 2) := by decide +kernel
theorem d9_32 : decode prog_8_method_2_code 32 = .ok (.iload 6, 2) := by decide +kernel
theorem d9_34 : decode prog_8_method_2_code 34 = .ok (.aload 7, 2) := by decide +kernel
theorem d9_36 : decode prog_8_method_2_code 36 = .ok (.arraylength, 1) := by decide +kernel
theorem d9_37 : decode prog_8_method_2_code 37 = .ok (.if_icmp .le 33, 3) := by decide +kernel
theorem d9_70 : decode prog_8_method_2_code 70 = .ok (.iconst 0, 1) := by decide +kernel
theorem d9_71 : decode prog_8_method_2_code 71 = .ok (.istore 9, 2) := by decide +kernel
theorem d9_73 : decode prog_8_method_2_code 73 = .ok (.iload 9, 2) := by decide +kernel
theorem d9_75 : decode prog_8_method_2_code 75 = .ok (.iload 5, 2) := by decide +kernel
theorem d9_77 : decode prog_8_method_2_code 77 = .ok (.if_icmp .ge 44, 3) := by decide +kernel
theorem d9_121 : decode prog_8_method_2_code 121 = .ok (.new 8, 3) := by decide +kernel
theorem d9_124 : decode prog_8_method_2_code 124 = .ok (.dup, 1) := by decide +kernel
theorem d9_125 : decode prog_8_method_2_code 125 = .ok (.aload 7, 2) := by decide +kernel
theorem d9_127 : decode prog_8_method_2_code 127 = .ok (.aload 8, 2) := by decide +kernel
theorem d9_129 : decode prog_8_method_2_code 129 = .ok (.iload 6, 2) := by decide +kernel
theorem d9_131 : decode prog_8_method_2_code 131 = .ok (.lload_n 1, 1) := by decide +kernel
theorem d9_132 : decode prog_8_method_2_code 132 = .ok (.iconst 1, 1) := by decide +kernel
theorem d9_133 : decode prog_8_method_2_code 133 = .ok (.newarray .long, 2) := by decide +kernel
theorem d9_135 : decode prog_8_method_2_code 135 = .ok (.invokespecial 39, 3) := by decide +kernel
theorem d9_138 : decode prog_8_method_2_code 138 = .ok (.areturn, 1) := by decide +kernel
theorem ef_rmOT0 (m : MethodId) (x0 : Addr) (x1 : Int64) (x2 : Int64) : entryFrame m #[(.ref x0), (.long x1), (.long x2)] 10 = mkF m 0 #[sR x0, sJ x1, sS, sJ x2, sS, sU, sU, sU, sU, sU] [] := by first | (simp [entryFrame, mkF, argsToLocals, Value.category]; done) | rfl
set_option maxRecDepth 65536 in
set_option maxHeartbeats 400000000 in
theorem rmOT0 (l : Launch) (Z : State) (a0 : Array Value) (hw : ∀ d ∈ tables_1, d.before a0 Z = true) (ws : List Jvm.Cond) (w_NONE : Addr) (k_NONE : ClassId) (hS : SF Z w_NONE k_NONE) (a1 : Addr) (q2 : Int64) (h0 : Heap) (O0 : Ext Z.heap h0) (EA : Exa Z h0 a1 "com/example/palimpsest/palimpsest/CommitTimes$Layout") (F_olderTimestamps : Fld Z h0 a1 "com/example/palimpsest/palimpsest/CommitTimes$Layout" "olderTimestamps" "[J" (.ref w_NONE)) (F_olderTimes : Fld Z h0 a1 "com/example/palimpsest/palimpsest/CommitTimes$Layout" "olderTimes" "[J" (.ref w_NONE)) (F_olderCount : Fld Z h0 a1 "com/example/palimpsest/palimpsest/CommitTimes$Layout" "olderCount" "I" (.int (0 : Int32))) (F_floor : Fld Z h0 a1 "com/example/palimpsest/palimpsest/CommitTimes$Layout" "floor" "J" (.long (1 : Int64))) (F_slots : Fld Z h0 a1 "com/example/palimpsest/palimpsest/CommitTimes$Layout" "slots" "[J" (.ref w_NONE)) :
    Con l Z h0 (⟨"com/example/palimpsest/palimpsest/CommitTimes$Layout", "olderThan", "(JJ)Lcom/example/palimpsest/palimpsest/CommitTimes$Layout;"⟩ : MethodName) prog_8_method_2_code 10 (some (.object "com/example/palimpsest/palimpsest/CommitTimes$Layout")) ws ({ frames := 3, cells := 2, slots := 6, locals := 60 } : Room) #[(.ref a1), (.long q2), (.long (0 : Int64))] (fun v h L => (∃ ly sa, v = some (.ref ly) ∧ h0.size ≤ ly ∧ h0.size ≤ sa ∧ ly ≠ sa ∧ Exa Z h ly "com/example/palimpsest/palimpsest/CommitTimes$Layout" ∧ Fld Z h ly "com/example/palimpsest/palimpsest/CommitTimes$Layout" "olderTimestamps" "[J" (.ref w_NONE) ∧ Fld Z h ly "com/example/palimpsest/palimpsest/CommitTimes$Layout" "olderTimes" "[J" (.ref w_NONE) ∧ Fld Z h ly "com/example/palimpsest/palimpsest/CommitTimes$Layout" "olderCount" "I" (.int (0 : Int32)) ∧ Fld Z h ly "com/example/palimpsest/palimpsest/CommitTimes$Layout" "floor" "J" (.long q2) ∧ Fld Z h ly "com/example/palimpsest/palimpsest/CommitTimes$Layout" "slots" "[J" (.ref sa) ∧ AL Z h sa (1 : Int32)) ∧ Fr Z.heap.size L ∧ Keep h0 h []) := by
  obtain ⟨S_NONE, E_NONE, V_NONE⟩ := id hS
  refine own_con (plainFor_of_name pn_938991) ?_
  intro p e s m below meth c T0 X0 hx hby hml hown hnm hret hlk hZ e0
  have hown : s.vm.findClass "com/example/palimpsest/palimpsest/CommitTimes$Layout" = some m.cls := hown
  have N0 := Fr.nil Z.heap.size
  have KP0 : Keep h0 h0 [] := Keep.refl h0 _
  refine Go.st (S' := T0.setTop (mkF m 0 #[sR a1, sJ q2, sS, sJ 0, sS, sU, sU, sU, sU, sU] [])) (fun _ k => castTop (ef_rmOT0 m a1 q2 (0 : Int64)) k) ?_
  refine Go.st (S' := T0.setTop (mkF m 1 #[sR a1, sJ q2, sS, sJ 0, sS, sU, sU, sU, sU, sU] [(.long (0 : Int64))])) (fun _ k => XS.lloadN X0.here hx rfl (hb hby d9_0) rfl k) ?_
  refine Go.st (S' := T0.setTop (mkF m 2 #[sR a1, sJ q2, sS, sJ 0, sS, sU, sU, sU, sU, sU] [(.ref a1), (.long (0 : Int64))])) (fun _ k => XS.aloadN X0.here hx rfl (hb hby d9_1) rfl rfl k) ?_
  obtain ⟨T22, X22, e22, st22⟩ := getF X0 hx hZ hown (host := "") (Or.inl (ww hw 31 rfl)) Via.refl e0 F_floor (g := (mkF m 2 #[sR a1, sJ q2, sS, sJ 0, sS, sU, sU, sU, sU, sU] [(.ref a1), (.long (0 : Int64))])) rfl rfl (hb hby d9_2)
  refine Go.st (S' := T22.setTop (mkF m 5 #[sR a1, sJ q2, sS, sJ 0, sS, sU, sU, sU, sU, sU] [(.long (1 : Int64)), (.long (0 : Int64))])) st22 ?_
  refine Go.st (S' := T22.setTop (mkF m 6 #[sR a1, sJ q2, sS, sJ 0, sS, sU, sU, sU, sU, sU] [(.long (-1 : Int64))])) (fun _ k => XS.lsub X22.here hx rfl (hb hby d9_5) rfl k) ?_
  refine Go.st (S' := T22.setTop (mkF m 7 #[sR a1, sJ q2, sS, sJ 0, sS, sU, sU, sU, sU, sU] [(.long (1 : Int64)), (.long (-1 : Int64))])) (fun _ k => XS.lconst X22.here hx rfl (hb hby d9_6) k) ?_
  refine Go.st (S' := T22.setTop (mkF m 8 #[sR a1, sJ q2, sS, sJ 0, sS, sU, sU, sU, sU, sU] [(.long (0 : Int64))])) (fun _ k => XS.ladd X22.here hx rfl (hb hby d9_7) rfl k) ?_
  refine Go.st (S' := T22.setTop (mkF m 9 #[sR a1, sJ q2, sS, sJ 0, sS, sU, sU, sU, sU, sU] [(.int (0 : Int32))])) (fun _ k => XS.l2i X22.here hx rfl (hb hby d9_8) rfl k) ?_
  refine Go.st (S' := T22.setTop (mkF m 11 #[sR a1, sJ q2, sS, sJ 0, sS, sI 0, sU, sU, sU, sU] [])) (fun _ k => XS.istore X22.here hx rfl (hb hby d9_9) rfl (l' := #[sR a1, sJ q2, sS, sJ 0, sS, sI 0, sU, sU, sU, sU]) rfl k) ?_
  refine Go.st (S' := T22.setTop (mkF m 12 #[sR a1, sJ q2, sS, sJ 0, sS, sI 0, sU, sU, sU, sU] [(.ref a1)])) (fun _ k => XS.aloadN X22.here hx rfl (hb hby d9_11) rfl rfl k) ?_
  obtain ⟨T23, X23, e23, st23⟩ := getF X22 hx hZ hown (host := "") (Or.inl (ww hw 29 rfl)) Via.refl e22 F_olderCount (g := (mkF m 12 #[sR a1, sJ q2, sS, sJ 0, sS, sI 0, sU, sU, sU, sU] [(.ref a1)])) rfl rfl (hb hby d9_12)
  refine Go.st (S' := T23.setTop (mkF m 15 #[sR a1, sJ q2, sS, sJ 0, sS, sI 0, sU, sU, sU, sU] [(.int (0 : Int32))])) st23 ?_
  refine Go.st (S' := T23.setTop (mkF m 17 #[sR a1, sJ q2, sS, sJ 0, sS, sI 0, sU, sU, sU, sU] [(.int (0 : Int32)), (.int (0 : Int32))])) (fun _ k => XS.iload X23.here hx rfl (hb hby d9_15) rfl k) ?_
  refine Go.st (S' := T23.setTop (mkF m 18 #[sR a1, sJ q2, sS, sJ 0, sS, sI 0, sU, sU, sU, sU] [(.int (0 : Int32))])) (fun _ k => XS.iadd X23.here hx rfl (hb hby d9_17) rfl k) ?_
  refine Go.st (S' := T23.setTop (mkF m 20 #[sR a1, sJ q2, sS, sJ 0, sS, sI 0, sI 0, sU, sU, sU] [])) (fun _ k => XS.istore X23.here hx rfl (hb hby d9_18) rfl (l' := #[sR a1, sJ q2, sS, sJ 0, sS, sI 0, sI 0, sU, sU, sU]) rfl k) ?_
  refine Go.st (S' := T23.setTop (mkF m 21 #[sR a1, sJ q2, sS, sJ 0, sS, sI 0, sI 0, sU, sU, sU] [(.ref a1)])) (fun _ k => XS.aloadN X23.here hx rfl (hb hby d9_20) rfl rfl k) ?_
  obtain ⟨T24, X24, e24, st24⟩ := getF X23 hx hZ hown (host := "") (Or.inl (ww hw 25 rfl)) Via.refl e23 F_olderTimestamps (g := (mkF m 21 #[sR a1, sJ q2, sS, sJ 0, sS, sI 0, sI 0, sU, sU, sU] [(.ref a1)])) rfl rfl (hb hby d9_21)
  refine Go.st (S' := T24.setTop (mkF m 24 #[sR a1, sJ q2, sS, sJ 0, sS, sI 0, sI 0, sU, sU, sU] [(.ref w_NONE)])) st24 ?_
  refine Go.st (S' := T24.setTop (mkF m 26 #[sR a1, sJ q2, sS, sJ 0, sS, sI 0, sI 0, sR w_NONE, sU, sU] [])) (fun _ k => XS.astore X24.here hx rfl (hb hby d9_24) rfl rfl (l' := #[sR a1, sJ q2, sS, sJ 0, sS, sI 0, sI 0, sR w_NONE, sU, sU]) rfl k) ?_
  refine Go.st (S' := T24.setTop (mkF m 27 #[sR a1, sJ q2, sS, sJ 0, sS, sI 0, sI 0, sR w_NONE, sU, sU] [(.ref a1)])) (fun _ k => XS.aloadN X24.here hx rfl (hb hby d9_26) rfl rfl k) ?_
  obtain ⟨T25, X25, e25, st25⟩ := getF X24 hx hZ hown (host := "") (Or.inl (ww hw 27 rfl)) Via.refl e24 F_olderTimes (g := (mkF m 27 #[sR a1, sJ q2, sS, sJ 0, sS, sI 0, sI 0, sR w_NONE, sU, sU] [(.ref a1)])) rfl rfl (hb hby d9_27)
  refine Go.st (S' := T25.setTop (mkF m 30 #[sR a1, sJ q2, sS, sJ 0, sS, sI 0, sI 0, sR w_NONE, sU, sU] [(.ref w_NONE)])) st25 ?_
  refine Go.st (S' := T25.setTop (mkF m 32 #[sR a1, sJ q2, sS, sJ 0, sS, sI 0, sI 0, sR w_NONE, sR w_NONE, sU] [])) (fun _ k => XS.astore X25.here hx rfl (hb hby d9_30) rfl rfl (l' := #[sR a1, sJ q2, sS, sJ 0, sS, sI 0, sI 0, sR w_NONE, sR w_NONE, sU]) rfl k) ?_
  refine Go.st (S' := T25.setTop (mkF m 34 #[sR a1, sJ q2, sS, sJ 0, sS, sI 0, sI 0, sR w_NONE, sR w_NONE, sU] [(.int (0 : Int32))])) (fun _ k => XS.iload X25.here hx rfl (hb hby d9_32) rfl k) ?_
  refine Go.st (S' := T25.setTop (mkF m 36 #[sR a1, sJ q2, sS, sJ 0, sS, sI 0, sI 0, sR w_NONE, sR w_NONE, sU] [(.ref w_NONE), (.int (0 : Int32))])) (fun _ k => XS.aload X25.here hx rfl (hb hby d9_34) rfl rfl k) ?_
  refine Go.st (S' := T25.setTop (mkF m 37 #[sR a1, sJ q2, sS, sJ 0, sS, sI 0, sI 0, sR w_NONE, sR w_NONE, sU] [(.int (0 : Int32)), (.int (0 : Int32))])) (own_alen X25 hx hZ e25 (V_NONE.ext O0) (g := (mkF m 36 #[sR a1, sJ q2, sS, sJ 0, sS, sI 0, sI 0, sR w_NONE, sR w_NONE, sU] [(.ref w_NONE), (.int (0 : Int32))])) rfl rfl (hb hby d9_36)) ?_
  refine Go.st (S' := T25.setTop (mkF m 70 #[sR a1, sJ q2, sS, sJ 0, sS, sI 0, sI 0, sR w_NONE, sR w_NONE, sU] [])) (fun _ k => XS.icmpYes X25.here hx rfl (pc0 := 37) (pc' := 70) rfl (hb hby d9_37) rfl (flt (by decide)).2.2.2 (by decide) (by decide) k) ?_
  refine Go.st (S' := T25.setTop (mkF m 71 #[sR a1, sJ q2, sS, sJ 0, sS, sI 0, sI 0, sR w_NONE, sR w_NONE, sU] [(.int (0 : Int32))])) (fun _ k => XS.iconst X25.here hx rfl (hb hby d9_70) k) ?_
  refine Go.st (S' := T25.setTop (mkF m 73 #[sR a1, sJ q2, sS, sJ 0, sS, sI 0, sI 0, sR w_NONE, sR w_NONE, sI 0] [])) (fun _ k => XS.istore X25.here hx rfl (hb hby d9_71) rfl (l' := #[sR a1, sJ q2, sS, sJ 0, sS, sI 0, sI 0, sR w_NONE, sR w_NONE, sI 0]) rfl k) ?_
  refine Go.st (S' := T25.setTop (mkF m 75 #[sR a1, sJ q2, sS, sJ 0, sS, sI 0, sI 0, sR w_NONE, sR w_NONE, sI 0] [(.int (0 : Int32))])) (fun _ k => XS.iload X25.here hx rfl (hb hby d9_73) rfl k) ?_
  refine Go.st (S' := T25.setTop (mkF m 77 #[sR a1, sJ q2, sS, sJ 0, sS, sI 0, sI 0, sR w_NONE, sR w_NONE, sI 0] [(.int (0 : Int32)), (.int (0 : Int32))])) (fun _ k => XS.iload X25.here hx rfl (hb hby d9_75) rfl k) ?_
  refine Go.st (S' := T25.setTop (mkF m 121 #[sR a1, sJ q2, sS, sJ 0, sS, sI 0, sI 0, sR w_NONE, sR w_NONE, sI 0] [])) (fun _ k => XS.icmpYes X25.here hx rfl (pc0 := 77) (pc' := 121) rfl (hb hby d9_77) rfl (flt (by decide)).2.1 (by decide) (by decide) k) ?_
  obtain ⟨T27, h27, X27, e27, E27, A27, D27, -, st27⟩ := newO X25 hx hZ hown (ww hw 68 rfl) (ww hw 12 rfl) (ww hw 13 rfl) e25 (g := (mkF m 121 #[sR a1, sJ q2, sS, sJ 0, sS, sI 0, sI 0, sR w_NONE, sR w_NONE, sI 0] [])) rfl (hb hby d9_121) (by decide) (by decide)
  obtain ⟨b27, g27⟩ : ∃ z, z = h0.size := ⟨_, rfl⟩
  rw [← g27] at A27 D27 st27
  have gz27 : Z.heap.size ≤ b27 := Nat.le_trans O0.1 (Nat.le_of_eq g27.symm)
  have sz27 : h0.size ≤ b27 := Nat.le_trans KP0.1 (Nat.le_of_eq g27.symm)
  have ne_a1_b27 : a1 ≠ b27 := own_lt_ne F_olderTimestamps.lt g27
  have O27 : Ext Z.heap h27 := own_Ext.trans O0 E27
  have KP27 : Keep h0 h27 [] := KP0.ext E27
  have F27_olderTimestamps : Fld Z h27 b27 "com/example/palimpsest/palimpsest/CommitTimes$Layout" "olderTimestamps" "[J" .null := D27 (Or.inr (ww hw 26 rfl)) (ty := (.array .long)) pf_132122
  have F27_olderTimes : Fld Z h27 b27 "com/example/palimpsest/palimpsest/CommitTimes$Layout" "olderTimes" "[J" .null := D27 (Or.inr (ww hw 28 rfl)) (ty := (.array .long)) pf_132122
  have F27_olderCount : Fld Z h27 b27 "com/example/palimpsest/palimpsest/CommitTimes$Layout" "olderCount" "I" (.int (0 : Int32)) := D27 (Or.inr (ww hw 30 rfl)) (ty := .int) pf_990
  have F27_floor : Fld Z h27 b27 "com/example/palimpsest/palimpsest/CommitTimes$Layout" "floor" "J" (.long (0 : Int64)) := D27 (Or.inr (ww hw 32 rfl)) (ty := .long) pf_991
  have F27_slots : Fld Z h27 b27 "com/example/palimpsest/palimpsest/CommitTimes$Layout" "slots" "[J" .null := D27 (Or.inr (ww hw 34 rfl)) (ty := (.array .long)) pf_132122
  refine Go.st (S' := T27.setTop (mkF m 124 #[sR a1, sJ q2, sS, sJ 0, sS, sI 0, sI 0, sR w_NONE, sR w_NONE, sI 0] [(.ref b27)])) st27 ?_
  refine Go.st (S' := T27.setTop (mkF m 125 #[sR a1, sJ q2, sS, sJ 0, sS, sI 0, sI 0, sR w_NONE, sR w_NONE, sI 0] [(.ref b27), (.ref b27)])) (fun _ k => XS.dup X27.here hx rfl (hb hby d9_124) rfl rfl k) ?_
  refine Go.st (S' := T27.setTop (mkF m 127 #[sR a1, sJ q2, sS, sJ 0, sS, sI 0, sI 0, sR w_NONE, sR w_NONE, sI 0] [(.ref w_NONE), (.ref b27), (.ref b27)])) (fun _ k => XS.aload X27.here hx rfl (hb hby d9_125) rfl rfl k) ?_
  refine Go.st (S' := T27.setTop (mkF m 129 #[sR a1, sJ q2, sS, sJ 0, sS, sI 0, sI 0, sR w_NONE, sR w_NONE, sI 0] [(.ref w_NONE), (.ref w_NONE), (.ref b27), (.ref b27)])) (fun _ k => XS.aload X27.here hx rfl (hb hby d9_127) rfl rfl k) ?_
  refine Go.st (S' := T27.setTop (mkF m 131 #[sR a1, sJ q2, sS, sJ 0, sS, sI 0, sI 0, sR w_NONE, sR w_NONE, sI 0] [(.int (0 : Int32)), (.ref w_NONE), (.ref w_NONE), (.ref b27), (.ref b27)])) (fun _ k => XS.iload X27.here hx rfl (hb hby d9_129) rfl k) ?_
  refine Go.st (S' := T27.setTop (mkF m 132 #[sR a1, sJ q2, sS, sJ 0, sS, sI 0, sI 0, sR w_NONE, sR w_NONE, sI 0] [(.long q2), (.int (0 : Int32)), (.ref w_NONE), (.ref w_NONE), (.ref b27), (.ref b27)])) (fun _ k => XS.lloadN X27.here hx rfl (hb hby d9_131) rfl k) ?_
  refine Go.st (S' := T27.setTop (mkF m 133 #[sR a1, sJ q2, sS, sJ 0, sS, sI 0, sI 0, sR w_NONE, sR w_NONE, sI 0] [(.int (1 : Int32)), (.long q2), (.int (0 : Int32)), (.ref w_NONE), (.ref w_NONE), (.ref b27), (.ref b27)])) (fun _ k => XS.iconst X27.here hx rfl (hb hby d9_132) k) ?_
  obtain ⟨T28, h28, k28, X28, e28, E28, A28, Ea28, st28⟩ := newPE X27 hx hZ (ww hw 69 rfl) e27 (g := (mkF m 133 #[sR a1, sJ q2, sS, sJ 0, sS, sI 0, sI 0, sR w_NONE, sR w_NONE, sI 0] [(.int (1 : Int32)), (.long q2), (.int (0 : Int32)), (.ref w_NONE), (.ref w_NONE), (.ref b27), (.ref b27)])) rfl (hb hby d9_133) rfl (by decide) (cap := 1) (by decide) (by decide) (by decide) (by decide) (ad := "[J") (by decide)
  obtain ⟨b28, g28⟩ : ∃ z, z = h27.size := ⟨_, rfl⟩
  rw [← g28] at A28 Ea28 st28
  have gz28 : Z.heap.size ≤ b28 := Nat.le_trans O27.1 (Nat.le_of_eq g28.symm)
  have sz28 : h0.size ≤ b28 := Nat.le_trans KP27.1 (Nat.le_of_eq g28.symm)
  have ne_a1_b28 : a1 ≠ b28 := own_lt_ne (F_olderTimestamps.ext E27).lt g28
  have ne_b27_b28 : b27 ≠ b28 := own_lt_ne A27.lt g28
  have O28 : Ext Z.heap h28 := own_Ext.trans O27 E28
  have KP28 : Keep h0 h28 [] := KP27.ext E28
  have V28 : Arv Z h28 b28 k28 .long (1 : Int32) [(.long (0 : Int64))] (.long (0 : Int64)) := (Arv.new A28 (by decide)).pad (pad_rep [] (.long (0 : Int64)) 1)
  refine Go.st (S' := T28.setTop (mkF m 135 #[sR a1, sJ q2, sS, sJ 0, sS, sI 0, sI 0, sR w_NONE, sR w_NONE, sI 0] [(.ref b28), (.long q2), (.int (0 : Int32)), (.ref w_NONE), (.ref w_NONE), (.ref b27), (.ref b27)])) st28 ?_
  obtain ⟨_, T29, L29, X29, ⟨rfl, Nq29, kp29, folderTimestamps29, folderTimes29, folderCount29, ffloor29, fslots29⟩, st29⟩ := own_callI X28 hx hZ rfl hown (ww hw 70 rfl) (ww hw 17 rfl) (ww hw 13 rfl) (ww hw 18 rfl) (by decide) e28 (rmLY l Z a0 hw [] w_NONE k_NONE hS b27 w_NONE w_NONE (0 : Int32) q2 b28 h28 O28 gz27 (A27.ext E28) (F27_olderTimestamps.ext E28) (F27_olderTimes.ext E28) (F27_olderCount.ext E28) (F27_floor.ext E28) (F27_slots.ext E28)) 1 (by decide) (by decide) (by decide) (by decide) (g := (mkF m 135 #[sR a1, sJ q2, sS, sJ 0, sS, sI 0, sI 0, sR w_NONE, sR w_NONE, sI 0] [(.ref b28), (.long q2), (.int (0 : Int32)), (.ref w_NONE), (.ref w_NONE), (.ref b27), (.ref b27)])) rfl (by rw [hml]; rfl) [(.ref w_NONE), (.ref w_NONE), (.int (0 : Int32)), (.long q2), (.ref b28)] [(.ref b27)] rfl (lenOf pd_950621 rfl) rfl (by show 2 * 0 + _ ≤ _; exact Nat.le_of_eq rfl) (hb hby d9_135)
  have N29 := Fr.app N0 Nq29
  have O29 : Ext Z.heap T29.heap := own_Ext.keep O28 kp29 (allS gz27 all0)
  have KP29 : Keep h0 T29.heap [] := KP28.trans kp29 (allS (Or.inr sz27) all0)
  refine Go.st (S' := T29.setTop (mkF m 138 #[sR a1, sJ q2, sS, sJ 0, sS, sI 0, sI 0, sR w_NONE, sR w_NONE, sI 0] [(.ref b27)])) st29 ?_
  exact own_retA X29 hx hlk hret rfl rfl rfl (hb hby d9_138) rfl ⟨⟨_, _, rfl, sz27, sz28, ne_b27_b28, ((A27.ext E28).keep kp29), folderTimestamps29, folderTimes29, folderCount29, ffloor29, fslots29, ⟨⟨_, _, (V28.keep kp29 (ninS (Ne.symm ne_b27_b28) nin0))⟩, (Ea28.keep kp29)⟩⟩, N29, KP29⟩ (by decide) (by decide)
theorem own_nl {oc ol cn nl : Int32} (hnl : nl = maxF (oc + cn) ((2 : Int32) * ol)) (hc1 : 1 ≤ cn.toInt) (hc3 : cn.toInt ≤ 3) (ho0 : 0 ≤ oc.toInt) (hoc : oc.toInt ≤ ol.toInt) (hol : ol.toInt ≤ 3) (hgr : ol.toInt < oc.toInt + cn.toInt) : (oc + cn).toInt = oc.toInt + cn.toInt ∧ 0 ≤ nl.toInt ∧ nl.toInt ≤ 6 ∧ oc.toInt + cn.toInt ≤ nl.toInt ∧ ol < oc + cn := by
  have e1 := own_plus (x := oc) (y := cn) (by omega) (by omega) (by omega) (by omega)
  have e2 := own_two (x := ol) (by omega) (by omega)
  have e3 := own_mxc (x := oc + cn) (y := (2 : Int32) * ol)
  rw [← hnl] at e3
  refine ⟨e1, by omega, by omega, by omega, ?_⟩
  rw [Int32.lt_iff_toInt_lt]; omega
theorem d9_40 : decode prog_8_method_2_code 40 = .ok (.iload 6, 2) := by decide +kernel
theorem d9_42 : decode prog_8_method_2_code 42 = .ok (.iconst 2, 1) := by decide +kernel
theorem d9_43 : decode prog_8_method_2_code 43 = .ok (.aload 7, 2) := by decide +kernel
theorem d9_45 : decode prog_8_method_2_code 45 = .ok (.arraylength, 1) := by decide +kernel
theorem d9_46 : decode prog_8_method_2_code 46 = .ok (.imul, 1) := by decide +kernel
theorem d9_47 : decode prog_8_method_2_code 47 = .ok (.invokestatic 27, 3) := by decide +kernel
theorem d9_50 : decode prog_8_method_2_code 50 = .ok (.istore 9, 2) := by decide +kernel
theorem d9_52 : decode prog_8_method_2_code 52 = .ok (.aload 7, 2) := by decide +kernel
theorem d9_54 : decode prog_8_method_2_code 54 = .ok (.iload 9, 2) := by decide +kernel
theorem d9_56 : decode prog_8_method_2_code 56 = .ok (.invokestatic 33, 3) := by decide +kernel
theorem d9_59 : decode prog_8_method_2_code 59 = .ok (.astore 7, 2) := by decide +kernel
theorem d9_61 : decode prog_8_method_2_code 61 = .ok (.aload 8, 2) := by decide +kernel
theorem d9_63 : decode prog_8_method_2_code 63 = .ok (.iload 9, 2) := by decide +kernel
theorem d9_65 : decode prog_8_method_2_code 65 = .ok (.invokestatic 33, 3) := by decide +kernel
theorem d9_68 : decode prog_8_method_2_code 68 = .ok (.astore 8, 2) := by decide +kernel
theorem d9_80 : decode prog_8_method_2_code 80 = .ok (.aload 7, 2) := by decide +kernel
theorem d9_82 : decode prog_8_method_2_code 82 = .ok (.aload_n 0, 1) := by decide +kernel
theorem d9_83 : decode prog_8_method_2_code 83 = .ok (.getfield 16, 3) := by decide +kernel
theorem d9_86 : decode prog_8_method_2_code 86 = .ok (.iload 9, 2) := by decide +kernel
theorem d9_88 : decode prog_8_method_2_code 88 = .ok (.iadd, 1) := by decide +kernel
theorem d9_89 : decode prog_8_method_2_code 89 = .ok (.aload_n 0, 1) := by decide +kernel
theorem d9_90 : decode prog_8_method_2_code 90 = .ok (.getfield 20, 3) := by decide +kernel
theorem d9_93 : decode prog_8_method_2_code 93 = .ok (.iload 9, 2) := by decide +kernel
theorem d9_95 : decode prog_8_method_2_code 95 = .ok (.i2l, 1) := by decide +kernel
theorem d9_96 : decode prog_8_method_2_code 96 = .ok (.ladd, 1) := by decide +kernel
theorem d9_97 : decode prog_8_method_2_code 97 = .ok (.lastore, 1) := by decide +kernel
theorem d9_98 : decode prog_8_method_2_code 98 = .ok (.aload 8, 2) := by decide +kernel
theorem d9_100 : decode prog_8_method_2_code 100 = .ok (.aload_n 0, 1) := by decide +kernel
theorem d9_101 : decode prog_8_method_2_code 101 = .ok (.getfield 16, 3) := by decide +kernel
theorem d9_104 : decode prog_8_method_2_code 104 = .ok (.iload 9, 2) := by decide +kernel
theorem d9_106 : decode prog_8_method_2_code 106 = .ok (.iadd, 1) := by decide +kernel
theorem d9_107 : decode prog_8_method_2_code 107 = .ok (.aload_n 0, 1) := by decide +kernel
theorem d9_108 : decode prog_8_method_2_code 108 = .ok (.getfield 24, 3) := by decide +kernel
theorem d9_111 : decode prog_8_method_2_code 111 = .ok (.iload 9, 2) := by decide +kernel
theorem d9_113 : decode prog_8_method_2_code 113 = .ok (.laload, 1) := by decide +kernel
theorem d9_114 : decode prog_8_method_2_code 114 = .ok (.lastore, 1) := by decide +kernel
theorem d9_115 : decode prog_8_method_2_code 115 = .ok (.iinc 9 1, 3) := by decide +kernel
theorem d9_118 : decode prog_8_method_2_code 118 = .ok (.goto (-45), 3) := by decide +kernel
theorem pd_116401 : parseMethodDescriptor "([JI)[J" = some ⟨[(.array .long), .int], some (.array .long)⟩ := by decide +kernel
theorem ef_rmOT (m : MethodId) (x0 : Addr) (x1 : Int64) (x2 : Int64) : entryFrame m #[(.ref x0), (.long x1), (.long x2)] 10 = mkF m 0 #[sR x0, sJ x1, sS, sJ x2, sS, sU, sU, sU, sU, sU] [] := by first | (simp [entryFrame, mkF, argsToLocals, Value.category]; done) | rfl
set_option maxRecDepth 65536 in
set_option maxHeartbeats 400000000 in
theorem rmOT (l : Launch) (Z : State) (a0 : Array Value) (hw : ∀ d ∈ tables_1, d.before a0 Z = true) (ws : List Jvm.Cond) (w_NONE : Addr) (k_NONE : ClassId) (hS : SF Z w_NONE k_NONE) (a1 : Addr) (q2 nw fl : Int64) (oc ol cn sz nl : Int32) (sa ta ma : Addr) (hcn : (nw - fl) + (1 : Int64) = cn.toInt64) (hc1 : 1 ≤ cn.toInt) (hc3 : cn.toInt ≤ 3) (hsz : cn.toInt ≤ sz.toInt) (ho0 : 0 ≤ oc.toInt) (hoc : oc.toInt ≤ ol.toInt) (hol : ol.toInt ≤ 3) (hgr : ol.toInt < oc.toInt + cn.toInt) (hnl : nl = maxF (oc + cn) ((2 : Int32) * ol)) (h0 : Heap) (O0 : Ext Z.heap h0) (EA : Exa Z h0 a1 "com/example/palimpsest/palimpsest/CommitTimes$Layout") (F_olderTimestamps : Fld Z h0 a1 "com/example/palimpsest/palimpsest/CommitTimes$Layout" "olderTimestamps" "[J" (.ref ta)) (F_olderTimes : Fld Z h0 a1 "com/example/palimpsest/palimpsest/CommitTimes$Layout" "olderTimes" "[J" (.ref ma)) (F_olderCount : Fld Z h0 a1 "com/example/palimpsest/palimpsest/CommitTimes$Layout" "olderCount" "I" (.int oc)) (F_floor : Fld Z h0 a1 "com/example/palimpsest/palimpsest/CommitTimes$Layout" "floor" "J" (.long fl)) (F_slots : Fld Z h0 a1 "com/example/palimpsest/palimpsest/CommitTimes$Layout" "slots" "[J" (.ref sa)) (A_ta : AL Z h0 ta ol) (A_ma : AL Z h0 ma ol) (A_sa : AL Z h0 sa sz) :
    Con l Z h0 (⟨"com/example/palimpsest/palimpsest/CommitTimes$Layout", "olderThan", "(JJ)Lcom/example/palimpsest/palimpsest/CommitTimes$Layout;"⟩ : MethodName) prog_8_method_2_code 10 (some (.object "com/example/palimpsest/palimpsest/CommitTimes$Layout")) ws ({ frames := 3, cells := 4, slots := 18, locals := 60 } : Room) #[(.ref a1), (.long q2), (.long nw)] (fun v h L => (∃ ly sa ta ma, v = some (.ref ly) ∧ h0.size ≤ ly ∧ h0.size ≤ sa ∧ h0.size ≤ ta ∧ h0.size ≤ ma ∧ ly ≠ sa ∧ ta ≠ sa ∧ ma ≠ sa ∧ Exa Z h ly "com/example/palimpsest/palimpsest/CommitTimes$Layout" ∧ Fld Z h ly "com/example/palimpsest/palimpsest/CommitTimes$Layout" "olderTimestamps" "[J" (.ref ta) ∧ Fld Z h ly "com/example/palimpsest/palimpsest/CommitTimes$Layout" "olderTimes" "[J" (.ref ma) ∧ Fld Z h ly "com/example/palimpsest/palimpsest/CommitTimes$Layout" "olderCount" "I" (.int (oc + cn)) ∧ Fld Z h ly "com/example/palimpsest/palimpsest/CommitTimes$Layout" "floor" "J" (.long q2) ∧ Fld Z h ly "com/example/palimpsest/palimpsest/CommitTimes$Layout" "slots" "[J" (.ref sa) ∧ AL Z h sa (1 : Int32) ∧ AL Z h ta nl ∧ AL Z h ma nl) ∧ Fr Z.heap.size L ∧ Keep h0 h []) := by
  obtain ⟨S_NONE, E_NONE, V_NONE⟩ := id hS
  refine own_con (plainFor_of_name pn_938991) ?_
  intro p e s m below meth c T0 X0 hx hby hml hown hnm hret hlk hZ e0
  have hown : s.vm.findClass "com/example/palimpsest/palimpsest/CommitTimes$Layout" = some m.cls := hown
  have N0 := Fr.nil Z.heap.size
  have KP0 : Keep h0 h0 [] := Keep.refl h0 _
  refine Go.st (S' := T0.setTop (mkF m 0 #[sR a1, sJ q2, sS, sJ nw, sS, sU, sU, sU, sU, sU] [])) (fun _ k => castTop (ef_rmOT m a1 q2 nw) k) ?_
  refine Go.st (S' := T0.setTop (mkF m 1 #[sR a1, sJ q2, sS, sJ nw, sS, sU, sU, sU, sU, sU] [(.long nw)])) (fun _ k => XS.lloadN X0.here hx rfl (hb hby d9_0) rfl k) ?_
  refine Go.st (S' := T0.setTop (mkF m 2 #[sR a1, sJ q2, sS, sJ nw, sS, sU, sU, sU, sU, sU] [(.ref a1), (.long nw)])) (fun _ k => XS.aloadN X0.here hx rfl (hb hby d9_1) rfl rfl k) ?_
  obtain ⟨T30, X30, e30, st30⟩ := getF X0 hx hZ hown (host := "") (Or.inl (ww hw 31 rfl)) Via.refl e0 F_floor (g := (mkF m 2 #[sR a1, sJ q2, sS, sJ nw, sS, sU, sU, sU, sU, sU] [(.ref a1), (.long nw)])) rfl rfl (hb hby d9_2)
  refine Go.st (S' := T30.setTop (mkF m 5 #[sR a1, sJ q2, sS, sJ nw, sS, sU, sU, sU, sU, sU] [(.long fl), (.long nw)])) st30 ?_
  refine Go.st (S' := T30.setTop (mkF m 6 #[sR a1, sJ q2, sS, sJ nw, sS, sU, sU, sU, sU, sU] [(.long (nw - fl))])) (fun _ k => XS.lsub X30.here hx rfl (hb hby d9_5) rfl k) ?_
  refine Go.st (S' := T30.setTop (mkF m 7 #[sR a1, sJ q2, sS, sJ nw, sS, sU, sU, sU, sU, sU] [(.long (1 : Int64)), (.long (nw - fl))])) (fun _ k => XS.lconst X30.here hx rfl (hb hby d9_6) k) ?_
  refine Go.st (S' := T30.setTop (mkF m 8 #[sR a1, sJ q2, sS, sJ nw, sS, sU, sU, sU, sU, sU] [(.long ((nw - fl) + (1 : Int64)))])) (fun _ k => XS.ladd X30.here hx rfl (hb hby d9_7) rfl k) ?_
  refine Go.st (S' := T30.setTop (mkF m 8 #[sR a1, sJ q2, sS, sJ nw, sS, sU, sU, sU, sU, sU] [(.long (cn.toInt64))])) (fun _ k => by rw [(hcn : ((nw - fl) + (1 : Int64)) = (cn.toInt64))]; exact k) ?_
  refine Go.st (S' := T30.setTop (mkF m 9 #[sR a1, sJ q2, sS, sJ nw, sS, sU, sU, sU, sU, sU] [(.int ((cn.toInt64).toInt32))])) (fun _ k => XS.l2i X30.here hx rfl (hb hby d9_8) rfl k) ?_
  refine Go.st (S' := T30.setTop (mkF m 9 #[sR a1, sJ q2, sS, sJ nw, sS, sU, sU, sU, sU, sU] [(.int cn)])) (fun _ k => by rw [(own_rt cn : ((cn.toInt64).toInt32) = cn)]; exact k) ?_
  refine Go.st (S' := T30.setTop (mkF m 11 #[sR a1, sJ q2, sS, sJ nw, sS, sI cn, sU, sU, sU, sU] [])) (fun _ k => XS.istore X30.here hx rfl (hb hby d9_9) rfl (l' := #[sR a1, sJ q2, sS, sJ nw, sS, sI cn, sU, sU, sU, sU]) rfl k) ?_
  refine Go.st (S' := T30.setTop (mkF m 12 #[sR a1, sJ q2, sS, sJ nw, sS, sI cn, sU, sU, sU, sU] [(.ref a1)])) (fun _ k => XS.aloadN X30.here hx rfl (hb hby d9_11) rfl rfl k) ?_
  obtain ⟨T31, X31, e31, st31⟩ := getF X30 hx hZ hown (host := "") (Or.inl (ww hw 29 rfl)) Via.refl e30 F_olderCount (g := (mkF m 12 #[sR a1, sJ q2, sS, sJ nw, sS, sI cn, sU, sU, sU, sU] [(.ref a1)])) rfl rfl (hb hby d9_12)
  refine Go.st (S' := T31.setTop (mkF m 15 #[sR a1, sJ q2, sS, sJ nw, sS, sI cn, sU, sU, sU, sU] [(.int oc)])) st31 ?_
  refine Go.st (S' := T31.setTop (mkF m 17 #[sR a1, sJ q2, sS, sJ nw, sS, sI cn, sU, sU, sU, sU] [(.int cn), (.int oc)])) (fun _ k => XS.iload X31.here hx rfl (hb hby d9_15) rfl k) ?_
  refine Go.st (S' := T31.setTop (mkF m 18 #[sR a1, sJ q2, sS, sJ nw, sS, sI cn, sU, sU, sU, sU] [(.int (oc + cn))])) (fun _ k => XS.iadd X31.here hx rfl (hb hby d9_17) rfl k) ?_
  refine Go.st (S' := T31.setTop (mkF m 20 #[sR a1, sJ q2, sS, sJ nw, sS, sI cn, sI (oc + cn), sU, sU, sU] [])) (fun _ k => XS.istore X31.here hx rfl (hb hby d9_18) rfl (l' := #[sR a1, sJ q2, sS, sJ nw, sS, sI cn, sI (oc + cn), sU, sU, sU]) rfl k) ?_
  refine Go.st (S' := T31.setTop (mkF m 21 #[sR a1, sJ q2, sS, sJ nw, sS, sI cn, sI (oc + cn), sU, sU, sU] [(.ref a1)])) (fun _ k => XS.aloadN X31.here hx rfl (hb hby d9_20) rfl rfl k) ?_
  obtain ⟨T32, X32, e32, st32⟩ := getF X31 hx hZ hown (host := "") (Or.inl (ww hw 25 rfl)) Via.refl e31 F_olderTimestamps (g := (mkF m 21 #[sR a1, sJ q2, sS, sJ nw, sS, sI cn, sI (oc + cn), sU, sU, sU] [(.ref a1)])) rfl rfl (hb hby d9_21)
  refine Go.st (S' := T32.setTop (mkF m 24 #[sR a1, sJ q2, sS, sJ nw, sS, sI cn, sI (oc + cn), sU, sU, sU] [(.ref ta)])) st32 ?_
  refine Go.st (S' := T32.setTop (mkF m 26 #[sR a1, sJ q2, sS, sJ nw, sS, sI cn, sI (oc + cn), sR ta, sU, sU] [])) (fun _ k => XS.astore X32.here hx rfl (hb hby d9_24) rfl rfl (l' := #[sR a1, sJ q2, sS, sJ nw, sS, sI cn, sI (oc + cn), sR ta, sU, sU]) rfl k) ?_
  refine Go.st (S' := T32.setTop (mkF m 27 #[sR a1, sJ q2, sS, sJ nw, sS, sI cn, sI (oc + cn), sR ta, sU, sU] [(.ref a1)])) (fun _ k => XS.aloadN X32.here hx rfl (hb hby d9_26) rfl rfl k) ?_
  obtain ⟨T33, X33, e33, st33⟩ := getF X32 hx hZ hown (host := "") (Or.inl (ww hw 27 rfl)) Via.refl e32 F_olderTimes (g := (mkF m 27 #[sR a1, sJ q2, sS, sJ nw, sS, sI cn, sI (oc + cn), sR ta, sU, sU] [(.ref a1)])) rfl rfl (hb hby d9_27)
  refine Go.st (S' := T33.setTop (mkF m 30 #[sR a1, sJ q2, sS, sJ nw, sS, sI cn, sI (oc + cn), sR ta, sU, sU] [(.ref ma)])) st33 ?_
  refine Go.st (S' := T33.setTop (mkF m 32 #[sR a1, sJ q2, sS, sJ nw, sS, sI cn, sI (oc + cn), sR ta, sR ma, sU] [])) (fun _ k => XS.astore X33.here hx rfl (hb hby d9_30) rfl rfl (l' := #[sR a1, sJ q2, sS, sJ nw, sS, sI cn, sI (oc + cn), sR ta, sR ma, sU]) rfl k) ?_
  refine Go.st (S' := T33.setTop (mkF m 34 #[sR a1, sJ q2, sS, sJ nw, sS, sI cn, sI (oc + cn), sR ta, sR ma, sU] [(.int (oc + cn))])) (fun _ k => XS.iload X33.here hx rfl (hb hby d9_32) rfl k) ?_
  refine Go.st (S' := T33.setTop (mkF m 36 #[sR a1, sJ q2, sS, sJ nw, sS, sI cn, sI (oc + cn), sR ta, sR ma, sU] [(.ref ta), (.int (oc + cn))])) (fun _ k => XS.aload X33.here hx rfl (hb hby d9_34) rfl rfl k) ?_
  refine Go.st (S' := T33.setTop (mkF m 37 #[sR a1, sJ q2, sS, sJ nw, sS, sI cn, sI (oc + cn), sR ta, sR ma, sU] [(.int ol), (.int (oc + cn))])) (own_alenA X33 hx hZ e33 A_ta (g := (mkF m 36 #[sR a1, sJ q2, sS, sJ nw, sS, sI cn, sI (oc + cn), sR ta, sR ma, sU] [(.ref ta), (.int (oc + cn))])) rfl rfl (hb hby d9_36)) ?_
  refine Go.st (S' := T33.setTop (mkF m 40 #[sR a1, sJ q2, sS, sJ nw, sS, sI cn, sI (oc + cn), sR ta, sR ma, sU] [])) (fun _ k => XS.icmpNo X33.here hx rfl (hb hby d9_37) rfl (tlt (own_nl hnl hc1 hc3 ho0 hoc hol hgr).2.2.2.2).2.2.2 k) ?_
  refine Go.st (S' := T33.setTop (mkF m 42 #[sR a1, sJ q2, sS, sJ nw, sS, sI cn, sI (oc + cn), sR ta, sR ma, sU] [(.int (oc + cn))])) (fun _ k => XS.iload X33.here hx rfl (hb hby d9_40) rfl k) ?_
  refine Go.st (S' := T33.setTop (mkF m 43 #[sR a1, sJ q2, sS, sJ nw, sS, sI cn, sI (oc + cn), sR ta, sR ma, sU] [(.int (2 : Int32)), (.int (oc + cn))])) (fun _ k => XS.iconst X33.here hx rfl (hb hby d9_42) k) ?_
  refine Go.st (S' := T33.setTop (mkF m 45 #[sR a1, sJ q2, sS, sJ nw, sS, sI cn, sI (oc + cn), sR ta, sR ma, sU] [(.ref ta), (.int (2 : Int32)), (.int (oc + cn))])) (fun _ k => XS.aload X33.here hx rfl (hb hby d9_43) rfl rfl k) ?_
  refine Go.st (S' := T33.setTop (mkF m 46 #[sR a1, sJ q2, sS, sJ nw, sS, sI cn, sI (oc + cn), sR ta, sR ma, sU] [(.int ol), (.int (2 : Int32)), (.int (oc + cn))])) (own_alenA X33 hx hZ e33 A_ta (g := (mkF m 45 #[sR a1, sJ q2, sS, sJ nw, sS, sI cn, sI (oc + cn), sR ta, sR ma, sU] [(.ref ta), (.int (2 : Int32)), (.int (oc + cn))])) rfl rfl (hb hby d9_45)) ?_
  refine Go.st (S' := T33.setTop (mkF m 47 #[sR a1, sJ q2, sS, sJ nw, sS, sI cn, sI (oc + cn), sR ta, sR ma, sU] [(.int ((2 : Int32) * ol)), (.int (oc + cn))])) (fun _ k => XS.imul X33.here hx rfl (hb hby d9_46) rfl k) ?_
  obtain ⟨_, T36, L36, X36, ⟨rfl, Nq36, eq36⟩, st36⟩ := own_callS X33 hx hZ hown (ww hw 77 rfl) (ww hw 78 rfl) (ww hw 79 rfl) (ww hw 80 rfl) (by decide) e33 (rm_maxF l Z a0 hw [] w_NONE k_NONE hS (oc + cn) ((2 : Int32) * ol) h0 O0) 0 (by decide) (by decide) (by decide) (by decide) (g := (mkF m 47 #[sR a1, sJ q2, sS, sJ nw, sS, sI cn, sI (oc + cn), sR ta, sR ma, sU] [(.int ((2 : Int32) * ol)), (.int (oc + cn))])) rfl (by rw [hml]; rfl) [(.int (oc + cn)), (.int ((2 : Int32) * ol))] [] rfl (lenOf pd_947237 rfl) rfl (by show 2 * 0 + _ ≤ _; exact Nat.le_of_eq rfl) (hb hby d9_47)
  have N36 := Fr.app N0 Nq36
  refine Go.st (S' := T36.setTop (mkF m 50 #[sR a1, sJ q2, sS, sJ nw, sS, sI cn, sI (oc + cn), sR ta, sR ma, sU] [(.int (maxF (oc + cn) ((2 : Int32) * ol)))])) st36 ?_
  refine Go.st (S' := T36.setTop (mkF m 50 #[sR a1, sJ q2, sS, sJ nw, sS, sI cn, sI (oc + cn), sR ta, sR ma, sU] [(.int nl)])) (fun _ k => by rw [(hnl.symm : (maxF (oc + cn) ((2 : Int32) * ol)) = nl)]; exact k) ?_
  refine Go.st (S' := T36.setTop (mkF m 52 #[sR a1, sJ q2, sS, sJ nw, sS, sI cn, sI (oc + cn), sR ta, sR ma, sI nl] [])) (fun _ k => XS.istore X36.here hx rfl (hb hby d9_50) rfl (l' := #[sR a1, sJ q2, sS, sJ nw, sS, sI cn, sI (oc + cn), sR ta, sR ma, sI nl]) rfl k) ?_
  refine Go.st (S' := T36.setTop (mkF m 54 #[sR a1, sJ q2, sS, sJ nw, sS, sI cn, sI (oc + cn), sR ta, sR ma, sI nl] [(.ref ta)])) (fun _ k => XS.aload X36.here hx rfl (hb hby d9_52) rfl rfl k) ?_
  refine Go.st (S' := T36.setTop (mkF m 56 #[sR a1, sJ q2, sS, sJ nw, sS, sI cn, sI (oc + cn), sR ta, sR ma, sI nl] [(.int nl), (.ref ta)])) (fun _ k => XS.iload X36.here hx rfl (hb hby d9_54) rfl k) ?_
  obtain ⟨_, T37, L37, X37, ⟨⟨cb37, rfl, sc37, ac37⟩, Nq37, kp37⟩, st37⟩ := own_callS X36 hx hZ hown (ww hw 85 rfl) (ww hw 86 rfl) (ww hw 87 rfl) (ww hw 88 rfl) (by decide) eq36 (rmCP l Z a0 hw [] w_NONE k_NONE hS ta nl ol (by omega) (by omega) (own_nl hnl hc1 hc3 ho0 hoc hol hgr).2.1 (own_nl hnl hc1 hc3 ho0 hoc hol hgr).2.2.1 h0 O0 A_ta) 0 (by decide) (by decide) (by decide) (by decide) (g := (mkF m 56 #[sR a1, sJ q2, sS, sJ nw, sS, sI cn, sI (oc + cn), sR ta, sR ma, sI nl] [(.int nl), (.ref ta)])) rfl (by rw [hml]; rfl) [(.ref ta), (.int nl)] [] rfl (lenOf pd_116401 rfl) rfl (by show 2 * 0 + _ ≤ _; exact Nat.le_of_eq rfl) (hb hby d9_56)
  have N37 := Fr.app N36 Nq37
  have ne_a1_cb37 : a1 ≠ cb37 := own_lt_ne' F_olderTimestamps.lt sc37
  have ne_ta_cb37 : ta ≠ cb37 := own_lt_ne' A_ta.lt sc37
  have ne_ma_cb37 : ma ≠ cb37 := own_lt_ne' A_ma.lt sc37
  have ne_sa_cb37 : sa ≠ cb37 := own_lt_ne' A_sa.lt sc37
  have O37 : Ext Z.heap T37.heap := own_Ext.keep O0 kp37 all0
  have KP37 : Keep h0 T37.heap [] := KP0.trans kp37 all0
  refine Go.st (S' := T37.setTop (mkF m 59 #[sR a1, sJ q2, sS, sJ nw, sS, sI cn, sI (oc + cn), sR ta, sR ma, sI nl] [(.ref cb37)])) st37 ?_
  refine Go.st (S' := T37.setTop (mkF m 61 #[sR a1, sJ q2, sS, sJ nw, sS, sI cn, sI (oc + cn), sR cb37, sR ma, sI nl] [])) (fun _ k => XS.astore X37.here hx rfl (hb hby d9_59) rfl rfl (l' := #[sR a1, sJ q2, sS, sJ nw, sS, sI cn, sI (oc + cn), sR cb37, sR ma, sI nl]) rfl k) ?_
  refine Go.st (S' := T37.setTop (mkF m 63 #[sR a1, sJ q2, sS, sJ nw, sS, sI cn, sI (oc + cn), sR cb37, sR ma, sI nl] [(.ref ma)])) (fun _ k => XS.aload X37.here hx rfl (hb hby d9_61) rfl rfl k) ?_
  refine Go.st (S' := T37.setTop (mkF m 65 #[sR a1, sJ q2, sS, sJ nw, sS, sI cn, sI (oc + cn), sR cb37, sR ma, sI nl] [(.int nl), (.ref ma)])) (fun _ k => XS.iload X37.here hx rfl (hb hby d9_63) rfl k) ?_
  obtain ⟨_, T38, L38, X38, ⟨⟨cb38, rfl, sc38, ac38⟩, Nq38, kp38⟩, st38⟩ := own_callS X37 hx hZ hown (ww hw 85 rfl) (ww hw 86 rfl) (ww hw 87 rfl) (ww hw 88 rfl) (by decide) rfl (rmCP l Z a0 hw [] w_NONE k_NONE hS ma nl ol (by omega) (by omega) (own_nl hnl hc1 hc3 ho0 hoc hol hgr).2.1 (own_nl hnl hc1 hc3 ho0 hoc hol hgr).2.2.1 T37.heap O37 (A_ma.keep kp37 nin0)) 0 (by decide) (by decide) (by decide) (by decide) (g := (mkF m 65 #[sR a1, sJ q2, sS, sJ nw, sS, sI cn, sI (oc + cn), sR cb37, sR ma, sI nl] [(.int nl), (.ref ma)])) rfl (by rw [hml]; rfl) [(.ref ma), (.int nl)] [] rfl (lenOf pd_116401 rfl) rfl (by show 2 * 0 + _ ≤ _; exact Nat.le_of_eq rfl) (hb hby d9_65)
  have N38 := Fr.app N37 Nq38
  have ne_a1_cb38 : a1 ≠ cb38 := own_lt_ne' (F_olderTimestamps.keep kp37 nin0).lt sc38
  have ne_ta_cb38 : ta ≠ cb38 := own_lt_ne' (A_ta.keep kp37 nin0).lt sc38
  have ne_ma_cb38 : ma ≠ cb38 := own_lt_ne' (A_ma.keep kp37 nin0).lt sc38
  have ne_sa_cb38 : sa ≠ cb38 := own_lt_ne' (A_sa.keep kp37 nin0).lt sc38
  have ne_cb37_cb38 : cb37 ≠ cb38 := own_lt_ne' ac37.lt sc38
  have O38 : Ext Z.heap T38.heap := own_Ext.keep O37 kp38 all0
  have KP38 : Keep h0 T38.heap [] := KP37.trans kp38 all0
  refine Go.st (S' := T38.setTop (mkF m 68 #[sR a1, sJ q2, sS, sJ nw, sS, sI cn, sI (oc + cn), sR cb37, sR ma, sI nl] [(.ref cb38)])) st38 ?_
  refine Go.st (S' := T38.setTop (mkF m 70 #[sR a1, sJ q2, sS, sJ nw, sS, sI cn, sI (oc + cn), sR cb37, sR cb38, sI nl] [])) (fun _ k => XS.astore X38.here hx rfl (hb hby d9_68) rfl rfl (l' := #[sR a1, sJ q2, sS, sJ nw, sS, sI cn, sI (oc + cn), sR cb37, sR cb38, sI nl]) rfl k) ?_
  refine Go.st (S' := T38.setTop (mkF m 71 #[sR a1, sJ q2, sS, sJ nw, sS, sI cn, sI (oc + cn), sR cb37, sR cb38, sI nl] [(.int (0 : Int32))])) (fun _ k => XS.iconst X38.here hx rfl (hb hby d9_70) k) ?_
  refine Go.st (S' := T38.setTop (mkF m 73 #[sR a1, sJ q2, sS, sJ nw, sS, sI cn, sI (oc + cn), sR cb37, sR cb38, sI 0] [])) (fun _ k => XS.istore X38.here hx rfl (hb hby d9_71) rfl (l' := #[sR a1, sJ q2, sS, sJ nw, sS, sI cn, sI (oc + cn), sR cb37, sR cb38, sI 0]) rfl k) ?_
  have key : ∀ n : Nat, ∀ (Tj : State) (lj : List Loc) (hj : Heap) (Xj : Stand p l e ({ frames := 3, cells := 4, slots := 18, locals := 60 } : Room) s m #[(.ref a1), (.long q2), (.long nw)] below meth c Tj lj 2 12) (ej : Tj.heap = hj) (Nj : Fr Z.heap.size lj) (Oj : Ext Z.heap hj) (i : Int32) (Vb1 : AL Z hj cb37 nl) (Vb2 : AL Z hj cb38 nl) (KPj : Keep h0 hj []) (hi0 : 0 ≤ i.toInt) (hin : i.toInt + n = cn.toInt), Go p e below (Ret s (fun v h L => (∃ ly sa ta ma, v = some (.ref ly) ∧ h0.size ≤ ly ∧ h0.size ≤ sa ∧ h0.size ≤ ta ∧ h0.size ≤ ma ∧ ly ≠ sa ∧ ta ≠ sa ∧ ma ≠ sa ∧ Exa Z h ly "com/example/palimpsest/palimpsest/CommitTimes$Layout" ∧ Fld Z h ly "com/example/palimpsest/palimpsest/CommitTimes$Layout" "olderTimestamps" "[J" (.ref ta) ∧ Fld Z h ly "com/example/palimpsest/palimpsest/CommitTimes$Layout" "olderTimes" "[J" (.ref ma) ∧ Fld Z h ly "com/example/palimpsest/palimpsest/CommitTimes$Layout" "olderCount" "I" (.int (oc + cn)) ∧ Fld Z h ly "com/example/palimpsest/palimpsest/CommitTimes$Layout" "floor" "J" (.long q2) ∧ Fld Z h ly "com/example/palimpsest/palimpsest/CommitTimes$Layout" "slots" "[J" (.ref sa) ∧ AL Z h sa (1 : Int32) ∧ AL Z h ta nl ∧ AL Z h ma nl) ∧ Fr Z.heap.size L ∧ Keep h0 h []) ({ frames := 3, cells := 4, slots := 18, locals := 60 } : Room).cells ({ frames := 3, cells := 4, slots := 18, locals := 60 } : Room).slots) (Tj.setTop (mkF m 73 #[sR a1, sJ q2, sS, sJ nw, sS, sI cn, sI (oc + cn), sR cb37, sR cb38, sI i] [])) := by
    intro n
    induction n with
    | zero =>
      intro Tj lj  hj Xj ej Nj Oj  i Vb1 Vb2 KPj hi0 hin
      obtain ⟨eoc, -, -, hle, -⟩ := own_nl hnl hc1 hc3 ho0 hoc hol hgr
      refine Go.st (S' := Tj.setTop (mkF m 75 #[sR a1, sJ q2, sS, sJ nw, sS, sI cn, sI (oc + cn), sR cb37, sR cb38, sI i] [(.int i)])) (fun _ k => XS.iload Xj.here hx rfl (hb hby d9_73) rfl k) ?_
      refine Go.st (S' := Tj.setTop (mkF m 77 #[sR a1, sJ q2, sS, sJ nw, sS, sI cn, sI (oc + cn), sR cb37, sR cb38, sI i] [(.int cn), (.int i)])) (fun _ k => XS.iload Xj.here hx rfl (hb hby d9_75) rfl k) ?_
      refine Go.st (S' := Tj.setTop (mkF m 121 #[sR a1, sJ q2, sS, sJ nw, sS, sI cn, sI (oc + cn), sR cb37, sR cb38, sI i] [])) (fun _ k => XS.icmpYes Xj.here hx rfl (pc0 := 77) (pc' := 121) rfl (hb hby d9_77) rfl (flt (fun q => absurd (Int32.lt_iff_toInt_lt.mp q) (by omega))).2.1 (by decide) (by decide) k) ?_
      obtain ⟨T39, h39, X39, e39, E39, A39, D39, -, st39⟩ := newO Xj hx hZ hown (ww hw 68 rfl) (ww hw 12 rfl) (ww hw 13 rfl) ej (g := (mkF m 121 #[sR a1, sJ q2, sS, sJ nw, sS, sI cn, sI (oc + cn), sR cb37, sR cb38, sI i] [])) rfl (hb hby d9_121) (by decide) (by decide)
      obtain ⟨b39, g39⟩ : ∃ z, z = hj.size := ⟨_, rfl⟩
      rw [← g39] at A39 D39 st39
      have gz39 : Z.heap.size ≤ b39 := Nat.le_trans Oj.1 (Nat.le_of_eq g39.symm)
      have sz39 : h0.size ≤ b39 := Nat.le_trans KPj.1 (Nat.le_of_eq g39.symm)
      have ne_cb37_b39 : cb37 ≠ b39 := own_lt_ne Vb1.lt g39
      have ne_cb38_b39 : cb38 ≠ b39 := own_lt_ne Vb2.lt g39
      have ne_a1_b39 : a1 ≠ b39 := own_lt_ne (F_olderTimestamps.keep KPj nin0).lt g39
      have ne_sa_b39 : sa ≠ b39 := own_lt_ne (A_sa.keep KPj nin0).lt g39
      have O39 : Ext Z.heap h39 := own_Ext.trans Oj E39
      have KP39 : Keep h0 h39 [] := KPj.ext E39
      have F39_olderTimestamps : Fld Z h39 b39 "com/example/palimpsest/palimpsest/CommitTimes$Layout" "olderTimestamps" "[J" .null := D39 (Or.inr (ww hw 26 rfl)) (ty := (.array .long)) pf_132122
      have F39_olderTimes : Fld Z h39 b39 "com/example/palimpsest/palimpsest/CommitTimes$Layout" "olderTimes" "[J" .null := D39 (Or.inr (ww hw 28 rfl)) (ty := (.array .long)) pf_132122
      have F39_olderCount : Fld Z h39 b39 "com/example/palimpsest/palimpsest/CommitTimes$Layout" "olderCount" "I" (.int (0 : Int32)) := D39 (Or.inr (ww hw 30 rfl)) (ty := .int) pf_990
      have F39_floor : Fld Z h39 b39 "com/example/palimpsest/palimpsest/CommitTimes$Layout" "floor" "J" (.long (0 : Int64)) := D39 (Or.inr (ww hw 32 rfl)) (ty := .long) pf_991
      have F39_slots : Fld Z h39 b39 "com/example/palimpsest/palimpsest/CommitTimes$Layout" "slots" "[J" .null := D39 (Or.inr (ww hw 34 rfl)) (ty := (.array .long)) pf_132122
      refine Go.st (S' := T39.setTop (mkF m 124 #[sR a1, sJ q2, sS, sJ nw, sS, sI cn, sI (oc + cn), sR cb37, sR cb38, sI i] [(.ref b39)])) st39 ?_
      refine Go.st (S' := T39.setTop (mkF m 125 #[sR a1, sJ q2, sS, sJ nw, sS, sI cn, sI (oc + cn), sR cb37, sR cb38, sI i] [(.ref b39), (.ref b39)])) (fun _ k => XS.dup X39.here hx rfl (hb hby d9_124) rfl rfl k) ?_
      refine Go.st (S' := T39.setTop (mkF m 127 #[sR a1, sJ q2, sS, sJ nw, sS, sI cn, sI (oc + cn), sR cb37, sR cb38, sI i] [(.ref cb37), (.ref b39), (.ref b39)])) (fun _ k => XS.aload X39.here hx rfl (hb hby d9_125) rfl rfl k) ?_
      refine Go.st (S' := T39.setTop (mkF m 129 #[sR a1, sJ q2, sS, sJ nw, sS, sI cn, sI (oc + cn), sR cb37, sR cb38, sI i] [(.ref cb38), (.ref cb37), (.ref b39), (.ref b39)])) (fun _ k => XS.aload X39.here hx rfl (hb hby d9_127) rfl rfl k) ?_
      refine Go.st (S' := T39.setTop (mkF m 131 #[sR a1, sJ q2, sS, sJ nw, sS, sI cn, sI (oc + cn), sR cb37, sR cb38, sI i] [(.int (oc + cn)), (.ref cb38), (.ref cb37), (.ref b39), (.ref b39)])) (fun _ k => XS.iload X39.here hx rfl (hb hby d9_129) rfl k) ?_
      refine Go.st (S' := T39.setTop (mkF m 132 #[sR a1, sJ q2, sS, sJ nw, sS, sI cn, sI (oc + cn), sR cb37, sR cb38, sI i] [(.long q2), (.int (oc + cn)), (.ref cb38), (.ref cb37), (.ref b39), (.ref b39)])) (fun _ k => XS.lloadN X39.here hx rfl (hb hby d9_131) rfl k) ?_
      refine Go.st (S' := T39.setTop (mkF m 133 #[sR a1, sJ q2, sS, sJ nw, sS, sI cn, sI (oc + cn), sR cb37, sR cb38, sI i] [(.int (1 : Int32)), (.long q2), (.int (oc + cn)), (.ref cb38), (.ref cb37), (.ref b39), (.ref b39)])) (fun _ k => XS.iconst X39.here hx rfl (hb hby d9_132) k) ?_
      obtain ⟨T40, h40, k40, X40, e40, E40, A40, Ea40, st40⟩ := newPE X39 hx hZ (ww hw 69 rfl) e39 (g := (mkF m 133 #[sR a1, sJ q2, sS, sJ nw, sS, sI cn, sI (oc + cn), sR cb37, sR cb38, sI i] [(.int (1 : Int32)), (.long q2), (.int (oc + cn)), (.ref cb38), (.ref cb37), (.ref b39), (.ref b39)])) rfl (hb hby d9_133) rfl (by decide) (cap := 1) (by decide) (by decide) (by decide) (by decide) (ad := "[J") (by decide)
      obtain ⟨b40, g40⟩ : ∃ z, z = h39.size := ⟨_, rfl⟩
      rw [← g40] at A40 Ea40 st40
      have gz40 : Z.heap.size ≤ b40 := Nat.le_trans O39.1 (Nat.le_of_eq g40.symm)
      have sz40 : h0.size ≤ b40 := Nat.le_trans KP39.1 (Nat.le_of_eq g40.symm)
      have ne_cb37_b40 : cb37 ≠ b40 := own_lt_ne (Vb1.ext E39).lt g40
      have ne_cb38_b40 : cb38 ≠ b40 := own_lt_ne (Vb2.ext E39).lt g40
      have ne_a1_b40 : a1 ≠ b40 := own_lt_ne ((F_olderTimestamps.keep KPj nin0).ext E39).lt g40
      have ne_sa_b40 : sa ≠ b40 := own_lt_ne ((A_sa.keep KPj nin0).ext E39).lt g40
      have ne_b39_b40 : b39 ≠ b40 := own_lt_ne A39.lt g40
      have O40 : Ext Z.heap h40 := own_Ext.trans O39 E40
      have KP40 : Keep h0 h40 [] := KP39.ext E40
      have V40 : Arv Z h40 b40 k40 .long (1 : Int32) [(.long (0 : Int64))] (.long (0 : Int64)) := (Arv.new A40 (by decide)).pad (pad_rep [] (.long (0 : Int64)) 1)
      refine Go.st (S' := T40.setTop (mkF m 135 #[sR a1, sJ q2, sS, sJ nw, sS, sI cn, sI (oc + cn), sR cb37, sR cb38, sI i] [(.ref b40), (.long q2), (.int (oc + cn)), (.ref cb38), (.ref cb37), (.ref b39), (.ref b39)])) st40 ?_
      obtain ⟨_, T41, L41, X41, ⟨rfl, Nq41, kp41, folderTimestamps41, folderTimes41, folderCount41, ffloor41, fslots41⟩, st41⟩ := own_callI X40 hx hZ rfl hown (ww hw 70 rfl) (ww hw 17 rfl) (ww hw 13 rfl) (ww hw 18 rfl) (by decide) e40 (rmLY l Z a0 hw [] w_NONE k_NONE hS b39 cb37 cb38 (oc + cn) q2 b40 h40 O40 gz39 (A39.ext E40) (F39_olderTimestamps.ext E40) (F39_olderTimes.ext E40) (F39_olderCount.ext E40) (F39_floor.ext E40) (F39_slots.ext E40)) 1 (by decide) (by decide) (by decide) (by decide) (g := (mkF m 135 #[sR a1, sJ q2, sS, sJ nw, sS, sI cn, sI (oc + cn), sR cb37, sR cb38, sI i] [(.ref b40), (.long q2), (.int (oc + cn)), (.ref cb38), (.ref cb37), (.ref b39), (.ref b39)])) rfl (by rw [hml]; rfl) [(.ref cb37), (.ref cb38), (.int (oc + cn)), (.long q2), (.ref b40)] [(.ref b39)] rfl (lenOf pd_950621 rfl) rfl (by show 2 * 0 + _ ≤ _; exact Nat.le_of_eq rfl) (hb hby d9_135)
      have N41 := Fr.app Nj Nq41
      have O41 : Ext Z.heap T41.heap := own_Ext.keep O40 kp41 (allS gz39 all0)
      have KP41 : Keep h0 T41.heap [] := KP40.trans kp41 (allS (Or.inr sz39) all0)
      refine Go.st (S' := T41.setTop (mkF m 138 #[sR a1, sJ q2, sS, sJ nw, sS, sI cn, sI (oc + cn), sR cb37, sR cb38, sI i] [(.ref b39)])) st41 ?_
      exact own_retA X41 hx hlk hret rfl rfl rfl (hb hby d9_138) rfl ⟨⟨_, _, _, _, rfl, sz39, sz40, (Nat.le_trans KP0.1 sc37), (Nat.le_trans KP37.1 sc38), ne_b39_b40, ne_cb37_b40, ne_cb38_b40, ((A39.ext E40).keep kp41), folderTimestamps41, folderTimes41, folderCount41, ffloor41, fslots41, ⟨⟨_, _, (V40.keep kp41 (ninS (Ne.symm ne_b39_b40) nin0))⟩, (Ea40.keep kp41)⟩, (((Vb1.ext E39).ext E40).keep kp41 (ninS ne_cb37_b39 nin0)), (((Vb2.ext E39).ext E40).keep kp41 (ninS ne_cb38_b39 nin0))⟩, N41, KP41⟩ (by decide) (by decide)
    | succ n ih =>
      intro Tj lj  hj Xj ej Nj Oj  i Vb1 Vb2 KPj hi0 hin
      obtain ⟨eoc, -, -, hle, -⟩ := own_nl hnl hc1 hc3 ho0 hoc hol hgr
      refine Go.st (S' := Tj.setTop (mkF m 75 #[sR a1, sJ q2, sS, sJ nw, sS, sI cn, sI (oc + cn), sR cb37, sR cb38, sI i] [(.int i)])) (fun _ k => XS.iload Xj.here hx rfl (hb hby d9_73) rfl k) ?_
      refine Go.st (S' := Tj.setTop (mkF m 77 #[sR a1, sJ q2, sS, sJ nw, sS, sI cn, sI (oc + cn), sR cb37, sR cb38, sI i] [(.int cn), (.int i)])) (fun _ k => XS.iload Xj.here hx rfl (hb hby d9_75) rfl k) ?_
      refine Go.st (S' := Tj.setTop (mkF m 80 #[sR a1, sJ q2, sS, sJ nw, sS, sI cn, sI (oc + cn), sR cb37, sR cb38, sI i] [])) (fun _ k => XS.icmpNo Xj.here hx rfl (hb hby d9_77) rfl (tlt (Int32.lt_iff_toInt_lt.mpr (by omega))).2.1 k) ?_
      refine Go.st (S' := Tj.setTop (mkF m 82 #[sR a1, sJ q2, sS, sJ nw, sS, sI cn, sI (oc + cn), sR cb37, sR cb38, sI i] [(.ref cb37)])) (fun _ k => XS.aload Xj.here hx rfl (hb hby d9_80) rfl rfl k) ?_
      refine Go.st (S' := Tj.setTop (mkF m 83 #[sR a1, sJ q2, sS, sJ nw, sS, sI cn, sI (oc + cn), sR cb37, sR cb38, sI i] [(.ref a1), (.ref cb37)])) (fun _ k => XS.aloadN Xj.here hx rfl (hb hby d9_82) rfl rfl k) ?_
      obtain ⟨T42, X42, e42, st42⟩ := getF Xj hx hZ hown (host := "") (Or.inl (ww hw 29 rfl)) Via.refl ej (F_olderCount.keep KPj nin0) (g := (mkF m 83 #[sR a1, sJ q2, sS, sJ nw, sS, sI cn, sI (oc + cn), sR cb37, sR cb38, sI i] [(.ref a1), (.ref cb37)])) rfl rfl (hb hby d9_83)
      refine Go.st (S' := T42.setTop (mkF m 86 #[sR a1, sJ q2, sS, sJ nw, sS, sI cn, sI (oc + cn), sR cb37, sR cb38, sI i] [(.int oc), (.ref cb37)])) st42 ?_
      refine Go.st (S' := T42.setTop (mkF m 88 #[sR a1, sJ q2, sS, sJ nw, sS, sI cn, sI (oc + cn), sR cb37, sR cb38, sI i] [(.int i), (.int oc), (.ref cb37)])) (fun _ k => XS.iload X42.here hx rfl (hb hby d9_86) rfl k) ?_
      refine Go.st (S' := T42.setTop (mkF m 89 #[sR a1, sJ q2, sS, sJ nw, sS, sI cn, sI (oc + cn), sR cb37, sR cb38, sI i] [(.int (oc + i)), (.ref cb37)])) (fun _ k => XS.iadd X42.here hx rfl (hb hby d9_88) rfl k) ?_
      refine Go.st (S' := T42.setTop (mkF m 90 #[sR a1, sJ q2, sS, sJ nw, sS, sI cn, sI (oc + cn), sR cb37, sR cb38, sI i] [(.ref a1), (.int (oc + i)), (.ref cb37)])) (fun _ k => XS.aloadN X42.here hx rfl (hb hby d9_89) rfl rfl k) ?_
      obtain ⟨T43, X43, e43, st43⟩ := getF X42 hx hZ hown (host := "") (Or.inl (ww hw 31 rfl)) Via.refl e42 (F_floor.keep KPj nin0) (g := (mkF m 90 #[sR a1, sJ q2, sS, sJ nw, sS, sI cn, sI (oc + cn), sR cb37, sR cb38, sI i] [(.ref a1), (.int (oc + i)), (.ref cb37)])) rfl rfl (hb hby d9_90)
      refine Go.st (S' := T43.setTop (mkF m 93 #[sR a1, sJ q2, sS, sJ nw, sS, sI cn, sI (oc + cn), sR cb37, sR cb38, sI i] [(.long fl), (.int (oc + i)), (.ref cb37)])) st43 ?_
      refine Go.st (S' := T43.setTop (mkF m 95 #[sR a1, sJ q2, sS, sJ nw, sS, sI cn, sI (oc + cn), sR cb37, sR cb38, sI i] [(.int i), (.long fl), (.int (oc + i)), (.ref cb37)])) (fun _ k => XS.iload X43.here hx rfl (hb hby d9_93) rfl k) ?_
      refine Go.st (S' := T43.setTop (mkF m 96 #[sR a1, sJ q2, sS, sJ nw, sS, sI cn, sI (oc + cn), sR cb37, sR cb38, sI i] [(.long (i.toInt64)), (.long fl), (.int (oc + i)), (.ref cb37)])) (fun _ k => XS.i2l X43.here hx rfl (hb hby d9_95) rfl k) ?_
      refine Go.st (S' := T43.setTop (mkF m 97 #[sR a1, sJ q2, sS, sJ nw, sS, sI cn, sI (oc + cn), sR cb37, sR cb38, sI i] [(.long (fl + (i.toInt64))), (.int (oc + i)), (.ref cb37)])) (fun _ k => XS.ladd X43.here hx rfl (hb hby d9_96) rfl k) ?_
      obtain ⟨T44, h44, X44, e44, W44, V44, st44⟩ := own_stA X43 hx hZ e43 Vb1 (j := (oc + i)) (own_bd (by rw [own_plus (by omega) (by omega) (by omega) (by omega)]; omega) (by rw [own_plus (by omega) (by omega) (by omega) (by omega)]; omega)) (g := (mkF m 97 #[sR a1, sJ q2, sS, sJ nw, sS, sI cn, sI (oc + cn), sR cb37, sR cb38, sI i] [(.long (fl + (i.toInt64))), (.int (oc + i)), (.ref cb37)])) rfl rfl (hb hby d9_97)
      have N44 := Fr.snoc X44 Nj (Nat.le_trans O0.1 sc37)
      have O44 : Ext Z.heap h44 := own_Ext.wr Oj W44 (Nat.le_trans O0.1 sc37)
      have KP44 : Keep h0 h44 [] := KPj.wr W44 (Or.inr (Nat.le_trans KP0.1 sc37))
      refine Go.st (S' := T44.setTop (mkF m 98 #[sR a1, sJ q2, sS, sJ nw, sS, sI cn, sI (oc + cn), sR cb37, sR cb38, sI i] [])) st44 ?_
      refine Go.st (S' := T44.setTop (mkF m 100 #[sR a1, sJ q2, sS, sJ nw, sS, sI cn, sI (oc + cn), sR cb37, sR cb38, sI i] [(.ref cb38)])) (fun _ k => XS.aload X44.here hx rfl (hb hby d9_98) rfl rfl k) ?_
      refine Go.st (S' := T44.setTop (mkF m 101 #[sR a1, sJ q2, sS, sJ nw, sS, sI cn, sI (oc + cn), sR cb37, sR cb38, sI i] [(.ref a1), (.ref cb38)])) (fun _ k => XS.aloadN X44.here hx rfl (hb hby d9_100) rfl rfl k) ?_
      obtain ⟨T45, X45, e45, st45⟩ := getF X44 hx hZ hown (host := "") (Or.inl (ww hw 29 rfl)) Via.refl e44 ((F_olderCount.keep KPj nin0).other W44 (Or.inl ne_a1_cb37)) (g := (mkF m 101 #[sR a1, sJ q2, sS, sJ nw, sS, sI cn, sI (oc + cn), sR cb37, sR cb38, sI i] [(.ref a1), (.ref cb38)])) rfl rfl (hb hby d9_101)
      refine Go.st (S' := T45.setTop (mkF m 104 #[sR a1, sJ q2, sS, sJ nw, sS, sI cn, sI (oc + cn), sR cb37, sR cb38, sI i] [(.int oc), (.ref cb38)])) st45 ?_
      refine Go.st (S' := T45.setTop (mkF m 106 #[sR a1, sJ q2, sS, sJ nw, sS, sI cn, sI (oc + cn), sR cb37, sR cb38, sI i] [(.int i), (.int oc), (.ref cb38)])) (fun _ k => XS.iload X45.here hx rfl (hb hby d9_104) rfl k) ?_
      refine Go.st (S' := T45.setTop (mkF m 107 #[sR a1, sJ q2, sS, sJ nw, sS, sI cn, sI (oc + cn), sR cb37, sR cb38, sI i] [(.int (oc + i)), (.ref cb38)])) (fun _ k => XS.iadd X45.here hx rfl (hb hby d9_106) rfl k) ?_
      refine Go.st (S' := T45.setTop (mkF m 108 #[sR a1, sJ q2, sS, sJ nw, sS, sI cn, sI (oc + cn), sR cb37, sR cb38, sI i] [(.ref a1), (.int (oc + i)), (.ref cb38)])) (fun _ k => XS.aloadN X45.here hx rfl (hb hby d9_107) rfl rfl k) ?_
      obtain ⟨T46, X46, e46, st46⟩ := getF X45 hx hZ hown (host := "") (Or.inl (ww hw 33 rfl)) Via.refl e45 ((F_slots.keep KPj nin0).other W44 (Or.inl ne_a1_cb37)) (g := (mkF m 108 #[sR a1, sJ q2, sS, sJ nw, sS, sI cn, sI (oc + cn), sR cb37, sR cb38, sI i] [(.ref a1), (.int (oc + i)), (.ref cb38)])) rfl rfl (hb hby d9_108)
      refine Go.st (S' := T46.setTop (mkF m 111 #[sR a1, sJ q2, sS, sJ nw, sS, sI cn, sI (oc + cn), sR cb37, sR cb38, sI i] [(.ref sa), (.int (oc + i)), (.ref cb38)])) st46 ?_
      refine Go.st (S' := T46.setTop (mkF m 113 #[sR a1, sJ q2, sS, sJ nw, sS, sI cn, sI (oc + cn), sR cb37, sR cb38, sI i] [(.int i), (.ref sa), (.int (oc + i)), (.ref cb38)])) (fun _ k => XS.iload X46.here hx rfl (hb hby d9_111) rfl k) ?_
      obtain ⟨x47, st47⟩ := own_ldA X46 hx hZ e46 ((A_sa.keep KPj nin0).other W44 ne_sa_cb37) (j := i) (own_bd (by omega) (by omega)) (g := (mkF m 113 #[sR a1, sJ q2, sS, sJ nw, sS, sI cn, sI (oc + cn), sR cb37, sR cb38, sI i] [(.int i), (.ref sa), (.int (oc + i)), (.ref cb38)])) rfl rfl (hb hby d9_113)
      refine Go.st (S' := T46.setTop (mkF m 114 #[sR a1, sJ q2, sS, sJ nw, sS, sI cn, sI (oc + cn), sR cb37, sR cb38, sI i] [(.long x47), (.int (oc + i)), (.ref cb38)])) st47 ?_
      obtain ⟨T48, h48, X48, e48, W48, V48, st48⟩ := own_stA X46 hx hZ e46 (Vb2.other W44 (Ne.symm ne_cb37_cb38)) (j := (oc + i)) (own_bd (by rw [own_plus (by omega) (by omega) (by omega) (by omega)]; omega) (by rw [own_plus (by omega) (by omega) (by omega) (by omega)]; omega)) (g := (mkF m 114 #[sR a1, sJ q2, sS, sJ nw, sS, sI cn, sI (oc + cn), sR cb37, sR cb38, sI i] [(.long x47), (.int (oc + i)), (.ref cb38)])) rfl rfl (hb hby d9_114)
      have N48 := Fr.snoc X48 N44 (Nat.le_trans O37.1 sc38)
      have O48 : Ext Z.heap h48 := own_Ext.wr O44 W48 (Nat.le_trans O37.1 sc38)
      have KP48 : Keep h0 h48 [] := KP44.wr W48 (Or.inr (Nat.le_trans KP37.1 sc38))
      refine Go.st (S' := T48.setTop (mkF m 115 #[sR a1, sJ q2, sS, sJ nw, sS, sI cn, sI (oc + cn), sR cb37, sR cb38, sI i] [])) st48 ?_
      refine Go.st (S' := T48.setTop (mkF m 118 #[sR a1, sJ q2, sS, sJ nw, sS, sI cn, sI (oc + cn), sR cb37, sR cb38, sI (i + (1 : Int32))] [])) (fun _ k => XS.iinc X48.here hx rfl (hb hby d9_115) rfl (l' := #[sR a1, sJ q2, sS, sJ nw, sS, sI cn, sI (oc + cn), sR cb37, sR cb38, sI (i + (1 : Int32))]) rfl k) ?_
      refine Go.st (S' := T48.setTop (mkF m 73 #[sR a1, sJ q2, sS, sJ nw, sS, sI cn, sI (oc + cn), sR cb37, sR cb38, sI (i + (1 : Int32))] [])) (fun _ k => XS.goto X48.here hx rfl (pc0 := 118) (pc' := 73) rfl (hb hby d9_118) (by decide) (by decide) k) ?_
      exact ih  _ _ _ X48 e48 N48 O48  _ (V44.other W48 ne_cb37_cb38) V48 KP48 (by rw [own_plus (by omega) (by omega) (by decide) (by decide), show (1 : Int32).toInt = 1 by decide]; omega) (by rw [own_plus (by omega) (by omega) (by decide) (by decide), show (1 : Int32).toInt = 1 by decide]; omega)
  exact key cn.toInt.toNat _ _ _ X38 rfl N38 O38  _ (ac37.keep kp38 nin0) ac38 KP38 (by decide) (by show (0 : Int32).toInt + _ = _; rw [show (0 : Int32).toInt = 0 by decide]; have := Int.toNat_of_nonneg (a := cn.toInt) (by omega); omega)
theorem own_nr {cn nl : Int32} (hnl : nl = maxF (1 : Int32) ((2 : Int32) * cn)) (h0 : 0 ≤ cn.toInt) (h2 : cn.toInt ≤ 2) : 0 ≤ nl.toInt ∧ nl.toInt ≤ 4 ∧ cn.toInt < nl.toInt := by
  have e2 := own_two (x := cn) (by omega) (by omega)
  have c1 : (1 : Int32).toInt = 1 := by decide
  have e3 := own_mxc (x := (1 : Int32)) (y := (2 : Int32) * cn)
  rw [← hnl] at e3
  omega
theorem d10_0 : decode prog_8_method_3_code 0 = .ok (.lload_n 3, 1) := by decide +kernel
theorem d10_1 : decode prog_8_method_3_code 1 = .ok (.lload_n 1, 1) := by decide +kernel
theorem d10_2 : decode prog_8_method_3_code 2 = .ok (.lsub, 1) := by decide +kernel
theorem d10_3 : decode prog_8_method_3_code 3 = .ok (.lconst 1, 1) := by decide +kernel
theorem d10_4 : decode prog_8_method_3_code 4 = .ok (.ladd, 1) := by decide +kernel
theorem d10_5 : decode prog_8_method_3_code 5 = .ok (.l2i, 1) := by decide +kernel
theorem d10_6 : decode prog_8_method_3_code 6 = .ok (.istore 5, 2) := by decide +kernel
theorem d10_8 : decode prog_8_method_3_code 8 = .ok (.iconst 1, 1) := by decide +kernel
theorem d10_9 : decode prog_8_method_3_code 9 = .ok (.iconst 2, 1) := by decide +kernel
theorem d10_10 : decode prog_8_method_3_code 10 = .ok (.iload 5, 2) := by decide +kernel
theorem d10_12 : decode prog_8_method_3_code 12 = .ok (.imul, 1) := by decide +kernel
theorem d10_13 : decode prog_8_method_3_code 13 = .ok (.invokestatic 27, 3) := by decide +kernel
theorem d10_16 : decode prog_8_method_3_code 16 = .ok (.newarray .long, 2) := by decide +kernel
theorem d10_18 : decode prog_8_method_3_code 18 = .ok (.astore 6, 2) := by decide +kernel
theorem d10_20 : decode prog_8_method_3_code 20 = .ok (.aload_n 0, 1) := by decide +kernel
theorem d10_21 : decode prog_8_method_3_code 21 = .ok (.getfield 24, 3) := by decide +kernel
theorem d10_24 : decode prog_8_method_3_code 24 = .ok (.lload_n 1, 1) := by decide +kernel
theorem d10_25 : decode prog_8_method_3_code 25 = .ok (.aload_n 0, 1) := by decide +kernel
theorem d10_26 : decode prog_8_method_3_code 26 = .ok (.getfield 20, 3) := by decide +kernel
theorem d10_29 : decode prog_8_method_3_code 29 = .ok (.lsub, 1) := by decide +kernel
theorem d10_30 : decode prog_8_method_3_code 30 = .ok (.l2i, 1) := by decide +kernel
theorem d10_31 : decode prog_8_method_3_code 31 = .ok (.aload 6, 2) := by decide +kernel
theorem d10_33 : decode prog_8_method_3_code 33 = .ok (.iconst 0, 1) := by decide +kernel
theorem d10_34 : decode prog_8_method_3_code 34 = .ok (.iload 5, 2) := by decide +kernel
theorem d10_36 : decode prog_8_method_3_code 36 = .ok (.invokestatic 42, 3) := by decide +kernel
theorem d10_39 : decode prog_8_method_3_code 39 = .ok (.new 8, 3) := by decide +kernel
theorem d10_42 : decode prog_8_method_3_code 42 = .ok (.dup, 1) := by decide +kernel
theorem d10_43 : decode prog_8_method_3_code 43 = .ok (.aload_n 0, 1) := by decide +kernel
theorem d10_44 : decode prog_8_method_3_code 44 = .ok (.getfield 7, 3) := by decide +kernel
theorem d10_47 : decode prog_8_method_3_code 47 = .ok (.aload_n 0, 1) := by decide +kernel
theorem d10_48 : decode prog_8_method_3_code 48 = .ok (.getfield 13, 3) := by decide +kernel
theorem d10_51 : decode prog_8_method_3_code 51 = .ok (.aload_n 0, 1) := by decide +kernel
theorem d10_52 : decode prog_8_method_3_code 52 = .ok (.getfield 16, 3) := by decide +kernel
theorem d10_55 : decode prog_8_method_3_code 55 = .ok (.lload_n 1, 1) := by decide +kernel
theorem d10_56 : decode prog_8_method_3_code 56 = .ok (.aload 6, 2) := by decide +kernel
theorem d10_58 : decode prog_8_method_3_code 58 = .ok (.invokespecial 39, 3) := by decide +kernel
theorem d10_61 : decode prog_8_method_3_code 61 = .ok (.areturn, 1) := by decide +kernel
theorem ef_rmRB (m : MethodId) (x0 : Addr) (x1 : Int64) (x2 : Int64) : entryFrame m #[(.ref x0), (.long x1), (.long x2)] 7 = mkF m 0 #[sR x0, sJ x1, sS, sJ x2, sS, sU, sU] [] := by first | (simp [entryFrame, mkF, argsToLocals, Value.category]; done) | rfl
set_option maxRecDepth 65536 in
set_option maxHeartbeats 400000000 in
theorem rmRB (l : Launch) (Z : State) (a0 : Array Value) (hw : ∀ d ∈ tables_1, d.before a0 Z = true) (ws : List Jvm.Cond) (w_NONE : Addr) (k_NONE : ClassId) (hS : SF Z w_NONE k_NONE) (a1 : Addr) (fl nw : Int64) (oc cn sz nl : Int32) (sa ta ma : Addr) (hcn : (nw - fl) + (1 : Int64) = cn.toInt64) (hc0 : 0 ≤ cn.toInt) (hc2 : cn.toInt ≤ 2) (hsz : cn.toInt ≤ sz.toInt) (hnl : nl = maxF (1 : Int32) ((2 : Int32) * cn)) (h0 : Heap) (O0 : Ext Z.heap h0) (EA : Exa Z h0 a1 "com/example/palimpsest/palimpsest/CommitTimes$Layout") (F_olderTimestamps : Fld Z h0 a1 "com/example/palimpsest/palimpsest/CommitTimes$Layout" "olderTimestamps" "[J" (.ref ta)) (F_olderTimes : Fld Z h0 a1 "com/example/palimpsest/palimpsest/CommitTimes$Layout" "olderTimes" "[J" (.ref ma)) (F_olderCount : Fld Z h0 a1 "com/example/palimpsest/palimpsest/CommitTimes$Layout" "olderCount" "I" (.int oc)) (F_floor : Fld Z h0 a1 "com/example/palimpsest/palimpsest/CommitTimes$Layout" "floor" "J" (.long fl)) (F_slots : Fld Z h0 a1 "com/example/palimpsest/palimpsest/CommitTimes$Layout" "slots" "[J" (.ref sa)) (A_sa : AL Z h0 sa sz) :
    Con l Z h0 (⟨"com/example/palimpsest/palimpsest/CommitTimes$Layout", "rebased", "(JJ)Lcom/example/palimpsest/palimpsest/CommitTimes$Layout;"⟩ : MethodName) prog_8_method_3_code 7 (some (.object "com/example/palimpsest/palimpsest/CommitTimes$Layout")) ws ({ frames := 3, cells := 2, slots := 9, locals := 60 } : Room) #[(.ref a1), (.long fl), (.long nw)] (fun v h L => (∃ ly ar, v = some (.ref ly) ∧ h0.size ≤ ly ∧ h0.size ≤ ar ∧ ly ≠ ar ∧ Exa Z h ly "com/example/palimpsest/palimpsest/CommitTimes$Layout" ∧ Fld Z h ly "com/example/palimpsest/palimpsest/CommitTimes$Layout" "olderTimestamps" "[J" (.ref ta) ∧ Fld Z h ly "com/example/palimpsest/palimpsest/CommitTimes$Layout" "olderTimes" "[J" (.ref ma) ∧ Fld Z h ly "com/example/palimpsest/palimpsest/CommitTimes$Layout" "olderCount" "I" (.int oc) ∧ Fld Z h ly "com/example/palimpsest/palimpsest/CommitTimes$Layout" "floor" "J" (.long fl) ∧ Fld Z h ly "com/example/palimpsest/palimpsest/CommitTimes$Layout" "slots" "[J" (.ref ar) ∧ AL Z h ar nl) ∧ Fr Z.heap.size L ∧ Keep h0 h []) := by
  obtain ⟨S_NONE, E_NONE, V_NONE⟩ := id hS
  refine own_con (plainFor_of_name pn_938991) ?_
  intro p e s m below meth c T0 X0 hx hby hml hown hnm hret hlk hZ e0
  have hown : s.vm.findClass "com/example/palimpsest/palimpsest/CommitTimes$Layout" = some m.cls := hown
  have N0 := Fr.nil Z.heap.size
  have KP0 : Keep h0 h0 [] := Keep.refl h0 _
  refine Go.st (S' := T0.setTop (mkF m 0 #[sR a1, sJ fl, sS, sJ nw, sS, sU, sU] [])) (fun _ k => castTop (ef_rmRB m a1 fl nw) k) ?_
  refine Go.st (S' := T0.setTop (mkF m 1 #[sR a1, sJ fl, sS, sJ nw, sS, sU, sU] [(.long nw)])) (fun _ k => XS.lloadN X0.here hx rfl (hb hby d10_0) rfl k) ?_
  refine Go.st (S' := T0.setTop (mkF m 2 #[sR a1, sJ fl, sS, sJ nw, sS, sU, sU] [(.long fl), (.long nw)])) (fun _ k => XS.lloadN X0.here hx rfl (hb hby d10_1) rfl k) ?_
  refine Go.st (S' := T0.setTop (mkF m 3 #[sR a1, sJ fl, sS, sJ nw, sS, sU, sU] [(.long (nw - fl))])) (fun _ k => XS.lsub X0.here hx rfl (hb hby d10_2) rfl k) ?_
  refine Go.st (S' := T0.setTop (mkF m 4 #[sR a1, sJ fl, sS, sJ nw, sS, sU, sU] [(.long (1 : Int64)), (.long (nw - fl))])) (fun _ k => XS.lconst X0.here hx rfl (hb hby d10_3) k) ?_
  refine Go.st (S' := T0.setTop (mkF m 5 #[sR a1, sJ fl, sS, sJ nw, sS, sU, sU] [(.long ((nw - fl) + (1 : Int64)))])) (fun _ k => XS.ladd X0.here hx rfl (hb hby d10_4) rfl k) ?_
  refine Go.st (S' := T0.setTop (mkF m 5 #[sR a1, sJ fl, sS, sJ nw, sS, sU, sU] [(.long (cn.toInt64))])) (fun _ k => by rw [(hcn : ((nw - fl) + (1 : Int64)) = (cn.toInt64))]; exact k) ?_
  refine Go.st (S' := T0.setTop (mkF m 6 #[sR a1, sJ fl, sS, sJ nw, sS, sU, sU] [(.int ((cn.toInt64).toInt32))])) (fun _ k => XS.l2i X0.here hx rfl (hb hby d10_5) rfl k) ?_
  refine Go.st (S' := T0.setTop (mkF m 6 #[sR a1, sJ fl, sS, sJ nw, sS, sU, sU] [(.int cn)])) (fun _ k => by rw [(own_rt cn : ((cn.toInt64).toInt32) = cn)]; exact k) ?_
  refine Go.st (S' := T0.setTop (mkF m 8 #[sR a1, sJ fl, sS, sJ nw, sS, sI cn, sU] [])) (fun _ k => XS.istore X0.here hx rfl (hb hby d10_6) rfl (l' := #[sR a1, sJ fl, sS, sJ nw, sS, sI cn, sU]) rfl k) ?_
  refine Go.st (S' := T0.setTop (mkF m 9 #[sR a1, sJ fl, sS, sJ nw, sS, sI cn, sU] [(.int (1 : Int32))])) (fun _ k => XS.iconst X0.here hx rfl (hb hby d10_8) k) ?_
  refine Go.st (S' := T0.setTop (mkF m 10 #[sR a1, sJ fl, sS, sJ nw, sS, sI cn, sU] [(.int (2 : Int32)), (.int (1 : Int32))])) (fun _ k => XS.iconst X0.here hx rfl (hb hby d10_9) k) ?_
  refine Go.st (S' := T0.setTop (mkF m 12 #[sR a1, sJ fl, sS, sJ nw, sS, sI cn, sU] [(.int cn), (.int (2 : Int32)), (.int (1 : Int32))])) (fun _ k => XS.iload X0.here hx rfl (hb hby d10_10) rfl k) ?_
  refine Go.st (S' := T0.setTop (mkF m 13 #[sR a1, sJ fl, sS, sJ nw, sS, sI cn, sU] [(.int ((2 : Int32) * cn)), (.int (1 : Int32))])) (fun _ k => XS.imul X0.here hx rfl (hb hby d10_12) rfl k) ?_
  obtain ⟨_, T49, L49, X49, ⟨rfl, Nq49, eq49⟩, st49⟩ := own_callS X0 hx hZ hown (ww hw 77 rfl) (ww hw 78 rfl) (ww hw 79 rfl) (ww hw 80 rfl) (by decide) e0 (rm_maxF l Z a0 hw [] w_NONE k_NONE hS (1 : Int32) ((2 : Int32) * cn) h0 O0) 0 (by decide) (by decide) (by decide) (by decide) (g := (mkF m 13 #[sR a1, sJ fl, sS, sJ nw, sS, sI cn, sU] [(.int ((2 : Int32) * cn)), (.int (1 : Int32))])) rfl (by rw [hml]; rfl) [(.int (1 : Int32)), (.int ((2 : Int32) * cn))] [] rfl (lenOf pd_947237 rfl) rfl (by show 2 * 0 + _ ≤ _; exact Nat.le_of_eq rfl) (hb hby d10_13)
  have N49 := Fr.app N0 Nq49
  refine Go.st (S' := T49.setTop (mkF m 16 #[sR a1, sJ fl, sS, sJ nw, sS, sI cn, sU] [(.int (maxF (1 : Int32) ((2 : Int32) * cn)))])) st49 ?_
  refine Go.st (S' := T49.setTop (mkF m 16 #[sR a1, sJ fl, sS, sJ nw, sS, sI cn, sU] [(.int nl)])) (fun _ k => by rw [(hnl.symm : (maxF (1 : Int32) ((2 : Int32) * cn)) = nl)]; exact k) ?_
  obtain ⟨T50, h50, k50, X50, e50, E50, A50, Ea50, st50⟩ := newPE X49 hx hZ (ww hw 69 rfl) eq49 (g := (mkF m 16 #[sR a1, sJ fl, sS, sJ nw, sS, sI cn, sU] [(.int nl)])) rfl (hb hby d10_16) rfl (own_pos (own_nr hnl hc0 hc2).1) (cap := 4) (own_cap (own_nr hnl hc0 hc2).1 (own_nr hnl hc0 hc2).2.1) (by decide) (by decide) (by decide) (ad := "[J") (by decide)
  obtain ⟨b50, g50⟩ : ∃ z, z = h0.size := ⟨_, rfl⟩
  rw [← g50] at A50 Ea50 st50
  have gz50 : Z.heap.size ≤ b50 := Nat.le_trans O0.1 (Nat.le_of_eq g50.symm)
  have sz50 : h0.size ≤ b50 := Nat.le_trans KP0.1 (Nat.le_of_eq g50.symm)
  have ne_a1_b50 : a1 ≠ b50 := own_lt_ne F_olderTimestamps.lt g50
  have ne_sa_b50 : sa ≠ b50 := own_lt_ne A_sa.lt g50
  have O50 : Ext Z.heap h50 := own_Ext.trans O0 E50
  have KP50 : Keep h0 h50 [] := KP0.ext E50
  have V50 : Arv Z h50 b50 k50 .long nl (List.replicate 4 (.long (0 : Int64))) (.long (0 : Int64)) := (Arv.new A50 (own_pos (own_nr hnl hc0 hc2).1)).pad (pad_rep [] (.long (0 : Int64)) 4)
  refine Go.st (S' := T50.setTop (mkF m 18 #[sR a1, sJ fl, sS, sJ nw, sS, sI cn, sU] [(.ref b50)])) st50 ?_
  refine Go.st (S' := T50.setTop (mkF m 20 #[sR a1, sJ fl, sS, sJ nw, sS, sI cn, sR b50] [])) (fun _ k => XS.astore X50.here hx rfl (hb hby d10_18) rfl rfl (l' := #[sR a1, sJ fl, sS, sJ nw, sS, sI cn, sR b50]) rfl k) ?_
  refine Go.st (S' := T50.setTop (mkF m 21 #[sR a1, sJ fl, sS, sJ nw, sS, sI cn, sR b50] [(.ref a1)])) (fun _ k => XS.aloadN X50.here hx rfl (hb hby d10_20) rfl rfl k) ?_
  obtain ⟨T51, X51, e51, st51⟩ := getF X50 hx hZ hown (host := "") (Or.inl (ww hw 33 rfl)) Via.refl e50 (F_slots.ext E50) (g := (mkF m 21 #[sR a1, sJ fl, sS, sJ nw, sS, sI cn, sR b50] [(.ref a1)])) rfl rfl (hb hby d10_21)
  refine Go.st (S' := T51.setTop (mkF m 24 #[sR a1, sJ fl, sS, sJ nw, sS, sI cn, sR b50] [(.ref sa)])) st51 ?_
  refine Go.st (S' := T51.setTop (mkF m 25 #[sR a1, sJ fl, sS, sJ nw, sS, sI cn, sR b50] [(.long fl), (.ref sa)])) (fun _ k => XS.lloadN X51.here hx rfl (hb hby d10_24) rfl k) ?_
  refine Go.st (S' := T51.setTop (mkF m 26 #[sR a1, sJ fl, sS, sJ nw, sS, sI cn, sR b50] [(.ref a1), (.long fl), (.ref sa)])) (fun _ k => XS.aloadN X51.here hx rfl (hb hby d10_25) rfl rfl k) ?_
  obtain ⟨T52, X52, e52, st52⟩ := getF X51 hx hZ hown (host := "") (Or.inl (ww hw 31 rfl)) Via.refl e51 (F_floor.ext E50) (g := (mkF m 26 #[sR a1, sJ fl, sS, sJ nw, sS, sI cn, sR b50] [(.ref a1), (.long fl), (.ref sa)])) rfl rfl (hb hby d10_26)
  refine Go.st (S' := T52.setTop (mkF m 29 #[sR a1, sJ fl, sS, sJ nw, sS, sI cn, sR b50] [(.long fl), (.long fl), (.ref sa)])) st52 ?_
  refine Go.st (S' := T52.setTop (mkF m 30 #[sR a1, sJ fl, sS, sJ nw, sS, sI cn, sR b50] [(.long (fl - fl)), (.ref sa)])) (fun _ k => XS.lsub X52.here hx rfl (hb hby d10_29) rfl k) ?_
  refine Go.st (S' := T52.setTop (mkF m 30 #[sR a1, sJ fl, sS, sJ nw, sS, sI cn, sR b50] [(.long (0 : Int64)), (.ref sa)])) (fun _ k => by rw [(own_o0 fl : (fl - fl) = (0 : Int64))]; exact k) ?_
  refine Go.st (S' := T52.setTop (mkF m 31 #[sR a1, sJ fl, sS, sJ nw, sS, sI cn, sR b50] [(.int (0 : Int32)), (.ref sa)])) (fun _ k => XS.l2i X52.here hx rfl (hb hby d10_30) rfl k) ?_
  refine Go.st (S' := T52.setTop (mkF m 33 #[sR a1, sJ fl, sS, sJ nw, sS, sI cn, sR b50] [(.ref b50), (.int (0 : Int32)), (.ref sa)])) (fun _ k => XS.aload X52.here hx rfl (hb hby d10_31) rfl rfl k) ?_
  refine Go.st (S' := T52.setTop (mkF m 34 #[sR a1, sJ fl, sS, sJ nw, sS, sI cn, sR b50] [(.int (0 : Int32)), (.ref b50), (.int (0 : Int32)), (.ref sa)])) (fun _ k => XS.iconst X52.here hx rfl (hb hby d10_33) k) ?_
  refine Go.st (S' := T52.setTop (mkF m 36 #[sR a1, sJ fl, sS, sJ nw, sS, sI cn, sR b50] [(.int cn), (.int (0 : Int32)), (.ref b50), (.int (0 : Int32)), (.ref sa)])) (fun _ k => XS.iload X52.here hx rfl (hb hby d10_34) rfl k) ?_
  obtain ⟨⟨kss, vSs, VSs⟩, -⟩ := id (A_sa.ext E50)
  obtain ⟨T53, h53, L53, X53, e53, N53, Kc53, V53, st53⟩ := cpA X52 hx hZ hown (ww hw 81 rfl) (ww hw 84 rfl) (ww hw 82 rfl) (ww hw 83 rfl) e52 (us := ((List.range cn.toNatClampNeg).map fun i => vSs.getD ((0 : Int32).toNatClampNeg + i) (.long (0 : Int64)))) VSs V50 (Or.inl ⟨rfl, rfl⟩) (by decide) (by decide) (own_pos hc0) (own_leN hc0 hsz) (own_leN hc0 (Int.le_of_lt (own_nr hnl hc0 hc2).2.2)) rfl (own_leR hc0 (by omega)) N49 gz50 (g := (mkF m 36 #[sR a1, sJ fl, sS, sJ nw, sS, sI cn, sR b50] [(.int cn), (.int (0 : Int32)), (.ref b50), (.int (0 : Int32)), (.ref sa)])) rfl (by rw [hml]; rfl) (rest := []) rfl (hb hby d10_36) (by decide) (W := 0) (by show 2 * 0 + _ ≤ _; exact Nat.le_of_eq rfl) (by decide)
  have O53 : Ext Z.heap h53 := own_Ext.keep O50 Kc53 (allS gz50 all0)
  have KP53 : Keep h0 h53 [] := KP50.trans Kc53 (allS (Or.inr sz50) all0)
  refine Go.st (S' := T53.setTop (mkF m 39 #[sR a1, sJ fl, sS, sJ nw, sS, sI cn, sR b50] [])) st53 ?_
  obtain ⟨T54, h54, X54, e54, E54, A54, D54, -, st54⟩ := newO X53 hx hZ hown (ww hw 68 rfl) (ww hw 12 rfl) (ww hw 13 rfl) e53 (g := (mkF m 39 #[sR a1, sJ fl, sS, sJ nw, sS, sI cn, sR b50] [])) rfl (hb hby d10_39) (by decide) (by decide)
  obtain ⟨b54, g54⟩ : ∃ z, z = h53.size := ⟨_, rfl⟩
  rw [← g54] at A54 D54 st54
  have gz54 : Z.heap.size ≤ b54 := Nat.le_trans O53.1 (Nat.le_of_eq g54.symm)
  have sz54 : h0.size ≤ b54 := Nat.le_trans KP53.1 (Nat.le_of_eq g54.symm)
  have ne_a1_b54 : a1 ≠ b54 := own_lt_ne ((F_olderTimestamps.ext E50).keep Kc53 (ninS ne_a1_b50 nin0)).lt g54
  have ne_sa_b54 : sa ≠ b54 := own_lt_ne ((A_sa.ext E50).keep Kc53 (ninS ne_sa_b50 nin0)).lt g54
  have ne_b50_b54 : b50 ≠ b54 := own_lt_ne (Ea50.keep Kc53).lt g54
  have O54 : Ext Z.heap h54 := own_Ext.trans O53 E54
  have KP54 : Keep h0 h54 [] := KP53.ext E54
  have F54_olderTimestamps : Fld Z h54 b54 "com/example/palimpsest/palimpsest/CommitTimes$Layout" "olderTimestamps" "[J" .null := D54 (Or.inr (ww hw 26 rfl)) (ty := (.array .long)) pf_132122
  have F54_olderTimes : Fld Z h54 b54 "com/example/palimpsest/palimpsest/CommitTimes$Layout" "olderTimes" "[J" .null := D54 (Or.inr (ww hw 28 rfl)) (ty := (.array .long)) pf_132122
  have F54_olderCount : Fld Z h54 b54 "com/example/palimpsest/palimpsest/CommitTimes$Layout" "olderCount" "I" (.int (0 : Int32)) := D54 (Or.inr (ww hw 30 rfl)) (ty := .int) pf_990
  have F54_floor : Fld Z h54 b54 "com/example/palimpsest/palimpsest/CommitTimes$Layout" "floor" "J" (.long (0 : Int64)) := D54 (Or.inr (ww hw 32 rfl)) (ty := .long) pf_991
  have F54_slots : Fld Z h54 b54 "com/example/palimpsest/palimpsest/CommitTimes$Layout" "slots" "[J" .null := D54 (Or.inr (ww hw 34 rfl)) (ty := (.array .long)) pf_132122
  refine Go.st (S' := T54.setTop (mkF m 42 #[sR a1, sJ fl, sS, sJ nw, sS, sI cn, sR b50] [(.ref b54)])) st54 ?_
  refine Go.st (S' := T54.setTop (mkF m 43 #[sR a1, sJ fl, sS, sJ nw, sS, sI cn, sR b50] [(.ref b54), (.ref b54)])) (fun _ k => XS.dup X54.here hx rfl (hb hby d10_42) rfl rfl k) ?_
  refine Go.st (S' := T54.setTop (mkF m 44 #[sR a1, sJ fl, sS, sJ nw, sS, sI cn, sR b50] [(.ref a1), (.ref b54), (.ref b54)])) (fun _ k => XS.aloadN X54.here hx rfl (hb hby d10_43) rfl rfl k) ?_
  obtain ⟨T55, X55, e55, st55⟩ := getF X54 hx hZ hown (host := "") (Or.inl (ww hw 25 rfl)) Via.refl e54 (((F_olderTimestamps.ext E50).keep Kc53 (ninS ne_a1_b50 nin0)).ext E54) (g := (mkF m 44 #[sR a1, sJ fl, sS, sJ nw, sS, sI cn, sR b50] [(.ref a1), (.ref b54), (.ref b54)])) rfl rfl (hb hby d10_44)
  refine Go.st (S' := T55.setTop (mkF m 47 #[sR a1, sJ fl, sS, sJ nw, sS, sI cn, sR b50] [(.ref ta), (.ref b54), (.ref b54)])) st55 ?_
  refine Go.st (S' := T55.setTop (mkF m 48 #[sR a1, sJ fl, sS, sJ nw, sS, sI cn, sR b50] [(.ref a1), (.ref ta), (.ref b54), (.ref b54)])) (fun _ k => XS.aloadN X55.here hx rfl (hb hby d10_47) rfl rfl k) ?_
  obtain ⟨T56, X56, e56, st56⟩ := getF X55 hx hZ hown (host := "") (Or.inl (ww hw 27 rfl)) Via.refl e55 (((F_olderTimes.ext E50).keep Kc53 (ninS ne_a1_b50 nin0)).ext E54) (g := (mkF m 48 #[sR a1, sJ fl, sS, sJ nw, sS, sI cn, sR b50] [(.ref a1), (.ref ta), (.ref b54), (.ref b54)])) rfl rfl (hb hby d10_48)
  refine Go.st (S' := T56.setTop (mkF m 51 #[sR a1, sJ fl, sS, sJ nw, sS, sI cn, sR b50] [(.ref ma), (.ref ta), (.ref b54), (.ref b54)])) st56 ?_
  refine Go.st (S' := T56.setTop (mkF m 52 #[sR a1, sJ fl, sS, sJ nw, sS, sI cn, sR b50] [(.ref a1), (.ref ma), (.ref ta), (.ref b54), (.ref b54)])) (fun _ k => XS.aloadN X56.here hx rfl (hb hby d10_51) rfl rfl k) ?_
  obtain ⟨T57, X57, e57, st57⟩ := getF X56 hx hZ hown (host := "") (Or.inl (ww hw 29 rfl)) Via.refl e56 (((F_olderCount.ext E50).keep Kc53 (ninS ne_a1_b50 nin0)).ext E54) (g := (mkF m 52 #[sR a1, sJ fl, sS, sJ nw, sS, sI cn, sR b50] [(.ref a1), (.ref ma), (.ref ta), (.ref b54), (.ref b54)])) rfl rfl (hb hby d10_52)
  refine Go.st (S' := T57.setTop (mkF m 55 #[sR a1, sJ fl, sS, sJ nw, sS, sI cn, sR b50] [(.int oc), (.ref ma), (.ref ta), (.ref b54), (.ref b54)])) st57 ?_
  refine Go.st (S' := T57.setTop (mkF m 56 #[sR a1, sJ fl, sS, sJ nw, sS, sI cn, sR b50] [(.long fl), (.int oc), (.ref ma), (.ref ta), (.ref b54), (.ref b54)])) (fun _ k => XS.lloadN X57.here hx rfl (hb hby d10_55) rfl k) ?_
  refine Go.st (S' := T57.setTop (mkF m 58 #[sR a1, sJ fl, sS, sJ nw, sS, sI cn, sR b50] [(.ref b50), (.long fl), (.int oc), (.ref ma), (.ref ta), (.ref b54), (.ref b54)])) (fun _ k => XS.aload X57.here hx rfl (hb hby d10_56) rfl rfl k) ?_
  obtain ⟨_, T58, L58, X58, ⟨rfl, Nq58, kp58, folderTimestamps58, folderTimes58, folderCount58, ffloor58, fslots58⟩, st58⟩ := own_callI X57 hx hZ rfl hown (ww hw 70 rfl) (ww hw 17 rfl) (ww hw 13 rfl) (ww hw 18 rfl) (by decide) e57 (rmLY l Z a0 hw [] w_NONE k_NONE hS b54 ta ma oc fl b50 h54 O54 gz54 A54 F54_olderTimestamps F54_olderTimes F54_olderCount F54_floor F54_slots) 1 (by decide) (by decide) (by decide) (by decide) (g := (mkF m 58 #[sR a1, sJ fl, sS, sJ nw, sS, sI cn, sR b50] [(.ref b50), (.long fl), (.int oc), (.ref ma), (.ref ta), (.ref b54), (.ref b54)])) rfl (by rw [hml]; rfl) [(.ref ta), (.ref ma), (.int oc), (.long fl), (.ref b50)] [(.ref b54)] rfl (lenOf pd_950621 rfl) rfl (by show 2 * 0 + _ ≤ _; exact Nat.le_of_eq rfl) (hb hby d10_58)
  have N58 := Fr.app N53 Nq58
  have O58 : Ext Z.heap T58.heap := own_Ext.keep O54 kp58 (allS gz54 all0)
  have KP58 : Keep h0 T58.heap [] := KP54.trans kp58 (allS (Or.inr sz54) all0)
  refine Go.st (S' := T58.setTop (mkF m 61 #[sR a1, sJ fl, sS, sJ nw, sS, sI cn, sR b50] [(.ref b54)])) st58 ?_
  exact own_retA X58 hx hlk hret rfl rfl rfl (hb hby d10_61) rfl ⟨⟨_, _, rfl, sz54, sz50, (Ne.symm ne_b50_b54), (A54.keep kp58), folderTimestamps58, folderTimes58, folderCount58, ffloor58, fslots58, ⟨⟨_, _, ((V53.ext E54).keep kp58 (ninS ne_b50_b54 nin0))⟩, (((Ea50.keep Kc53).ext E54).keep kp58)⟩⟩, N58, KP58⟩ (by decide) (by decide)
theorem d8_0 : decode prog_7_method_3_code 0 = .ok (.aload_n 0, 1) := by decide +kernel
theorem d8_1 : decode prog_7_method_3_code 1 = .ok (.getfield 20, 3) := by decide +kernel
theorem d8_4 : decode prog_7_method_3_code 4 = .ok (.astore 5, 2) := by decide +kernel
theorem d8_6 : decode prog_7_method_3_code 6 = .ok (.aload 5, 2) := by decide +kernel
theorem d8_8 : decode prog_7_method_3_code 8 = .ok (.astore 6, 2) := by decide +kernel
theorem d8_10 : decode prog_7_method_3_code 10 = .ok (.lload_n 1, 1) := by decide +kernel
theorem d8_11 : decode prog_7_method_3_code 11 = .ok (.aload_n 0, 1) := by decide +kernel
theorem d8_12 : decode prog_7_method_3_code 12 = .ok (.getfield 40, 3) := by decide +kernel
theorem d8_15 : decode prog_7_method_3_code 15 = .ok (.lconst 1, 1) := by decide +kernel
theorem d8_16 : decode prog_7_method_3_code 16 = .ok (.ladd, 1) := by decide +kernel
theorem d8_17 : decode prog_7_method_3_code 17 = .ok (.lcmp, 1) := by decide +kernel
theorem d8_18 : decode prog_7_method_3_code 18 = .ok (.ifCond .eq 15, 3) := by decide +kernel
theorem d8_21 : decode prog_7_method_3_code 21 = .ok (.aload 6, 2) := by decide +kernel
theorem d8_23 : decode prog_7_method_3_code 23 = .ok (.lload_n 1, 1) := by decide +kernel
theorem d8_24 : decode prog_7_method_3_code 24 = .ok (.aload_n 0, 1) := by decide +kernel
theorem d8_25 : decode prog_7_method_3_code 25 = .ok (.getfield 40, 3) := by decide +kernel
theorem d8_28 : decode prog_7_method_3_code 28 = .ok (.invokevirtual 44, 3) := by decide +kernel
theorem d8_31 : decode prog_7_method_3_code 31 = .ok (.astore 6, 2) := by decide +kernel
theorem d8_33 : decode prog_7_method_3_code 33 = .ok (.lload_n 1, 1) := by decide +kernel
theorem d8_34 : decode prog_7_method_3_code 34 = .ok (.aload 6, 2) := by decide +kernel
theorem d8_36 : decode prog_7_method_3_code 36 = .ok (.getfield 48, 3) := by decide +kernel
theorem d8_39 : decode prog_7_method_3_code 39 = .ok (.lsub, 1) := by decide +kernel
theorem d8_40 : decode prog_7_method_3_code 40 = .ok (.lstore 7, 2) := by decide +kernel
theorem d8_42 : decode prog_7_method_3_code 42 = .ok (.lload 7, 2) := by decide +kernel
theorem d8_44 : decode prog_7_method_3_code 44 = .ok (.aload 6, 2) := by decide +kernel
theorem d8_46 : decode prog_7_method_3_code 46 = .ok (.getfield 51, 3) := by decide +kernel
theorem d8_49 : decode prog_7_method_3_code 49 = .ok (.arraylength, 1) := by decide +kernel
theorem d8_50 : decode prog_7_method_3_code 50 = .ok (.i2l, 1) := by decide +kernel
theorem d8_51 : decode prog_7_method_3_code 51 = .ok (.lcmp, 1) := by decide +kernel
theorem d8_52 : decode prog_7_method_3_code 52 = .ok (.ifCond .lt 28, 3) := by decide +kernel
theorem d8_55 : decode prog_7_method_3_code 55 = .ok (.aload 6, 2) := by decide +kernel
theorem d8_57 : decode prog_7_method_3_code 57 = .ok (.aload 6, 2) := by decide +kernel
theorem d8_59 : decode prog_7_method_3_code 59 = .ok (.getfield 48, 3) := by decide +kernel
theorem d8_62 : decode prog_7_method_3_code 62 = .ok (.aload_n 0, 1) := by decide +kernel
theorem d8_63 : decode prog_7_method_3_code 63 = .ok (.getfield 40, 3) := by decide +kernel
theorem d8_66 : decode prog_7_method_3_code 66 = .ok (.invokevirtual 54, 3) := by decide +kernel
theorem d8_69 : decode prog_7_method_3_code 69 = .ok (.astore 6, 2) := by decide +kernel
theorem d8_71 : decode prog_7_method_3_code 71 = .ok (.lload_n 1, 1) := by decide +kernel
theorem d8_72 : decode prog_7_method_3_code 72 = .ok (.aload 6, 2) := by decide +kernel
theorem d8_74 : decode prog_7_method_3_code 74 = .ok (.getfield 48, 3) := by decide +kernel
theorem d8_77 : decode prog_7_method_3_code 77 = .ok (.lsub, 1) := by decide +kernel
theorem d8_78 : decode prog_7_method_3_code 78 = .ok (.lstore 7, 2) := by decide +kernel
theorem d8_80 : decode prog_7_method_3_code 80 = .ok (.aload 6, 2) := by decide +kernel
theorem d8_82 : decode prog_7_method_3_code 82 = .ok (.getfield 51, 3) := by decide +kernel
theorem d8_85 : decode prog_7_method_3_code 85 = .ok (.lload 7, 2) := by decide +kernel
theorem d8_87 : decode prog_7_method_3_code 87 = .ok (.l2i, 1) := by decide +kernel
theorem d8_88 : decode prog_7_method_3_code 88 = .ok (.lload_n 3, 1) := by decide +kernel
theorem d8_89 : decode prog_7_method_3_code 89 = .ok (.lastore, 1) := by decide +kernel
theorem d8_90 : decode prog_7_method_3_code 90 = .ok (.aload 6, 2) := by decide +kernel
theorem d8_92 : decode prog_7_method_3_code 92 = .ok (.aload 5, 2) := by decide +kernel
theorem d8_94 : decode prog_7_method_3_code 94 = .ok (.if_acmp .eq 9, 3) := by decide +kernel
theorem d8_97 : decode prog_7_method_3_code 97 = .ok (.aload_n 0, 1) := by decide +kernel
theorem d8_98 : decode prog_7_method_3_code 98 = .ok (.aload 6, 2) := by decide +kernel
theorem d8_100 : decode prog_7_method_3_code 100 = .ok (.putfield 20, 3) := by decide +kernel
theorem d8_103 : decode prog_7_method_3_code 103 = .ok (.aload_n 0, 1) := by decide +kernel
theorem d8_104 : decode prog_7_method_3_code 104 = .ok (.lload_n 1, 1) := by decide +kernel
theorem d8_105 : decode prog_7_method_3_code 105 = .ok (.putfield 40, 3) := by decide +kernel
theorem d8_108 : decode prog_7_method_3_code 108 = .ok (.return_, 1) := by decide +kernel
theorem pd_873481 : parseMethodDescriptor "(JJ)Lcom/example/palimpsest/palimpsest/CommitTimes$Layout;" = some ⟨[.long, .long], some (.object "com/example/palimpsest/palimpsest/CommitTimes$Layout")⟩ := by decide +kernel
theorem sn_653249_layout_newest {Z : State} {a0 : Array Value} (hw : ∀ d ∈ tables_1, d.before a0 Z = true) : Jvm.RoadKit.slotOf Z "com/example/palimpsest/palimpsest/CommitTimes" "layout" "Lcom/example/palimpsest/palimpsest/CommitTimes$Layout;" ≠ Jvm.RoadKit.slotOf Z "com/example/palimpsest/palimpsest/CommitTimes" "newest" "J" := slot_ne (Or.inl (ww hw 36 rfl)) (Or.inl (ww hw 62 rfl)) (by decide +kernel) (t := (.object "com/example/palimpsest/palimpsest/CommitTimes$Layout")) (t' := .long) (by decide +kernel) (by decide +kernel)
theorem ef_rmAddI (m : MethodId) (x0 : Addr) (x1 : Int64) (x2 : Int64) : entryFrame m #[(.ref x0), (.long x1), (.long x2)] 9 = mkF m 0 #[sR x0, sJ x1, sS, sJ x2, sS, sU, sU, sU, sU] [] := by first | (simp [entryFrame, mkF, argsToLocals, Value.category]; done) | rfl
set_option maxRecDepth 65536 in
set_option maxHeartbeats 400000000 in
theorem rmAddI (l : Launch) (Z : State) (a0 : Array Value) (hw : ∀ d ∈ tables_1, d.before a0 Z = true) (ws : List Jvm.Cond) (w_NONE : Addr) (k_NONE : ClassId) (hS : SF Z w_NONE k_NONE) (a1 : Addr) (q2 tm : Int64) (ly : Addr) (h0 : Heap) (O0 : Ext Z.heap h0) (ga : Z.heap.size ≤ a1) (EA : Exa Z h0 a1 "com/example/palimpsest/palimpsest/CommitTimes") (EL : Exa Z h0 ly "com/example/palimpsest/palimpsest/CommitTimes$Layout") (n1 : a1 ≠ ly) (F_layout : Fld Z h0 a1 "com/example/palimpsest/palimpsest/CommitTimes" "layout" "Lcom/example/palimpsest/palimpsest/CommitTimes$Layout;" (.ref ly)) (F_newest : Fld Z h0 a1 "com/example/palimpsest/palimpsest/CommitTimes" "newest" "J" (.long (0 : Int64))) (L_olderTimestamps : Fld Z h0 ly "com/example/palimpsest/palimpsest/CommitTimes$Layout" "olderTimestamps" "[J" (.ref w_NONE)) (L_olderTimes : Fld Z h0 ly "com/example/palimpsest/palimpsest/CommitTimes$Layout" "olderTimes" "[J" (.ref w_NONE)) (L_olderCount : Fld Z h0 ly "com/example/palimpsest/palimpsest/CommitTimes$Layout" "olderCount" "I" (.int (0 : Int32))) (L_floor : Fld Z h0 ly "com/example/palimpsest/palimpsest/CommitTimes$Layout" "floor" "J" (.long (1 : Int64))) (L_slots : Fld Z h0 ly "com/example/palimpsest/palimpsest/CommitTimes$Layout" "slots" "[J" (.ref w_NONE)) :
    Con l Z h0 (⟨"com/example/palimpsest/palimpsest/CommitTimes", "add", "(JJ)V"⟩ : MethodName) prog_7_method_3_code 9 none ws ({ frames := 4, cells := 2, slots := 9, locals := 90 } : Room) #[(.ref a1), (.long q2), (.long tm)] (fun v h L => v = none ∧ Fr Z.heap.size L ∧ Keep h0 h [a1] ∧ ∃ ly ar, h0.size ≤ ly ∧ h0.size ≤ ar ∧ ly ≠ ar ∧ Exa Z h ly "com/example/palimpsest/palimpsest/CommitTimes$Layout" ∧ Fld Z h ly "com/example/palimpsest/palimpsest/CommitTimes$Layout" "olderTimestamps" "[J" (.ref w_NONE) ∧ Fld Z h ly "com/example/palimpsest/palimpsest/CommitTimes$Layout" "olderTimes" "[J" (.ref w_NONE) ∧ Fld Z h ly "com/example/palimpsest/palimpsest/CommitTimes$Layout" "olderCount" "I" (.int (0 : Int32)) ∧ Fld Z h ly "com/example/palimpsest/palimpsest/CommitTimes$Layout" "floor" "J" (.long q2) ∧ Fld Z h ly "com/example/palimpsest/palimpsest/CommitTimes$Layout" "slots" "[J" (.ref ar) ∧ Fld Z h a1 "com/example/palimpsest/palimpsest/CommitTimes" "layout" "Lcom/example/palimpsest/palimpsest/CommitTimes$Layout;" (.ref ly) ∧ Fld Z h a1 "com/example/palimpsest/palimpsest/CommitTimes" "newest" "J" (.long q2) ∧ AL Z h ar (1 : Int32)) := by
  obtain ⟨S_NONE, E_NONE, V_NONE⟩ := id hS
  refine own_con (plainFor_of_name pn_977193) ?_
  intro p e s m below meth c T0 X0 hx hby hml hown hnm hret hlk hZ e0
  have hown : s.vm.findClass "com/example/palimpsest/palimpsest/CommitTimes" = some m.cls := hown
  have N0 := Fr.nil Z.heap.size
  have KP0 : Keep h0 h0 [a1] := Keep.refl h0 _
  refine Go.st (S' := T0.setTop (mkF m 0 #[sR a1, sJ q2, sS, sJ tm, sS, sU, sU, sU, sU] [])) (fun _ k => castTop (ef_rmAddI m a1 q2 tm) k) ?_
  refine Go.st (S' := T0.setTop (mkF m 1 #[sR a1, sJ q2, sS, sJ tm, sS, sU, sU, sU, sU] [(.ref a1)])) (fun _ k => XS.aloadN X0.here hx rfl (hb hby d8_0) rfl rfl k) ?_
  obtain ⟨T59, X59, e59, st59⟩ := getF X0 hx hZ hown (host := "") (Or.inl (ww hw 35 rfl)) Via.refl e0 F_layout (g := (mkF m 1 #[sR a1, sJ q2, sS, sJ tm, sS, sU, sU, sU, sU] [(.ref a1)])) rfl rfl (hb hby d8_1)
  refine Go.st (S' := T59.setTop (mkF m 4 #[sR a1, sJ q2, sS, sJ tm, sS, sU, sU, sU, sU] [(.ref ly)])) st59 ?_
  refine Go.st (S' := T59.setTop (mkF m 6 #[sR a1, sJ q2, sS, sJ tm, sS, sR ly, sU, sU, sU] [])) (fun _ k => XS.astore X59.here hx rfl (hb hby d8_4) rfl rfl (l' := #[sR a1, sJ q2, sS, sJ tm, sS, sR ly, sU, sU, sU]) rfl k) ?_
  refine Go.st (S' := T59.setTop (mkF m 8 #[sR a1, sJ q2, sS, sJ tm, sS, sR ly, sU, sU, sU] [(.ref ly)])) (fun _ k => XS.aload X59.here hx rfl (hb hby d8_6) rfl rfl k) ?_
  refine Go.st (S' := T59.setTop (mkF m 10 #[sR a1, sJ q2, sS, sJ tm, sS, sR ly, sR ly, sU, sU] [])) (fun _ k => XS.astore X59.here hx rfl (hb hby d8_8) rfl rfl (l' := #[sR a1, sJ q2, sS, sJ tm, sS, sR ly, sR ly, sU, sU]) rfl k) ?_
  refine Go.st (S' := T59.setTop (mkF m 11 #[sR a1, sJ q2, sS, sJ tm, sS, sR ly, sR ly, sU, sU] [(.long q2)])) (fun _ k => XS.lloadN X59.here hx rfl (hb hby d8_10) rfl k) ?_
  refine Go.st (S' := T59.setTop (mkF m 12 #[sR a1, sJ q2, sS, sJ tm, sS, sR ly, sR ly, sU, sU] [(.ref a1), (.long q2)])) (fun _ k => XS.aloadN X59.here hx rfl (hb hby d8_11) rfl rfl k) ?_
  obtain ⟨T60, X60, e60, st60⟩ := getF X59 hx hZ hown (host := "") (Or.inl (ww hw 61 rfl)) Via.refl e59 F_newest (g := (mkF m 12 #[sR a1, sJ q2, sS, sJ tm, sS, sR ly, sR ly, sU, sU] [(.ref a1), (.long q2)])) rfl rfl (hb hby d8_12)
  refine Go.st (S' := T60.setTop (mkF m 15 #[sR a1, sJ q2, sS, sJ tm, sS, sR ly, sR ly, sU, sU] [(.long (0 : Int64)), (.long q2)])) st60 ?_
  refine Go.st (S' := T60.setTop (mkF m 16 #[sR a1, sJ q2, sS, sJ tm, sS, sR ly, sR ly, sU, sU] [(.long (1 : Int64)), (.long (0 : Int64)), (.long q2)])) (fun _ k => XS.lconst X60.here hx rfl (hb hby d8_15) k) ?_
  refine Go.st (S' := T60.setTop (mkF m 17 #[sR a1, sJ q2, sS, sJ tm, sS, sR ly, sR ly, sU, sU] [(.long (1 : Int64)), (.long q2)])) (fun _ k => XS.ladd X60.here hx rfl (hb hby d8_16) rfl k) ?_
  refine Go.st (S' := T60.setTop (mkF m 18 #[sR a1, sJ q2, sS, sJ tm, sS, sR ly, sR ly, sU, sU] [(.int (lcmpW q2 (1 : Int64)))])) (fun _ k => XS.lcmp X60.here hx rfl (hb hby d8_17) rfl k) ?_
  by_cases hc18 : q2 = (1 : Int64)
  · refine Go.st (S' := T60.setTop (mkF m 33 #[sR a1, sJ q2, sS, sJ tm, sS, sR ly, sR ly, sU, sU] [])) (fun _ k => XS.ifYes X60.here hx rfl (pc0 := 18) (pc' := 33) rfl (hb hby d8_18) rfl (own_Leq hc18).1 (by decide) (by decide) k) ?_
    refine Go.st (S' := T60.setTop (mkF m 34 #[sR a1, sJ q2, sS, sJ tm, sS, sR ly, sR ly, sU, sU] [(.long q2)])) (fun _ k => XS.lloadN X60.here hx rfl (hb hby d8_33) rfl k) ?_
    refine Go.st (S' := T60.setTop (mkF m 36 #[sR a1, sJ q2, sS, sJ tm, sS, sR ly, sR ly, sU, sU] [(.ref ly), (.long q2)])) (fun _ k => XS.aload X60.here hx rfl (hb hby d8_34) rfl rfl k) ?_
    refine Go.st (S' := T60.setTop (mkF m 39 #[sR a1, sJ q2, sS, sJ tm, sS, sR ly, sR ly, sU, sU] [(.long (1 : Int64)), (.long q2)])) (own_getFR X60 hx hZ hown (ww hw 71 rfl) e60 L_floor (g := (mkF m 36 #[sR a1, sJ q2, sS, sJ tm, sS, sR ly, sR ly, sU, sU] [(.ref ly), (.long q2)])) rfl rfl (hb hby d8_36)) ?_
    refine Go.st (S' := T60.setTop (mkF m 40 #[sR a1, sJ q2, sS, sJ tm, sS, sR ly, sR ly, sU, sU] [(.long (q2 - (1 : Int64)))])) (fun _ k => XS.lsub X60.here hx rfl (hb hby d8_39) rfl k) ?_
    refine Go.st (S' := T60.setTop (mkF m 40 #[sR a1, sJ q2, sS, sJ tm, sS, sR ly, sR ly, sU, sU] [(.long (0 : Int64))])) (fun _ k => by rw [(by rw [hc18]; rfl : (q2 - (1 : Int64)) = (0 : Int64))]; exact k) ?_
    refine Go.st (S' := T60.setTop (mkF m 42 #[sR a1, sJ q2, sS, sJ tm, sS, sR ly, sR ly, sJ 0, sS] [])) (fun _ k => XS.lstore X60.here hx rfl (hb hby d8_40) rfl (l' := #[sR a1, sJ q2, sS, sJ tm, sS, sR ly, sR ly, sJ 0, sS]) rfl k) ?_
    refine Go.st (S' := T60.setTop (mkF m 44 #[sR a1, sJ q2, sS, sJ tm, sS, sR ly, sR ly, sJ 0, sS] [(.long (0 : Int64))])) (fun _ k => XS.lload X60.here hx rfl (hb hby d8_42) rfl k) ?_
    refine Go.st (S' := T60.setTop (mkF m 46 #[sR a1, sJ q2, sS, sJ tm, sS, sR ly, sR ly, sJ 0, sS] [(.ref ly), (.long (0 : Int64))])) (fun _ k => XS.aload X60.here hx rfl (hb hby d8_44) rfl rfl k) ?_
    refine Go.st (S' := T60.setTop (mkF m 49 #[sR a1, sJ q2, sS, sJ tm, sS, sR ly, sR ly, sJ 0, sS] [(.ref w_NONE), (.long (0 : Int64))])) (own_getFR X60 hx hZ hown (ww hw 48 rfl) e60 L_slots (g := (mkF m 46 #[sR a1, sJ q2, sS, sJ tm, sS, sR ly, sR ly, sJ 0, sS] [(.ref ly), (.long (0 : Int64))])) rfl rfl (hb hby d8_46)) ?_
    refine Go.st (S' := T60.setTop (mkF m 50 #[sR a1, sJ q2, sS, sJ tm, sS, sR ly, sR ly, sJ 0, sS] [(.int (0 : Int32)), (.long (0 : Int64))])) (own_alen X60 hx hZ e60 (V_NONE.ext O0) (g := (mkF m 49 #[sR a1, sJ q2, sS, sJ tm, sS, sR ly, sR ly, sJ 0, sS] [(.ref w_NONE), (.long (0 : Int64))])) rfl rfl (hb hby d8_49)) ?_
    refine Go.st (S' := T60.setTop (mkF m 51 #[sR a1, sJ q2, sS, sJ tm, sS, sR ly, sR ly, sJ 0, sS] [(.long (0 : Int64)), (.long (0 : Int64))])) (fun _ k => XS.i2l X60.here hx rfl (hb hby d8_50) rfl k) ?_
    refine Go.st (S' := T60.setTop (mkF m 52 #[sR a1, sJ q2, sS, sJ tm, sS, sR ly, sR ly, sJ 0, sS] [(.int (lcmpW (0 : Int64) (0 : Int64)))])) (fun _ k => XS.lcmp X60.here hx rfl (hb hby d8_51) rfl k) ?_
    refine Go.st (S' := T60.setTop (mkF m 55 #[sR a1, sJ q2, sS, sJ tm, sS, sR ly, sR ly, sJ 0, sS] [])) (fun _ k => XS.ifNo X60.here hx rfl (hb hby d8_52) rfl (own_Lnlt (by decide)).1 k) ?_
    refine Go.st (S' := T60.setTop (mkF m 57 #[sR a1, sJ q2, sS, sJ tm, sS, sR ly, sR ly, sJ 0, sS] [(.ref ly)])) (fun _ k => XS.aload X60.here hx rfl (hb hby d8_55) rfl rfl k) ?_
    refine Go.st (S' := T60.setTop (mkF m 59 #[sR a1, sJ q2, sS, sJ tm, sS, sR ly, sR ly, sJ 0, sS] [(.ref ly), (.ref ly)])) (fun _ k => XS.aload X60.here hx rfl (hb hby d8_57) rfl rfl k) ?_
    refine Go.st (S' := T60.setTop (mkF m 62 #[sR a1, sJ q2, sS, sJ tm, sS, sR ly, sR ly, sJ 0, sS] [(.long (1 : Int64)), (.ref ly)])) (own_getFR X60 hx hZ hown (ww hw 71 rfl) e60 L_floor (g := (mkF m 59 #[sR a1, sJ q2, sS, sJ tm, sS, sR ly, sR ly, sJ 0, sS] [(.ref ly), (.ref ly)])) rfl rfl (hb hby d8_59)) ?_
    refine Go.st (S' := T60.setTop (mkF m 63 #[sR a1, sJ q2, sS, sJ tm, sS, sR ly, sR ly, sJ 0, sS] [(.ref a1), (.long (1 : Int64)), (.ref ly)])) (fun _ k => XS.aloadN X60.here hx rfl (hb hby d8_62) rfl rfl k) ?_
    obtain ⟨T65, X65, e65, st65⟩ := getF X60 hx hZ hown (host := "") (Or.inl (ww hw 61 rfl)) Via.refl e60 F_newest (g := (mkF m 63 #[sR a1, sJ q2, sS, sJ tm, sS, sR ly, sR ly, sJ 0, sS] [(.ref a1), (.long (1 : Int64)), (.ref ly)])) rfl rfl (hb hby d8_63)
    refine Go.st (S' := T65.setTop (mkF m 66 #[sR a1, sJ q2, sS, sJ tm, sS, sR ly, sR ly, sJ 0, sS] [(.long (0 : Int64)), (.long (1 : Int64)), (.ref ly)])) st65 ?_
    obtain ⟨_, T66, L66, X66, ⟨⟨ly66, ar66, rfl, sl66, sa66, nla66, el66, golderTimestamps66, golderTimes66, golderCount66, gfloor66, gslots66, va66⟩, Nq66, kp66⟩, st66⟩ := own_callV X65 hx hZ hown (ww hw 72 rfl) (ww hw 73 rfl) (notFace_of_selects (args := #[]) (mvT hZ (ww hw 75 rfl))) (ww hw 75 rfl) (ww hw 74 rfl) (ww hw 13 rfl) (ww hw 76 rfl) (by decide) e65 EL (rmRB l Z a0 hw [] w_NONE k_NONE hS ly (1 : Int64) (0 : Int64) (0 : Int32) (0 : Int32) (0 : Int32) (1 : Int32) w_NONE w_NONE w_NONE (by decide) (by decide) (by decide) (by decide) (by decide) h0 O0 EL L_olderTimestamps L_olderTimes L_olderCount L_floor L_slots ⟨⟨_, _, V_NONE.ext O0⟩, E_NONE.ext O0⟩) 0 (by decide) (by decide) (by decide) (by decide) (g := (mkF m 66 #[sR a1, sJ q2, sS, sJ tm, sS, sR ly, sR ly, sJ 0, sS] [(.long (0 : Int64)), (.long (1 : Int64)), (.ref ly)])) rfl (by rw [hml]; rfl) [(.long (1 : Int64)), (.long (0 : Int64))] [] rfl (lenOf pd_873481 rfl) rfl (by show 2 * 0 + _ ≤ _; exact Nat.le_of_eq rfl) (hb hby d8_66)
    have N66 := Fr.app N0 Nq66
    have ne_a1_ly66 : a1 ≠ ly66 := own_lt_ne' F_layout.lt sl66
    have ne_ly_ly66 : ly ≠ ly66 := own_lt_ne' L_olderTimestamps.lt sl66
    have ne_a1_ar66 : a1 ≠ ar66 := own_lt_ne' F_layout.lt sa66
    have ne_ly_ar66 : ly ≠ ar66 := own_lt_ne' L_olderTimestamps.lt sa66
    have O66 : Ext Z.heap T66.heap := own_Ext.keep O0 kp66 all0
    have KP66 : Keep h0 T66.heap [a1] := KP0.trans kp66 all0
    refine Go.st (S' := T66.setTop (mkF m 69 #[sR a1, sJ q2, sS, sJ tm, sS, sR ly, sR ly, sJ 0, sS] [(.ref ly66)])) st66 ?_
    refine Go.st (S' := T66.setTop (mkF m 71 #[sR a1, sJ q2, sS, sJ tm, sS, sR ly, sR ly66, sJ 0, sS] [])) (fun _ k => XS.astore X66.here hx rfl (hb hby d8_69) rfl rfl (l' := #[sR a1, sJ q2, sS, sJ tm, sS, sR ly, sR ly66, sJ 0, sS]) rfl k) ?_
    refine Go.st (S' := T66.setTop (mkF m 72 #[sR a1, sJ q2, sS, sJ tm, sS, sR ly, sR ly66, sJ 0, sS] [(.long q2)])) (fun _ k => XS.lloadN X66.here hx rfl (hb hby d8_71) rfl k) ?_
    refine Go.st (S' := T66.setTop (mkF m 74 #[sR a1, sJ q2, sS, sJ tm, sS, sR ly, sR ly66, sJ 0, sS] [(.ref ly66), (.long q2)])) (fun _ k => XS.aload X66.here hx rfl (hb hby d8_72) rfl rfl k) ?_
    refine Go.st (S' := T66.setTop (mkF m 77 #[sR a1, sJ q2, sS, sJ tm, sS, sR ly, sR ly66, sJ 0, sS] [(.long (1 : Int64)), (.long q2)])) (own_getFR X66 hx hZ hown (ww hw 71 rfl) rfl gfloor66 (g := (mkF m 74 #[sR a1, sJ q2, sS, sJ tm, sS, sR ly, sR ly66, sJ 0, sS] [(.ref ly66), (.long q2)])) rfl rfl (hb hby d8_74)) ?_
    refine Go.st (S' := T66.setTop (mkF m 78 #[sR a1, sJ q2, sS, sJ tm, sS, sR ly, sR ly66, sJ 0, sS] [(.long (q2 - (1 : Int64)))])) (fun _ k => XS.lsub X66.here hx rfl (hb hby d8_77) rfl k) ?_
    refine Go.st (S' := T66.setTop (mkF m 78 #[sR a1, sJ q2, sS, sJ tm, sS, sR ly, sR ly66, sJ 0, sS] [(.long (0 : Int64))])) (fun _ k => by rw [(by rw [hc18]; rfl : (q2 - (1 : Int64)) = (0 : Int64))]; exact k) ?_
    refine Go.st (S' := T66.setTop (mkF m 80 #[sR a1, sJ q2, sS, sJ tm, sS, sR ly, sR ly66, sJ 0, sS] [])) (fun _ k => XS.lstore X66.here hx rfl (hb hby d8_78) rfl (l' := #[sR a1, sJ q2, sS, sJ tm, sS, sR ly, sR ly66, sJ 0, sS]) rfl k) ?_
    refine Go.st (S' := T66.setTop (mkF m 82 #[sR a1, sJ q2, sS, sJ tm, sS, sR ly, sR ly66, sJ 0, sS] [(.ref ly66)])) (fun _ k => XS.aload X66.here hx rfl (hb hby d8_80) rfl rfl k) ?_
    refine Go.st (S' := T66.setTop (mkF m 85 #[sR a1, sJ q2, sS, sJ tm, sS, sR ly, sR ly66, sJ 0, sS] [(.ref ar66)])) (own_getFR X66 hx hZ hown (ww hw 48 rfl) rfl gslots66 (g := (mkF m 82 #[sR a1, sJ q2, sS, sJ tm, sS, sR ly, sR ly66, sJ 0, sS] [(.ref ly66)])) rfl rfl (hb hby d8_82)) ?_
    refine Go.st (S' := T66.setTop (mkF m 87 #[sR a1, sJ q2, sS, sJ tm, sS, sR ly, sR ly66, sJ 0, sS] [(.long (0 : Int64)), (.ref ar66)])) (fun _ k => XS.lload X66.here hx rfl (hb hby d8_85) rfl k) ?_
    refine Go.st (S' := T66.setTop (mkF m 88 #[sR a1, sJ q2, sS, sJ tm, sS, sR ly, sR ly66, sJ 0, sS] [(.int (0 : Int32)), (.ref ar66)])) (fun _ k => XS.l2i X66.here hx rfl (hb hby d8_87) rfl k) ?_
    refine Go.st (S' := T66.setTop (mkF m 89 #[sR a1, sJ q2, sS, sJ tm, sS, sR ly, sR ly66, sJ 0, sS] [(.long tm), (.int (0 : Int32)), (.ref ar66)])) (fun _ k => XS.lloadN X66.here hx rfl (hb hby d8_88) rfl k) ?_
    obtain ⟨T69, h69, X69, e69, W69, V69, st69⟩ := own_stA X66 hx hZ rfl va66 (j := (0 : Int32)) ⟨by decide, by decide⟩ (g := (mkF m 89 #[sR a1, sJ q2, sS, sJ tm, sS, sR ly, sR ly66, sJ 0, sS] [(.long tm), (.int (0 : Int32)), (.ref ar66)])) rfl rfl (hb hby d8_89)
    have N69 := Fr.snoc X69 N66 (Nat.le_trans O0.1 sa66)
    have O69 : Ext Z.heap h69 := own_Ext.wr O66 W69 (Nat.le_trans O0.1 sa66)
    have KP69 : Keep h0 h69 [a1] := KP66.wr W69 (Or.inr (Nat.le_trans KP0.1 sa66))
    refine Go.st (S' := T69.setTop (mkF m 90 #[sR a1, sJ q2, sS, sJ tm, sS, sR ly, sR ly66, sJ 0, sS] [])) st69 ?_
    refine Go.st (S' := T69.setTop (mkF m 92 #[sR a1, sJ q2, sS, sJ tm, sS, sR ly, sR ly66, sJ 0, sS] [(.ref ly66)])) (fun _ k => XS.aload X69.here hx rfl (hb hby d8_90) rfl rfl k) ?_
    refine Go.st (S' := T69.setTop (mkF m 94 #[sR a1, sJ q2, sS, sJ tm, sS, sR ly, sR ly66, sJ 0, sS] [(.ref ly), (.ref ly66)])) (fun _ k => XS.aload X69.here hx rfl (hb hby d8_92) rfl rfl k) ?_
    refine Go.st (S' := T69.setTop (mkF m 97 #[sR a1, sJ q2, sS, sJ tm, sS, sR ly, sR ly66, sJ 0, sS] [])) (fun _ k => Jvm.RoadKit.acmp (g := (mkF m 94 #[sR a1, sJ q2, sS, sJ tm, sS, sR ly, sR ly66, sJ 0, sS] [(.ref ly), (.ref ly66)])) X69 hx rfl rfl rfl (pc0 := 94) (pc' := 97) (same := false) rfl (hb hby d8_94) rfl (decide_eq_false fun q => (Ne.symm ne_ly_ly66) (Value.ref.inj q)) (by decide) (by decide) k) ?_
    refine Go.st (S' := T69.setTop (mkF m 98 #[sR a1, sJ q2, sS, sJ tm, sS, sR ly, sR ly66, sJ 0, sS] [(.ref a1)])) (fun _ k => XS.aloadN X69.here hx rfl (hb hby d8_97) rfl rfl k) ?_
    refine Go.st (S' := T69.setTop (mkF m 100 #[sR a1, sJ q2, sS, sJ tm, sS, sR ly, sR ly66, sJ 0, sS] [(.ref ly66), (.ref a1)])) (fun _ k => XS.aload X69.here hx rfl (hb hby d8_98) rfl rfl k) ?_
    obtain ⟨T70, h70, X70, e70, W70, st70⟩ := putF X69 hx hZ hown (host := "") (Or.inl (ww hw 35 rfl)) Via.refl e69 ((F_layout.keep kp66 nin0).other W69 (Or.inl ne_a1_ar66)) ((EA.keep kp66).wr W69) (Or.inl (ww hw 36 rfl)) (ww hw 3 rfl) (ty := (.object "com/example/palimpsest/palimpsest/CommitTimes$Layout")) pf_770827 rfl rfl (g := (mkF m 100 #[sR a1, sJ q2, sS, sJ tm, sS, sR ly, sR ly66, sJ 0, sS] [(.ref ly66), (.ref a1)])) rfl rfl (hb hby d8_100)
    have N70 := Fr.snoc X70 N69 ga
    have Fw70 := ((F_layout.keep kp66 nin0).other W69 (Or.inl ne_a1_ar66)).same W70
    have O70 : Ext Z.heap h70 := own_Ext.wr O69 W70 ga
    have KP70 : Keep h0 h70 [a1] := KP69.wr W70 (Or.inl (List.mem_of_getElem? (i := 0) rfl))
    refine Go.st (S' := T70.setTop (mkF m 103 #[sR a1, sJ q2, sS, sJ tm, sS, sR ly, sR ly66, sJ 0, sS] [])) st70 ?_
    refine Go.st (S' := T70.setTop (mkF m 104 #[sR a1, sJ q2, sS, sJ tm, sS, sR ly, sR ly66, sJ 0, sS] [(.ref a1)])) (fun _ k => XS.aloadN X70.here hx rfl (hb hby d8_103) rfl rfl k) ?_
    refine Go.st (S' := T70.setTop (mkF m 105 #[sR a1, sJ q2, sS, sJ tm, sS, sR ly, sR ly66, sJ 0, sS] [(.long q2), (.ref a1)])) (fun _ k => XS.lloadN X70.here hx rfl (hb hby d8_104) rfl k) ?_
    obtain ⟨T71, h71, X71, e71, W71, st71⟩ := putF X70 hx hZ hown (host := "") (Or.inl (ww hw 61 rfl)) Via.refl e70 (((F_newest.keep kp66 nin0).other W69 (Or.inl ne_a1_ar66)).other W70 (Or.inr (sn_653249_newest_layout hw))) (((EA.keep kp66).wr W69).wr W70) (Or.inl (ww hw 62 rfl)) (ww hw 3 rfl) (ty := .long) pf_991 rfl rfl (g := (mkF m 105 #[sR a1, sJ q2, sS, sJ tm, sS, sR ly, sR ly66, sJ 0, sS] [(.long q2), (.ref a1)])) rfl rfl (hb hby d8_105)
    have N71 := Fr.snoc X71 N70 ga
    have Fw71 := (((F_newest.keep kp66 nin0).other W69 (Or.inl ne_a1_ar66)).other W70 (Or.inr (sn_653249_newest_layout hw))).same W71
    have O71 : Ext Z.heap h71 := own_Ext.wr O70 W71 ga
    have KP71 : Keep h0 h71 [a1] := KP70.wr W71 (Or.inl (List.mem_of_getElem? (i := 0) rfl))
    refine Go.st (S' := T71.setTop (mkF m 108 #[sR a1, sJ q2, sS, sJ tm, sS, sR ly, sR ly66, sJ 0, sS] [])) st71 ?_
    exact own_retV X71 hx hlk hret (hb hby d8_108) e71 ⟨rfl, N71, KP71, _, _, (Nat.le_trans KP0.1 sl66), (Nat.le_trans KP0.1 sa66), nla66, (((el66.wr W69).wr W70).wr W71), (((golderTimestamps66.other W69 (Or.inl nla66)).other W70 (Or.inl (Ne.symm ne_a1_ly66))).other W71 (Or.inl (Ne.symm ne_a1_ly66))), (((golderTimes66.other W69 (Or.inl nla66)).other W70 (Or.inl (Ne.symm ne_a1_ly66))).other W71 (Or.inl (Ne.symm ne_a1_ly66))), (((golderCount66.other W69 (Or.inl nla66)).other W70 (Or.inl (Ne.symm ne_a1_ly66))).other W71 (Or.inl (Ne.symm ne_a1_ly66))), (by rw [hc18]; exact (((gfloor66.other W69 (Or.inl nla66)).other W70 (Or.inl (Ne.symm ne_a1_ly66))).other W71 (Or.inl (Ne.symm ne_a1_ly66)))), (((gslots66.other W69 (Or.inl nla66)).other W70 (Or.inl (Ne.symm ne_a1_ly66))).other W71 (Or.inl (Ne.symm ne_a1_ly66))), (Fw70.other W71 (Or.inr (sn_653249_layout_newest hw))), Fw71, ((V69.other W70 (Ne.symm ne_a1_ar66)).other W71 (Ne.symm ne_a1_ar66))⟩ (by decide) (by decide)
  · refine Go.st (S' := T60.setTop (mkF m 21 #[sR a1, sJ q2, sS, sJ tm, sS, sR ly, sR ly, sU, sU] [])) (fun _ k => XS.ifNo X60.here hx rfl (hb hby d8_18) rfl (own_Lne hc18).1 k) ?_
    refine Go.st (S' := T60.setTop (mkF m 23 #[sR a1, sJ q2, sS, sJ tm, sS, sR ly, sR ly, sU, sU] [(.ref ly)])) (fun _ k => XS.aload X60.here hx rfl (hb hby d8_21) rfl rfl k) ?_
    refine Go.st (S' := T60.setTop (mkF m 24 #[sR a1, sJ q2, sS, sJ tm, sS, sR ly, sR ly, sU, sU] [(.long q2), (.ref ly)])) (fun _ k => XS.lloadN X60.here hx rfl (hb hby d8_23) rfl k) ?_
    refine Go.st (S' := T60.setTop (mkF m 25 #[sR a1, sJ q2, sS, sJ tm, sS, sR ly, sR ly, sU, sU] [(.ref a1), (.long q2), (.ref ly)])) (fun _ k => XS.aloadN X60.here hx rfl (hb hby d8_24) rfl rfl k) ?_
    obtain ⟨T72, X72, e72, st72⟩ := getF X60 hx hZ hown (host := "") (Or.inl (ww hw 61 rfl)) Via.refl e60 F_newest (g := (mkF m 25 #[sR a1, sJ q2, sS, sJ tm, sS, sR ly, sR ly, sU, sU] [(.ref a1), (.long q2), (.ref ly)])) rfl rfl (hb hby d8_25)
    refine Go.st (S' := T72.setTop (mkF m 28 #[sR a1, sJ q2, sS, sJ tm, sS, sR ly, sR ly, sU, sU] [(.long (0 : Int64)), (.long q2), (.ref ly)])) st72 ?_
    obtain ⟨_, T73, L73, X73, ⟨⟨ly73, ar73, rfl, sl73, sa73, nla73, el73, golderTimestamps73, golderTimes73, golderCount73, gfloor73, gslots73, va73⟩, Nq73, kp73⟩, st73⟩ := own_callV X72 hx hZ hown (ww hw 63 rfl) (ww hw 64 rfl) (notFace_of_selects (args := #[]) (mvT hZ (ww hw 66 rfl))) (ww hw 66 rfl) (ww hw 65 rfl) (ww hw 13 rfl) (ww hw 67 rfl) (by decide) e72 EL (rmOT0 l Z a0 hw [] w_NONE k_NONE hS ly q2 h0 O0 EL L_olderTimestamps L_olderTimes L_olderCount L_floor L_slots) 0 (by decide) (by decide) (by decide) (by decide) (g := (mkF m 28 #[sR a1, sJ q2, sS, sJ tm, sS, sR ly, sR ly, sU, sU] [(.long (0 : Int64)), (.long q2), (.ref ly)])) rfl (by rw [hml]; rfl) [(.long q2), (.long (0 : Int64))] [] rfl (lenOf pd_873481 rfl) rfl (by show 2 * 0 + _ ≤ _; exact Nat.le_of_eq rfl) (hb hby d8_28)
    have N73 := Fr.app N0 Nq73
    have ne_a1_ly73 : a1 ≠ ly73 := own_lt_ne' F_layout.lt sl73
    have ne_ly_ly73 : ly ≠ ly73 := own_lt_ne' L_olderTimestamps.lt sl73
    have ne_a1_ar73 : a1 ≠ ar73 := own_lt_ne' F_layout.lt sa73
    have ne_ly_ar73 : ly ≠ ar73 := own_lt_ne' L_olderTimestamps.lt sa73
    have O73 : Ext Z.heap T73.heap := own_Ext.keep O0 kp73 all0
    have KP73 : Keep h0 T73.heap [a1] := KP0.trans kp73 all0
    refine Go.st (S' := T73.setTop (mkF m 31 #[sR a1, sJ q2, sS, sJ tm, sS, sR ly, sR ly, sU, sU] [(.ref ly73)])) st73 ?_
    refine Go.st (S' := T73.setTop (mkF m 33 #[sR a1, sJ q2, sS, sJ tm, sS, sR ly, sR ly73, sU, sU] [])) (fun _ k => XS.astore X73.here hx rfl (hb hby d8_31) rfl rfl (l' := #[sR a1, sJ q2, sS, sJ tm, sS, sR ly, sR ly73, sU, sU]) rfl k) ?_
    refine Go.st (S' := T73.setTop (mkF m 34 #[sR a1, sJ q2, sS, sJ tm, sS, sR ly, sR ly73, sU, sU] [(.long q2)])) (fun _ k => XS.lloadN X73.here hx rfl (hb hby d8_33) rfl k) ?_
    refine Go.st (S' := T73.setTop (mkF m 36 #[sR a1, sJ q2, sS, sJ tm, sS, sR ly, sR ly73, sU, sU] [(.ref ly73), (.long q2)])) (fun _ k => XS.aload X73.here hx rfl (hb hby d8_34) rfl rfl k) ?_
    refine Go.st (S' := T73.setTop (mkF m 39 #[sR a1, sJ q2, sS, sJ tm, sS, sR ly, sR ly73, sU, sU] [(.long q2), (.long q2)])) (own_getFR X73 hx hZ hown (ww hw 71 rfl) rfl gfloor73 (g := (mkF m 36 #[sR a1, sJ q2, sS, sJ tm, sS, sR ly, sR ly73, sU, sU] [(.ref ly73), (.long q2)])) rfl rfl (hb hby d8_36)) ?_
    refine Go.st (S' := T73.setTop (mkF m 40 #[sR a1, sJ q2, sS, sJ tm, sS, sR ly, sR ly73, sU, sU] [(.long (q2 - q2))])) (fun _ k => XS.lsub X73.here hx rfl (hb hby d8_39) rfl k) ?_
    refine Go.st (S' := T73.setTop (mkF m 40 #[sR a1, sJ q2, sS, sJ tm, sS, sR ly, sR ly73, sU, sU] [(.long (0 : Int64))])) (fun _ k => by rw [(own_o0 q2 : (q2 - q2) = (0 : Int64))]; exact k) ?_
    refine Go.st (S' := T73.setTop (mkF m 42 #[sR a1, sJ q2, sS, sJ tm, sS, sR ly, sR ly73, sJ 0, sS] [])) (fun _ k => XS.lstore X73.here hx rfl (hb hby d8_40) rfl (l' := #[sR a1, sJ q2, sS, sJ tm, sS, sR ly, sR ly73, sJ 0, sS]) rfl k) ?_
    refine Go.st (S' := T73.setTop (mkF m 44 #[sR a1, sJ q2, sS, sJ tm, sS, sR ly, sR ly73, sJ 0, sS] [(.long (0 : Int64))])) (fun _ k => XS.lload X73.here hx rfl (hb hby d8_42) rfl k) ?_
    refine Go.st (S' := T73.setTop (mkF m 46 #[sR a1, sJ q2, sS, sJ tm, sS, sR ly, sR ly73, sJ 0, sS] [(.ref ly73), (.long (0 : Int64))])) (fun _ k => XS.aload X73.here hx rfl (hb hby d8_44) rfl rfl k) ?_
    refine Go.st (S' := T73.setTop (mkF m 49 #[sR a1, sJ q2, sS, sJ tm, sS, sR ly, sR ly73, sJ 0, sS] [(.ref ar73), (.long (0 : Int64))])) (own_getFR X73 hx hZ hown (ww hw 48 rfl) rfl gslots73 (g := (mkF m 46 #[sR a1, sJ q2, sS, sJ tm, sS, sR ly, sR ly73, sJ 0, sS] [(.ref ly73), (.long (0 : Int64))])) rfl rfl (hb hby d8_46)) ?_
    refine Go.st (S' := T73.setTop (mkF m 50 #[sR a1, sJ q2, sS, sJ tm, sS, sR ly, sR ly73, sJ 0, sS] [(.int (1 : Int32)), (.long (0 : Int64))])) (own_alenA X73 hx hZ rfl va73 (g := (mkF m 49 #[sR a1, sJ q2, sS, sJ tm, sS, sR ly, sR ly73, sJ 0, sS] [(.ref ar73), (.long (0 : Int64))])) rfl rfl (hb hby d8_49)) ?_
    refine Go.st (S' := T73.setTop (mkF m 51 #[sR a1, sJ q2, sS, sJ tm, sS, sR ly, sR ly73, sJ 0, sS] [(.long (1 : Int64)), (.long (0 : Int64))])) (fun _ k => XS.i2l X73.here hx rfl (hb hby d8_50) rfl k) ?_
    refine Go.st (S' := T73.setTop (mkF m 52 #[sR a1, sJ q2, sS, sJ tm, sS, sR ly, sR ly73, sJ 0, sS] [(.int (lcmpW (0 : Int64) (1 : Int64)))])) (fun _ k => XS.lcmp X73.here hx rfl (hb hby d8_51) rfl k) ?_
    refine Go.st (S' := T73.setTop (mkF m 80 #[sR a1, sJ q2, sS, sJ tm, sS, sR ly, sR ly73, sJ 0, sS] [])) (fun _ k => XS.ifYes X73.here hx rfl (pc0 := 52) (pc' := 80) rfl (hb hby d8_52) rfl (own_Llt (by decide)).1 (by decide) (by decide) k) ?_
    refine Go.st (S' := T73.setTop (mkF m 82 #[sR a1, sJ q2, sS, sJ tm, sS, sR ly, sR ly73, sJ 0, sS] [(.ref ly73)])) (fun _ k => XS.aload X73.here hx rfl (hb hby d8_80) rfl rfl k) ?_
    refine Go.st (S' := T73.setTop (mkF m 85 #[sR a1, sJ q2, sS, sJ tm, sS, sR ly, sR ly73, sJ 0, sS] [(.ref ar73)])) (own_getFR X73 hx hZ hown (ww hw 48 rfl) rfl gslots73 (g := (mkF m 82 #[sR a1, sJ q2, sS, sJ tm, sS, sR ly, sR ly73, sJ 0, sS] [(.ref ly73)])) rfl rfl (hb hby d8_82)) ?_
    refine Go.st (S' := T73.setTop (mkF m 87 #[sR a1, sJ q2, sS, sJ tm, sS, sR ly, sR ly73, sJ 0, sS] [(.long (0 : Int64)), (.ref ar73)])) (fun _ k => XS.lload X73.here hx rfl (hb hby d8_85) rfl k) ?_
    refine Go.st (S' := T73.setTop (mkF m 88 #[sR a1, sJ q2, sS, sJ tm, sS, sR ly, sR ly73, sJ 0, sS] [(.int (0 : Int32)), (.ref ar73)])) (fun _ k => XS.l2i X73.here hx rfl (hb hby d8_87) rfl k) ?_
    refine Go.st (S' := T73.setTop (mkF m 89 #[sR a1, sJ q2, sS, sJ tm, sS, sR ly, sR ly73, sJ 0, sS] [(.long tm), (.int (0 : Int32)), (.ref ar73)])) (fun _ k => XS.lloadN X73.here hx rfl (hb hby d8_88) rfl k) ?_
    obtain ⟨T78, h78, X78, e78, W78, V78, st78⟩ := own_stA X73 hx hZ rfl va73 (j := (0 : Int32)) ⟨by decide, by decide⟩ (g := (mkF m 89 #[sR a1, sJ q2, sS, sJ tm, sS, sR ly, sR ly73, sJ 0, sS] [(.long tm), (.int (0 : Int32)), (.ref ar73)])) rfl rfl (hb hby d8_89)
    have N78 := Fr.snoc X78 N73 (Nat.le_trans O0.1 sa73)
    have O78 : Ext Z.heap h78 := own_Ext.wr O73 W78 (Nat.le_trans O0.1 sa73)
    have KP78 : Keep h0 h78 [a1] := KP73.wr W78 (Or.inr (Nat.le_trans KP0.1 sa73))
    refine Go.st (S' := T78.setTop (mkF m 90 #[sR a1, sJ q2, sS, sJ tm, sS, sR ly, sR ly73, sJ 0, sS] [])) st78 ?_
    refine Go.st (S' := T78.setTop (mkF m 92 #[sR a1, sJ q2, sS, sJ tm, sS, sR ly, sR ly73, sJ 0, sS] [(.ref ly73)])) (fun _ k => XS.aload X78.here hx rfl (hb hby d8_90) rfl rfl k) ?_
    refine Go.st (S' := T78.setTop (mkF m 94 #[sR a1, sJ q2, sS, sJ tm, sS, sR ly, sR ly73, sJ 0, sS] [(.ref ly), (.ref ly73)])) (fun _ k => XS.aload X78.here hx rfl (hb hby d8_92) rfl rfl k) ?_
    refine Go.st (S' := T78.setTop (mkF m 97 #[sR a1, sJ q2, sS, sJ tm, sS, sR ly, sR ly73, sJ 0, sS] [])) (fun _ k => Jvm.RoadKit.acmp (g := (mkF m 94 #[sR a1, sJ q2, sS, sJ tm, sS, sR ly, sR ly73, sJ 0, sS] [(.ref ly), (.ref ly73)])) X78 hx rfl rfl rfl (pc0 := 94) (pc' := 97) (same := false) rfl (hb hby d8_94) rfl (decide_eq_false fun q => (Ne.symm ne_ly_ly73) (Value.ref.inj q)) (by decide) (by decide) k) ?_
    refine Go.st (S' := T78.setTop (mkF m 98 #[sR a1, sJ q2, sS, sJ tm, sS, sR ly, sR ly73, sJ 0, sS] [(.ref a1)])) (fun _ k => XS.aloadN X78.here hx rfl (hb hby d8_97) rfl rfl k) ?_
    refine Go.st (S' := T78.setTop (mkF m 100 #[sR a1, sJ q2, sS, sJ tm, sS, sR ly, sR ly73, sJ 0, sS] [(.ref ly73), (.ref a1)])) (fun _ k => XS.aload X78.here hx rfl (hb hby d8_98) rfl rfl k) ?_
    obtain ⟨T79, h79, X79, e79, W79, st79⟩ := putF X78 hx hZ hown (host := "") (Or.inl (ww hw 35 rfl)) Via.refl e78 ((F_layout.keep kp73 nin0).other W78 (Or.inl ne_a1_ar73)) ((EA.keep kp73).wr W78) (Or.inl (ww hw 36 rfl)) (ww hw 3 rfl) (ty := (.object "com/example/palimpsest/palimpsest/CommitTimes$Layout")) pf_770827 rfl rfl (g := (mkF m 100 #[sR a1, sJ q2, sS, sJ tm, sS, sR ly, sR ly73, sJ 0, sS] [(.ref ly73), (.ref a1)])) rfl rfl (hb hby d8_100)
    have N79 := Fr.snoc X79 N78 ga
    have Fw79 := ((F_layout.keep kp73 nin0).other W78 (Or.inl ne_a1_ar73)).same W79
    have O79 : Ext Z.heap h79 := own_Ext.wr O78 W79 ga
    have KP79 : Keep h0 h79 [a1] := KP78.wr W79 (Or.inl (List.mem_of_getElem? (i := 0) rfl))
    refine Go.st (S' := T79.setTop (mkF m 103 #[sR a1, sJ q2, sS, sJ tm, sS, sR ly, sR ly73, sJ 0, sS] [])) st79 ?_
    refine Go.st (S' := T79.setTop (mkF m 104 #[sR a1, sJ q2, sS, sJ tm, sS, sR ly, sR ly73, sJ 0, sS] [(.ref a1)])) (fun _ k => XS.aloadN X79.here hx rfl (hb hby d8_103) rfl rfl k) ?_
    refine Go.st (S' := T79.setTop (mkF m 105 #[sR a1, sJ q2, sS, sJ tm, sS, sR ly, sR ly73, sJ 0, sS] [(.long q2), (.ref a1)])) (fun _ k => XS.lloadN X79.here hx rfl (hb hby d8_104) rfl k) ?_
    obtain ⟨T80, h80, X80, e80, W80, st80⟩ := putF X79 hx hZ hown (host := "") (Or.inl (ww hw 61 rfl)) Via.refl e79 (((F_newest.keep kp73 nin0).other W78 (Or.inl ne_a1_ar73)).other W79 (Or.inr (sn_653249_newest_layout hw))) (((EA.keep kp73).wr W78).wr W79) (Or.inl (ww hw 62 rfl)) (ww hw 3 rfl) (ty := .long) pf_991 rfl rfl (g := (mkF m 105 #[sR a1, sJ q2, sS, sJ tm, sS, sR ly, sR ly73, sJ 0, sS] [(.long q2), (.ref a1)])) rfl rfl (hb hby d8_105)
    have N80 := Fr.snoc X80 N79 ga
    have Fw80 := (((F_newest.keep kp73 nin0).other W78 (Or.inl ne_a1_ar73)).other W79 (Or.inr (sn_653249_newest_layout hw))).same W80
    have O80 : Ext Z.heap h80 := own_Ext.wr O79 W80 ga
    have KP80 : Keep h0 h80 [a1] := KP79.wr W80 (Or.inl (List.mem_of_getElem? (i := 0) rfl))
    refine Go.st (S' := T80.setTop (mkF m 108 #[sR a1, sJ q2, sS, sJ tm, sS, sR ly, sR ly73, sJ 0, sS] [])) st80 ?_
    exact own_retV X80 hx hlk hret (hb hby d8_108) e80 ⟨rfl, N80, KP80, _, _, (Nat.le_trans KP0.1 sl73), (Nat.le_trans KP0.1 sa73), nla73, (((el73.wr W78).wr W79).wr W80), (((golderTimestamps73.other W78 (Or.inl nla73)).other W79 (Or.inl (Ne.symm ne_a1_ly73))).other W80 (Or.inl (Ne.symm ne_a1_ly73))), (((golderTimes73.other W78 (Or.inl nla73)).other W79 (Or.inl (Ne.symm ne_a1_ly73))).other W80 (Or.inl (Ne.symm ne_a1_ly73))), (((golderCount73.other W78 (Or.inl nla73)).other W79 (Or.inl (Ne.symm ne_a1_ly73))).other W80 (Or.inl (Ne.symm ne_a1_ly73))), (((gfloor73.other W78 (Or.inl nla73)).other W79 (Or.inl (Ne.symm ne_a1_ly73))).other W80 (Or.inl (Ne.symm ne_a1_ly73))), (((gslots73.other W78 (Or.inl nla73)).other W79 (Or.inl (Ne.symm ne_a1_ly73))).other W80 (Or.inl (Ne.symm ne_a1_ly73))), (Fw79.other W80 (Or.inr (sn_653249_layout_newest hw))), Fw80, ((V78.other W79 (Ne.symm ne_a1_ar73)).other W80 (Ne.symm ne_a1_ar73))⟩ (by decide) (by decide)
theorem ef_rmAddA (m : MethodId) (x0 : Addr) (x1 : Int64) (x2 : Int64) : entryFrame m #[(.ref x0), (.long x1), (.long x2)] 9 = mkF m 0 #[sR x0, sJ x1, sS, sJ x2, sS, sU, sU, sU, sU] [] := by first | (simp [entryFrame, mkF, argsToLocals, Value.category]; done) | rfl
set_option maxRecDepth 65536 in
set_option maxHeartbeats 400000000 in
theorem rmAddA (l : Launch) (Z : State) (a0 : Array Value) (hw : ∀ d ∈ tables_1, d.before a0 Z = true) (ws : List Jvm.Cond) (w_NONE : Addr) (k_NONE : ClassId) (hS : SF Z w_NONE k_NONE) (a1 : Addr) (q2 tm nw fl : Int64) (ly : Addr) (oc ol cn sz nl : Int32) (sa ta ma : Addr) (hcn : (nw - fl) + (1 : Int64) = cn.toInt64) (hc1 : 1 ≤ cn.toInt) (hc3 : cn.toInt ≤ 3) (hsz : cn.toInt ≤ sz.toInt) (ho0 : 0 ≤ oc.toInt) (hoc : oc.toInt ≤ ol.toInt) (hol : ol.toInt ≤ 3) (hgr : ol.toInt < oc.toInt + cn.toInt) (hnl : nl = maxF (oc + cn) ((2 : Int32) * ol)) (h0 : Heap) (O0 : Ext Z.heap h0) (hts : ¬ q2 = (nw + (1 : Int64))) (ga : Z.heap.size ≤ a1) (EA : Exa Z h0 a1 "com/example/palimpsest/palimpsest/CommitTimes") (EL : Exa Z h0 ly "com/example/palimpsest/palimpsest/CommitTimes$Layout") (n1 : a1 ≠ ly) (F_layout : Fld Z h0 a1 "com/example/palimpsest/palimpsest/CommitTimes" "layout" "Lcom/example/palimpsest/palimpsest/CommitTimes$Layout;" (.ref ly)) (F_newest : Fld Z h0 a1 "com/example/palimpsest/palimpsest/CommitTimes" "newest" "J" (.long nw)) (L_olderTimestamps : Fld Z h0 ly "com/example/palimpsest/palimpsest/CommitTimes$Layout" "olderTimestamps" "[J" (.ref ta)) (L_olderTimes : Fld Z h0 ly "com/example/palimpsest/palimpsest/CommitTimes$Layout" "olderTimes" "[J" (.ref ma)) (L_olderCount : Fld Z h0 ly "com/example/palimpsest/palimpsest/CommitTimes$Layout" "olderCount" "I" (.int oc)) (L_floor : Fld Z h0 ly "com/example/palimpsest/palimpsest/CommitTimes$Layout" "floor" "J" (.long fl)) (L_slots : Fld Z h0 ly "com/example/palimpsest/palimpsest/CommitTimes$Layout" "slots" "[J" (.ref sa)) (A_ta : AL Z h0 ta ol) (A_ma : AL Z h0 ma ol) (A_sa : AL Z h0 sa sz) :
    Con l Z h0 (⟨"com/example/palimpsest/palimpsest/CommitTimes", "add", "(JJ)V"⟩ : MethodName) prog_7_method_3_code 9 none ws ({ frames := 4, cells := 4, slots := 18, locals := 90 } : Room) #[(.ref a1), (.long q2), (.long tm)] (fun v h L => v = none ∧ Fr Z.heap.size L ∧ Keep h0 h [a1] ∧ ∃ ly sa ta ma, h0.size ≤ ly ∧ h0.size ≤ sa ∧ h0.size ≤ ta ∧ h0.size ≤ ma ∧ ly ≠ sa ∧ ta ≠ sa ∧ ma ≠ sa ∧ Exa Z h ly "com/example/palimpsest/palimpsest/CommitTimes$Layout" ∧ Fld Z h ly "com/example/palimpsest/palimpsest/CommitTimes$Layout" "olderTimestamps" "[J" (.ref ta) ∧ Fld Z h ly "com/example/palimpsest/palimpsest/CommitTimes$Layout" "olderTimes" "[J" (.ref ma) ∧ Fld Z h ly "com/example/palimpsest/palimpsest/CommitTimes$Layout" "olderCount" "I" (.int (oc + cn)) ∧ Fld Z h ly "com/example/palimpsest/palimpsest/CommitTimes$Layout" "floor" "J" (.long q2) ∧ Fld Z h ly "com/example/palimpsest/palimpsest/CommitTimes$Layout" "slots" "[J" (.ref sa) ∧ Fld Z h a1 "com/example/palimpsest/palimpsest/CommitTimes" "layout" "Lcom/example/palimpsest/palimpsest/CommitTimes$Layout;" (.ref ly) ∧ Fld Z h a1 "com/example/palimpsest/palimpsest/CommitTimes" "newest" "J" (.long q2) ∧ AL Z h sa (1 : Int32) ∧ AL Z h ta nl ∧ AL Z h ma nl) := by
  obtain ⟨S_NONE, E_NONE, V_NONE⟩ := id hS
  refine own_con (plainFor_of_name pn_977193) ?_
  intro p e s m below meth c T0 X0 hx hby hml hown hnm hret hlk hZ e0
  have hown : s.vm.findClass "com/example/palimpsest/palimpsest/CommitTimes" = some m.cls := hown
  have N0 := Fr.nil Z.heap.size
  have KP0 : Keep h0 h0 [a1] := Keep.refl h0 _
  refine Go.st (S' := T0.setTop (mkF m 0 #[sR a1, sJ q2, sS, sJ tm, sS, sU, sU, sU, sU] [])) (fun _ k => castTop (ef_rmAddA m a1 q2 tm) k) ?_
  refine Go.st (S' := T0.setTop (mkF m 1 #[sR a1, sJ q2, sS, sJ tm, sS, sU, sU, sU, sU] [(.ref a1)])) (fun _ k => XS.aloadN X0.here hx rfl (hb hby d8_0) rfl rfl k) ?_
  obtain ⟨T81, X81, e81, st81⟩ := getF X0 hx hZ hown (host := "") (Or.inl (ww hw 35 rfl)) Via.refl e0 F_layout (g := (mkF m 1 #[sR a1, sJ q2, sS, sJ tm, sS, sU, sU, sU, sU] [(.ref a1)])) rfl rfl (hb hby d8_1)
  refine Go.st (S' := T81.setTop (mkF m 4 #[sR a1, sJ q2, sS, sJ tm, sS, sU, sU, sU, sU] [(.ref ly)])) st81 ?_
  refine Go.st (S' := T81.setTop (mkF m 6 #[sR a1, sJ q2, sS, sJ tm, sS, sR ly, sU, sU, sU] [])) (fun _ k => XS.astore X81.here hx rfl (hb hby d8_4) rfl rfl (l' := #[sR a1, sJ q2, sS, sJ tm, sS, sR ly, sU, sU, sU]) rfl k) ?_
  refine Go.st (S' := T81.setTop (mkF m 8 #[sR a1, sJ q2, sS, sJ tm, sS, sR ly, sU, sU, sU] [(.ref ly)])) (fun _ k => XS.aload X81.here hx rfl (hb hby d8_6) rfl rfl k) ?_
  refine Go.st (S' := T81.setTop (mkF m 10 #[sR a1, sJ q2, sS, sJ tm, sS, sR ly, sR ly, sU, sU] [])) (fun _ k => XS.astore X81.here hx rfl (hb hby d8_8) rfl rfl (l' := #[sR a1, sJ q2, sS, sJ tm, sS, sR ly, sR ly, sU, sU]) rfl k) ?_
  refine Go.st (S' := T81.setTop (mkF m 11 #[sR a1, sJ q2, sS, sJ tm, sS, sR ly, sR ly, sU, sU] [(.long q2)])) (fun _ k => XS.lloadN X81.here hx rfl (hb hby d8_10) rfl k) ?_
  refine Go.st (S' := T81.setTop (mkF m 12 #[sR a1, sJ q2, sS, sJ tm, sS, sR ly, sR ly, sU, sU] [(.ref a1), (.long q2)])) (fun _ k => XS.aloadN X81.here hx rfl (hb hby d8_11) rfl rfl k) ?_
  obtain ⟨T82, X82, e82, st82⟩ := getF X81 hx hZ hown (host := "") (Or.inl (ww hw 61 rfl)) Via.refl e81 F_newest (g := (mkF m 12 #[sR a1, sJ q2, sS, sJ tm, sS, sR ly, sR ly, sU, sU] [(.ref a1), (.long q2)])) rfl rfl (hb hby d8_12)
  refine Go.st (S' := T82.setTop (mkF m 15 #[sR a1, sJ q2, sS, sJ tm, sS, sR ly, sR ly, sU, sU] [(.long nw), (.long q2)])) st82 ?_
  refine Go.st (S' := T82.setTop (mkF m 16 #[sR a1, sJ q2, sS, sJ tm, sS, sR ly, sR ly, sU, sU] [(.long (1 : Int64)), (.long nw), (.long q2)])) (fun _ k => XS.lconst X82.here hx rfl (hb hby d8_15) k) ?_
  refine Go.st (S' := T82.setTop (mkF m 17 #[sR a1, sJ q2, sS, sJ tm, sS, sR ly, sR ly, sU, sU] [(.long (nw + (1 : Int64))), (.long q2)])) (fun _ k => XS.ladd X82.here hx rfl (hb hby d8_16) rfl k) ?_
  refine Go.st (S' := T82.setTop (mkF m 18 #[sR a1, sJ q2, sS, sJ tm, sS, sR ly, sR ly, sU, sU] [(.int (lcmpW q2 (nw + (1 : Int64))))])) (fun _ k => XS.lcmp X82.here hx rfl (hb hby d8_17) rfl k) ?_
  refine Go.st (S' := T82.setTop (mkF m 21 #[sR a1, sJ q2, sS, sJ tm, sS, sR ly, sR ly, sU, sU] [])) (fun _ k => XS.ifNo X82.here hx rfl (hb hby d8_18) rfl (own_Lne hts).1 k) ?_
  refine Go.st (S' := T82.setTop (mkF m 23 #[sR a1, sJ q2, sS, sJ tm, sS, sR ly, sR ly, sU, sU] [(.ref ly)])) (fun _ k => XS.aload X82.here hx rfl (hb hby d8_21) rfl rfl k) ?_
  refine Go.st (S' := T82.setTop (mkF m 24 #[sR a1, sJ q2, sS, sJ tm, sS, sR ly, sR ly, sU, sU] [(.long q2), (.ref ly)])) (fun _ k => XS.lloadN X82.here hx rfl (hb hby d8_23) rfl k) ?_
  refine Go.st (S' := T82.setTop (mkF m 25 #[sR a1, sJ q2, sS, sJ tm, sS, sR ly, sR ly, sU, sU] [(.ref a1), (.long q2), (.ref ly)])) (fun _ k => XS.aloadN X82.here hx rfl (hb hby d8_24) rfl rfl k) ?_
  obtain ⟨T83, X83, e83, st83⟩ := getF X82 hx hZ hown (host := "") (Or.inl (ww hw 61 rfl)) Via.refl e82 F_newest (g := (mkF m 25 #[sR a1, sJ q2, sS, sJ tm, sS, sR ly, sR ly, sU, sU] [(.ref a1), (.long q2), (.ref ly)])) rfl rfl (hb hby d8_25)
  refine Go.st (S' := T83.setTop (mkF m 28 #[sR a1, sJ q2, sS, sJ tm, sS, sR ly, sR ly, sU, sU] [(.long nw), (.long q2), (.ref ly)])) st83 ?_
  obtain ⟨_, T84, L84, X84, ⟨⟨ly84, ar84, ta84, ma84, rfl, sl84, sa84, st_84, sm84, nla84, nta84, nma84, el84, golderTimestamps84, golderTimes84, golderCount84, gfloor84, gslots84, va84, vt84, vm84⟩, Nq84, kp84⟩, st84⟩ := own_callV X83 hx hZ hown (ww hw 63 rfl) (ww hw 64 rfl) (notFace_of_selects (args := #[]) (mvT hZ (ww hw 66 rfl))) (ww hw 66 rfl) (ww hw 65 rfl) (ww hw 13 rfl) (ww hw 67 rfl) (by decide) e83 EL (rmOT l Z a0 hw [] w_NONE k_NONE hS ly q2 nw fl oc ol cn sz nl sa ta ma hcn hc1 hc3 hsz ho0 hoc hol hgr hnl h0 O0 EL L_olderTimestamps L_olderTimes L_olderCount L_floor L_slots A_ta A_ma A_sa) 0 (by decide) (by decide) (by decide) (by decide) (g := (mkF m 28 #[sR a1, sJ q2, sS, sJ tm, sS, sR ly, sR ly, sU, sU] [(.long nw), (.long q2), (.ref ly)])) rfl (by rw [hml]; rfl) [(.long q2), (.long nw)] [] rfl (lenOf pd_873481 rfl) rfl (by show 2 * 0 + _ ≤ _; exact Nat.le_of_eq rfl) (hb hby d8_28)
  have N84 := Fr.app N0 Nq84
  have ne_a1_ly84 : a1 ≠ ly84 := own_lt_ne' F_layout.lt sl84
  have ne_ly_ly84 : ly ≠ ly84 := own_lt_ne' L_olderTimestamps.lt sl84
  have ne_ta_ly84 : ta ≠ ly84 := own_lt_ne' A_ta.lt sl84
  have ne_ma_ly84 : ma ≠ ly84 := own_lt_ne' A_ma.lt sl84
  have ne_sa_ly84 : sa ≠ ly84 := own_lt_ne' A_sa.lt sl84
  have ne_a1_ar84 : a1 ≠ ar84 := own_lt_ne' F_layout.lt sa84
  have ne_ly_ar84 : ly ≠ ar84 := own_lt_ne' L_olderTimestamps.lt sa84
  have ne_ta_ar84 : ta ≠ ar84 := own_lt_ne' A_ta.lt sa84
  have ne_ma_ar84 : ma ≠ ar84 := own_lt_ne' A_ma.lt sa84
  have ne_sa_ar84 : sa ≠ ar84 := own_lt_ne' A_sa.lt sa84
  have ne_a1_ta84 : a1 ≠ ta84 := own_lt_ne' F_layout.lt st_84
  have ne_ly_ta84 : ly ≠ ta84 := own_lt_ne' L_olderTimestamps.lt st_84
  have ne_ta_ta84 : ta ≠ ta84 := own_lt_ne' A_ta.lt st_84
  have ne_ma_ta84 : ma ≠ ta84 := own_lt_ne' A_ma.lt st_84
  have ne_sa_ta84 : sa ≠ ta84 := own_lt_ne' A_sa.lt st_84
  have ne_a1_ma84 : a1 ≠ ma84 := own_lt_ne' F_layout.lt sm84
  have ne_ly_ma84 : ly ≠ ma84 := own_lt_ne' L_olderTimestamps.lt sm84
  have ne_ta_ma84 : ta ≠ ma84 := own_lt_ne' A_ta.lt sm84
  have ne_ma_ma84 : ma ≠ ma84 := own_lt_ne' A_ma.lt sm84
  have ne_sa_ma84 : sa ≠ ma84 := own_lt_ne' A_sa.lt sm84
  have O84 : Ext Z.heap T84.heap := own_Ext.keep O0 kp84 all0
  have KP84 : Keep h0 T84.heap [a1] := KP0.trans kp84 all0
  refine Go.st (S' := T84.setTop (mkF m 31 #[sR a1, sJ q2, sS, sJ tm, sS, sR ly, sR ly, sU, sU] [(.ref ly84)])) st84 ?_
  refine Go.st (S' := T84.setTop (mkF m 33 #[sR a1, sJ q2, sS, sJ tm, sS, sR ly, sR ly84, sU, sU] [])) (fun _ k => XS.astore X84.here hx rfl (hb hby d8_31) rfl rfl (l' := #[sR a1, sJ q2, sS, sJ tm, sS, sR ly, sR ly84, sU, sU]) rfl k) ?_
  refine Go.st (S' := T84.setTop (mkF m 34 #[sR a1, sJ q2, sS, sJ tm, sS, sR ly, sR ly84, sU, sU] [(.long q2)])) (fun _ k => XS.lloadN X84.here hx rfl (hb hby d8_33) rfl k) ?_
  refine Go.st (S' := T84.setTop (mkF m 36 #[sR a1, sJ q2, sS, sJ tm, sS, sR ly, sR ly84, sU, sU] [(.ref ly84), (.long q2)])) (fun _ k => XS.aload X84.here hx rfl (hb hby d8_34) rfl rfl k) ?_
  refine Go.st (S' := T84.setTop (mkF m 39 #[sR a1, sJ q2, sS, sJ tm, sS, sR ly, sR ly84, sU, sU] [(.long q2), (.long q2)])) (own_getFR X84 hx hZ hown (ww hw 71 rfl) rfl gfloor84 (g := (mkF m 36 #[sR a1, sJ q2, sS, sJ tm, sS, sR ly, sR ly84, sU, sU] [(.ref ly84), (.long q2)])) rfl rfl (hb hby d8_36)) ?_
  refine Go.st (S' := T84.setTop (mkF m 40 #[sR a1, sJ q2, sS, sJ tm, sS, sR ly, sR ly84, sU, sU] [(.long (q2 - q2))])) (fun _ k => XS.lsub X84.here hx rfl (hb hby d8_39) rfl k) ?_
  refine Go.st (S' := T84.setTop (mkF m 40 #[sR a1, sJ q2, sS, sJ tm, sS, sR ly, sR ly84, sU, sU] [(.long (0 : Int64))])) (fun _ k => by rw [(own_o0 q2 : (q2 - q2) = (0 : Int64))]; exact k) ?_
  refine Go.st (S' := T84.setTop (mkF m 42 #[sR a1, sJ q2, sS, sJ tm, sS, sR ly, sR ly84, sJ 0, sS] [])) (fun _ k => XS.lstore X84.here hx rfl (hb hby d8_40) rfl (l' := #[sR a1, sJ q2, sS, sJ tm, sS, sR ly, sR ly84, sJ 0, sS]) rfl k) ?_
  refine Go.st (S' := T84.setTop (mkF m 44 #[sR a1, sJ q2, sS, sJ tm, sS, sR ly, sR ly84, sJ 0, sS] [(.long (0 : Int64))])) (fun _ k => XS.lload X84.here hx rfl (hb hby d8_42) rfl k) ?_
  refine Go.st (S' := T84.setTop (mkF m 46 #[sR a1, sJ q2, sS, sJ tm, sS, sR ly, sR ly84, sJ 0, sS] [(.ref ly84), (.long (0 : Int64))])) (fun _ k => XS.aload X84.here hx rfl (hb hby d8_44) rfl rfl k) ?_
  refine Go.st (S' := T84.setTop (mkF m 49 #[sR a1, sJ q2, sS, sJ tm, sS, sR ly, sR ly84, sJ 0, sS] [(.ref ar84), (.long (0 : Int64))])) (own_getFR X84 hx hZ hown (ww hw 48 rfl) rfl gslots84 (g := (mkF m 46 #[sR a1, sJ q2, sS, sJ tm, sS, sR ly, sR ly84, sJ 0, sS] [(.ref ly84), (.long (0 : Int64))])) rfl rfl (hb hby d8_46)) ?_
  refine Go.st (S' := T84.setTop (mkF m 50 #[sR a1, sJ q2, sS, sJ tm, sS, sR ly, sR ly84, sJ 0, sS] [(.int (1 : Int32)), (.long (0 : Int64))])) (own_alenA X84 hx hZ rfl va84 (g := (mkF m 49 #[sR a1, sJ q2, sS, sJ tm, sS, sR ly, sR ly84, sJ 0, sS] [(.ref ar84), (.long (0 : Int64))])) rfl rfl (hb hby d8_49)) ?_
  refine Go.st (S' := T84.setTop (mkF m 51 #[sR a1, sJ q2, sS, sJ tm, sS, sR ly, sR ly84, sJ 0, sS] [(.long (1 : Int64)), (.long (0 : Int64))])) (fun _ k => XS.i2l X84.here hx rfl (hb hby d8_50) rfl k) ?_
  refine Go.st (S' := T84.setTop (mkF m 52 #[sR a1, sJ q2, sS, sJ tm, sS, sR ly, sR ly84, sJ 0, sS] [(.int (lcmpW (0 : Int64) (1 : Int64)))])) (fun _ k => XS.lcmp X84.here hx rfl (hb hby d8_51) rfl k) ?_
  refine Go.st (S' := T84.setTop (mkF m 80 #[sR a1, sJ q2, sS, sJ tm, sS, sR ly, sR ly84, sJ 0, sS] [])) (fun _ k => XS.ifYes X84.here hx rfl (pc0 := 52) (pc' := 80) rfl (hb hby d8_52) rfl (own_Llt (by decide)).1 (by decide) (by decide) k) ?_
  refine Go.st (S' := T84.setTop (mkF m 82 #[sR a1, sJ q2, sS, sJ tm, sS, sR ly, sR ly84, sJ 0, sS] [(.ref ly84)])) (fun _ k => XS.aload X84.here hx rfl (hb hby d8_80) rfl rfl k) ?_
  refine Go.st (S' := T84.setTop (mkF m 85 #[sR a1, sJ q2, sS, sJ tm, sS, sR ly, sR ly84, sJ 0, sS] [(.ref ar84)])) (own_getFR X84 hx hZ hown (ww hw 48 rfl) rfl gslots84 (g := (mkF m 82 #[sR a1, sJ q2, sS, sJ tm, sS, sR ly, sR ly84, sJ 0, sS] [(.ref ly84)])) rfl rfl (hb hby d8_82)) ?_
  refine Go.st (S' := T84.setTop (mkF m 87 #[sR a1, sJ q2, sS, sJ tm, sS, sR ly, sR ly84, sJ 0, sS] [(.long (0 : Int64)), (.ref ar84)])) (fun _ k => XS.lload X84.here hx rfl (hb hby d8_85) rfl k) ?_
  refine Go.st (S' := T84.setTop (mkF m 88 #[sR a1, sJ q2, sS, sJ tm, sS, sR ly, sR ly84, sJ 0, sS] [(.int (0 : Int32)), (.ref ar84)])) (fun _ k => XS.l2i X84.here hx rfl (hb hby d8_87) rfl k) ?_
  refine Go.st (S' := T84.setTop (mkF m 89 #[sR a1, sJ q2, sS, sJ tm, sS, sR ly, sR ly84, sJ 0, sS] [(.long tm), (.int (0 : Int32)), (.ref ar84)])) (fun _ k => XS.lloadN X84.here hx rfl (hb hby d8_88) rfl k) ?_
  obtain ⟨T89, h89, X89, e89, W89, V89, st89⟩ := own_stA X84 hx hZ rfl va84 (j := (0 : Int32)) ⟨by decide, by decide⟩ (g := (mkF m 89 #[sR a1, sJ q2, sS, sJ tm, sS, sR ly, sR ly84, sJ 0, sS] [(.long tm), (.int (0 : Int32)), (.ref ar84)])) rfl rfl (hb hby d8_89)
  have N89 := Fr.snoc X89 N84 (Nat.le_trans O0.1 sa84)
  have O89 : Ext Z.heap h89 := own_Ext.wr O84 W89 (Nat.le_trans O0.1 sa84)
  have KP89 : Keep h0 h89 [a1] := KP84.wr W89 (Or.inr (Nat.le_trans KP0.1 sa84))
  refine Go.st (S' := T89.setTop (mkF m 90 #[sR a1, sJ q2, sS, sJ tm, sS, sR ly, sR ly84, sJ 0, sS] [])) st89 ?_
  refine Go.st (S' := T89.setTop (mkF m 92 #[sR a1, sJ q2, sS, sJ tm, sS, sR ly, sR ly84, sJ 0, sS] [(.ref ly84)])) (fun _ k => XS.aload X89.here hx rfl (hb hby d8_90) rfl rfl k) ?_
  refine Go.st (S' := T89.setTop (mkF m 94 #[sR a1, sJ q2, sS, sJ tm, sS, sR ly, sR ly84, sJ 0, sS] [(.ref ly), (.ref ly84)])) (fun _ k => XS.aload X89.here hx rfl (hb hby d8_92) rfl rfl k) ?_
  refine Go.st (S' := T89.setTop (mkF m 97 #[sR a1, sJ q2, sS, sJ tm, sS, sR ly, sR ly84, sJ 0, sS] [])) (fun _ k => Jvm.RoadKit.acmp (g := (mkF m 94 #[sR a1, sJ q2, sS, sJ tm, sS, sR ly, sR ly84, sJ 0, sS] [(.ref ly), (.ref ly84)])) X89 hx rfl rfl rfl (pc0 := 94) (pc' := 97) (same := false) rfl (hb hby d8_94) rfl (decide_eq_false fun q => (Ne.symm ne_ly_ly84) (Value.ref.inj q)) (by decide) (by decide) k) ?_
  refine Go.st (S' := T89.setTop (mkF m 98 #[sR a1, sJ q2, sS, sJ tm, sS, sR ly, sR ly84, sJ 0, sS] [(.ref a1)])) (fun _ k => XS.aloadN X89.here hx rfl (hb hby d8_97) rfl rfl k) ?_
  refine Go.st (S' := T89.setTop (mkF m 100 #[sR a1, sJ q2, sS, sJ tm, sS, sR ly, sR ly84, sJ 0, sS] [(.ref ly84), (.ref a1)])) (fun _ k => XS.aload X89.here hx rfl (hb hby d8_98) rfl rfl k) ?_
  obtain ⟨T90, h90, X90, e90, W90, st90⟩ := putF X89 hx hZ hown (host := "") (Or.inl (ww hw 35 rfl)) Via.refl e89 ((F_layout.keep kp84 nin0).other W89 (Or.inl ne_a1_ar84)) ((EA.keep kp84).wr W89) (Or.inl (ww hw 36 rfl)) (ww hw 3 rfl) (ty := (.object "com/example/palimpsest/palimpsest/CommitTimes$Layout")) pf_770827 rfl rfl (g := (mkF m 100 #[sR a1, sJ q2, sS, sJ tm, sS, sR ly, sR ly84, sJ 0, sS] [(.ref ly84), (.ref a1)])) rfl rfl (hb hby d8_100)
  have N90 := Fr.snoc X90 N89 ga
  have Fw90 := ((F_layout.keep kp84 nin0).other W89 (Or.inl ne_a1_ar84)).same W90
  have O90 : Ext Z.heap h90 := own_Ext.wr O89 W90 ga
  have KP90 : Keep h0 h90 [a1] := KP89.wr W90 (Or.inl (List.mem_of_getElem? (i := 0) rfl))
  refine Go.st (S' := T90.setTop (mkF m 103 #[sR a1, sJ q2, sS, sJ tm, sS, sR ly, sR ly84, sJ 0, sS] [])) st90 ?_
  refine Go.st (S' := T90.setTop (mkF m 104 #[sR a1, sJ q2, sS, sJ tm, sS, sR ly, sR ly84, sJ 0, sS] [(.ref a1)])) (fun _ k => XS.aloadN X90.here hx rfl (hb hby d8_103) rfl rfl k) ?_
  refine Go.st (S' := T90.setTop (mkF m 105 #[sR a1, sJ q2, sS, sJ tm, sS, sR ly, sR ly84, sJ 0, sS] [(.long q2), (.ref a1)])) (fun _ k => XS.lloadN X90.here hx rfl (hb hby d8_104) rfl k) ?_
  obtain ⟨T91, h91, X91, e91, W91, st91⟩ := putF X90 hx hZ hown (host := "") (Or.inl (ww hw 61 rfl)) Via.refl e90 (((F_newest.keep kp84 nin0).other W89 (Or.inl ne_a1_ar84)).other W90 (Or.inr (sn_653249_newest_layout hw))) (((EA.keep kp84).wr W89).wr W90) (Or.inl (ww hw 62 rfl)) (ww hw 3 rfl) (ty := .long) pf_991 rfl rfl (g := (mkF m 105 #[sR a1, sJ q2, sS, sJ tm, sS, sR ly, sR ly84, sJ 0, sS] [(.long q2), (.ref a1)])) rfl rfl (hb hby d8_105)
  have N91 := Fr.snoc X91 N90 ga
  have Fw91 := (((F_newest.keep kp84 nin0).other W89 (Or.inl ne_a1_ar84)).other W90 (Or.inr (sn_653249_newest_layout hw))).same W91
  have O91 : Ext Z.heap h91 := own_Ext.wr O90 W91 ga
  have KP91 : Keep h0 h91 [a1] := KP90.wr W91 (Or.inl (List.mem_of_getElem? (i := 0) rfl))
  refine Go.st (S' := T91.setTop (mkF m 108 #[sR a1, sJ q2, sS, sJ tm, sS, sR ly, sR ly84, sJ 0, sS] [])) st91 ?_
  exact own_retV X91 hx hlk hret (hb hby d8_108) e91 ⟨rfl, N91, KP91, _, _, _, _, (Nat.le_trans KP0.1 sl84), (Nat.le_trans KP0.1 sa84), (Nat.le_trans KP0.1 st_84), (Nat.le_trans KP0.1 sm84), nla84, nta84, nma84, (((el84.wr W89).wr W90).wr W91), (((golderTimestamps84.other W89 (Or.inl nla84)).other W90 (Or.inl (Ne.symm ne_a1_ly84))).other W91 (Or.inl (Ne.symm ne_a1_ly84))), (((golderTimes84.other W89 (Or.inl nla84)).other W90 (Or.inl (Ne.symm ne_a1_ly84))).other W91 (Or.inl (Ne.symm ne_a1_ly84))), (((golderCount84.other W89 (Or.inl nla84)).other W90 (Or.inl (Ne.symm ne_a1_ly84))).other W91 (Or.inl (Ne.symm ne_a1_ly84))), (((gfloor84.other W89 (Or.inl nla84)).other W90 (Or.inl (Ne.symm ne_a1_ly84))).other W91 (Or.inl (Ne.symm ne_a1_ly84))), (((gslots84.other W89 (Or.inl nla84)).other W90 (Or.inl (Ne.symm ne_a1_ly84))).other W91 (Or.inl (Ne.symm ne_a1_ly84))), (Fw90.other W91 (Or.inr (sn_653249_layout_newest hw))), Fw91, ((V89.other W90 (Ne.symm ne_a1_ar84)).other W91 (Ne.symm ne_a1_ar84)), (((vt84.other W89 nta84).other W90 (Ne.symm ne_a1_ta84)).other W91 (Ne.symm ne_a1_ta84)), (((vm84.other W89 nma84).other W90 (Ne.symm ne_a1_ma84)).other W91 (Ne.symm ne_a1_ma84))⟩ (by decide) (by decide)
theorem ef_rmAddB (m : MethodId) (x0 : Addr) (x1 : Int64) (x2 : Int64) : entryFrame m #[(.ref x0), (.long x1), (.long x2)] 9 = mkF m 0 #[sR x0, sJ x1, sS, sJ x2, sS, sU, sU, sU, sU] [] := by first | (simp [entryFrame, mkF, argsToLocals, Value.category]; done) | rfl
set_option maxRecDepth 65536 in
set_option maxHeartbeats 400000000 in
theorem rmAddB (l : Launch) (Z : State) (a0 : Array Value) (hw : ∀ d ∈ tables_1, d.before a0 Z = true) (ws : List Jvm.Cond) (w_NONE : Addr) (k_NONE : ClassId) (hS : SF Z w_NONE k_NONE) (a1 : Addr) (q2 tm nw fl : Int64) (ly : Addr) (oc cn nl : Int32) (sa ta ma : Addr) (hcn : (nw - fl) + (1 : Int64) = cn.toInt64) (hc0 : 0 ≤ cn.toInt) (hc2 : cn.toInt ≤ 2) (hnl : nl = maxF (1 : Int32) ((2 : Int32) * cn)) (hts : q2 = (nw + (1 : Int64))) (hoff : q2 - fl = cn.toInt64) (h0 : Heap) (O0 : Ext Z.heap h0) (ga : Z.heap.size ≤ a1) (EA : Exa Z h0 a1 "com/example/palimpsest/palimpsest/CommitTimes") (EL : Exa Z h0 ly "com/example/palimpsest/palimpsest/CommitTimes$Layout") (n1 : a1 ≠ ly) (F_layout : Fld Z h0 a1 "com/example/palimpsest/palimpsest/CommitTimes" "layout" "Lcom/example/palimpsest/palimpsest/CommitTimes$Layout;" (.ref ly)) (F_newest : Fld Z h0 a1 "com/example/palimpsest/palimpsest/CommitTimes" "newest" "J" (.long nw)) (L_olderTimestamps : Fld Z h0 ly "com/example/palimpsest/palimpsest/CommitTimes$Layout" "olderTimestamps" "[J" (.ref ta)) (L_olderTimes : Fld Z h0 ly "com/example/palimpsest/palimpsest/CommitTimes$Layout" "olderTimes" "[J" (.ref ma)) (L_olderCount : Fld Z h0 ly "com/example/palimpsest/palimpsest/CommitTimes$Layout" "olderCount" "I" (.int oc)) (L_floor : Fld Z h0 ly "com/example/palimpsest/palimpsest/CommitTimes$Layout" "floor" "J" (.long fl)) (L_slots : Fld Z h0 ly "com/example/palimpsest/palimpsest/CommitTimes$Layout" "slots" "[J" (.ref sa)) (A_sa : AL Z h0 sa cn) :
    Con l Z h0 (⟨"com/example/palimpsest/palimpsest/CommitTimes", "add", "(JJ)V"⟩ : MethodName) prog_7_method_3_code 9 none ws ({ frames := 4, cells := 2, slots := 9, locals := 90 } : Room) #[(.ref a1), (.long q2), (.long tm)] (fun v h L => v = none ∧ Fr Z.heap.size L ∧ Keep h0 h [a1] ∧ ∃ ly ar, h0.size ≤ ly ∧ h0.size ≤ ar ∧ ly ≠ ar ∧ Exa Z h ly "com/example/palimpsest/palimpsest/CommitTimes$Layout" ∧ Fld Z h ly "com/example/palimpsest/palimpsest/CommitTimes$Layout" "olderTimestamps" "[J" (.ref ta) ∧ Fld Z h ly "com/example/palimpsest/palimpsest/CommitTimes$Layout" "olderTimes" "[J" (.ref ma) ∧ Fld Z h ly "com/example/palimpsest/palimpsest/CommitTimes$Layout" "olderCount" "I" (.int oc) ∧ Fld Z h ly "com/example/palimpsest/palimpsest/CommitTimes$Layout" "floor" "J" (.long fl) ∧ Fld Z h ly "com/example/palimpsest/palimpsest/CommitTimes$Layout" "slots" "[J" (.ref ar) ∧ Fld Z h a1 "com/example/palimpsest/palimpsest/CommitTimes" "layout" "Lcom/example/palimpsest/palimpsest/CommitTimes$Layout;" (.ref ly) ∧ Fld Z h a1 "com/example/palimpsest/palimpsest/CommitTimes" "newest" "J" (.long q2) ∧ AL Z h ar nl) := by
  obtain ⟨S_NONE, E_NONE, V_NONE⟩ := id hS
  refine own_con (plainFor_of_name pn_977193) ?_
  intro p e s m below meth c T0 X0 hx hby hml hown hnm hret hlk hZ e0
  have hown : s.vm.findClass "com/example/palimpsest/palimpsest/CommitTimes" = some m.cls := hown
  have N0 := Fr.nil Z.heap.size
  have KP0 : Keep h0 h0 [a1] := Keep.refl h0 _
  refine Go.st (S' := T0.setTop (mkF m 0 #[sR a1, sJ q2, sS, sJ tm, sS, sU, sU, sU, sU] [])) (fun _ k => castTop (ef_rmAddB m a1 q2 tm) k) ?_
  refine Go.st (S' := T0.setTop (mkF m 1 #[sR a1, sJ q2, sS, sJ tm, sS, sU, sU, sU, sU] [(.ref a1)])) (fun _ k => XS.aloadN X0.here hx rfl (hb hby d8_0) rfl rfl k) ?_
  obtain ⟨T92, X92, e92, st92⟩ := getF X0 hx hZ hown (host := "") (Or.inl (ww hw 35 rfl)) Via.refl e0 F_layout (g := (mkF m 1 #[sR a1, sJ q2, sS, sJ tm, sS, sU, sU, sU, sU] [(.ref a1)])) rfl rfl (hb hby d8_1)
  refine Go.st (S' := T92.setTop (mkF m 4 #[sR a1, sJ q2, sS, sJ tm, sS, sU, sU, sU, sU] [(.ref ly)])) st92 ?_
  refine Go.st (S' := T92.setTop (mkF m 6 #[sR a1, sJ q2, sS, sJ tm, sS, sR ly, sU, sU, sU] [])) (fun _ k => XS.astore X92.here hx rfl (hb hby d8_4) rfl rfl (l' := #[sR a1, sJ q2, sS, sJ tm, sS, sR ly, sU, sU, sU]) rfl k) ?_
  refine Go.st (S' := T92.setTop (mkF m 8 #[sR a1, sJ q2, sS, sJ tm, sS, sR ly, sU, sU, sU] [(.ref ly)])) (fun _ k => XS.aload X92.here hx rfl (hb hby d8_6) rfl rfl k) ?_
  refine Go.st (S' := T92.setTop (mkF m 10 #[sR a1, sJ q2, sS, sJ tm, sS, sR ly, sR ly, sU, sU] [])) (fun _ k => XS.astore X92.here hx rfl (hb hby d8_8) rfl rfl (l' := #[sR a1, sJ q2, sS, sJ tm, sS, sR ly, sR ly, sU, sU]) rfl k) ?_
  refine Go.st (S' := T92.setTop (mkF m 11 #[sR a1, sJ q2, sS, sJ tm, sS, sR ly, sR ly, sU, sU] [(.long q2)])) (fun _ k => XS.lloadN X92.here hx rfl (hb hby d8_10) rfl k) ?_
  refine Go.st (S' := T92.setTop (mkF m 12 #[sR a1, sJ q2, sS, sJ tm, sS, sR ly, sR ly, sU, sU] [(.ref a1), (.long q2)])) (fun _ k => XS.aloadN X92.here hx rfl (hb hby d8_11) rfl rfl k) ?_
  obtain ⟨T93, X93, e93, st93⟩ := getF X92 hx hZ hown (host := "") (Or.inl (ww hw 61 rfl)) Via.refl e92 F_newest (g := (mkF m 12 #[sR a1, sJ q2, sS, sJ tm, sS, sR ly, sR ly, sU, sU] [(.ref a1), (.long q2)])) rfl rfl (hb hby d8_12)
  refine Go.st (S' := T93.setTop (mkF m 15 #[sR a1, sJ q2, sS, sJ tm, sS, sR ly, sR ly, sU, sU] [(.long nw), (.long q2)])) st93 ?_
  refine Go.st (S' := T93.setTop (mkF m 16 #[sR a1, sJ q2, sS, sJ tm, sS, sR ly, sR ly, sU, sU] [(.long (1 : Int64)), (.long nw), (.long q2)])) (fun _ k => XS.lconst X93.here hx rfl (hb hby d8_15) k) ?_
  refine Go.st (S' := T93.setTop (mkF m 17 #[sR a1, sJ q2, sS, sJ tm, sS, sR ly, sR ly, sU, sU] [(.long (nw + (1 : Int64))), (.long q2)])) (fun _ k => XS.ladd X93.here hx rfl (hb hby d8_16) rfl k) ?_
  refine Go.st (S' := T93.setTop (mkF m 18 #[sR a1, sJ q2, sS, sJ tm, sS, sR ly, sR ly, sU, sU] [(.int (lcmpW q2 (nw + (1 : Int64))))])) (fun _ k => XS.lcmp X93.here hx rfl (hb hby d8_17) rfl k) ?_
  refine Go.st (S' := T93.setTop (mkF m 33 #[sR a1, sJ q2, sS, sJ tm, sS, sR ly, sR ly, sU, sU] [])) (fun _ k => XS.ifYes X93.here hx rfl (pc0 := 18) (pc' := 33) rfl (hb hby d8_18) rfl (own_Leq hts).1 (by decide) (by decide) k) ?_
  refine Go.st (S' := T93.setTop (mkF m 34 #[sR a1, sJ q2, sS, sJ tm, sS, sR ly, sR ly, sU, sU] [(.long q2)])) (fun _ k => XS.lloadN X93.here hx rfl (hb hby d8_33) rfl k) ?_
  refine Go.st (S' := T93.setTop (mkF m 36 #[sR a1, sJ q2, sS, sJ tm, sS, sR ly, sR ly, sU, sU] [(.ref ly), (.long q2)])) (fun _ k => XS.aload X93.here hx rfl (hb hby d8_34) rfl rfl k) ?_
  refine Go.st (S' := T93.setTop (mkF m 39 #[sR a1, sJ q2, sS, sJ tm, sS, sR ly, sR ly, sU, sU] [(.long fl), (.long q2)])) (own_getFR X93 hx hZ hown (ww hw 71 rfl) e93 L_floor (g := (mkF m 36 #[sR a1, sJ q2, sS, sJ tm, sS, sR ly, sR ly, sU, sU] [(.ref ly), (.long q2)])) rfl rfl (hb hby d8_36)) ?_
  refine Go.st (S' := T93.setTop (mkF m 40 #[sR a1, sJ q2, sS, sJ tm, sS, sR ly, sR ly, sU, sU] [(.long (q2 - fl))])) (fun _ k => XS.lsub X93.here hx rfl (hb hby d8_39) rfl k) ?_
  refine Go.st (S' := T93.setTop (mkF m 40 #[sR a1, sJ q2, sS, sJ tm, sS, sR ly, sR ly, sU, sU] [(.long (cn.toInt64))])) (fun _ k => by rw [(hoff : (q2 - fl) = (cn.toInt64))]; exact k) ?_
  refine Go.st (S' := T93.setTop (mkF m 42 #[sR a1, sJ q2, sS, sJ tm, sS, sR ly, sR ly, sJ (cn.toInt64), sS] [])) (fun _ k => XS.lstore X93.here hx rfl (hb hby d8_40) rfl (l' := #[sR a1, sJ q2, sS, sJ tm, sS, sR ly, sR ly, sJ (cn.toInt64), sS]) rfl k) ?_
  refine Go.st (S' := T93.setTop (mkF m 44 #[sR a1, sJ q2, sS, sJ tm, sS, sR ly, sR ly, sJ (cn.toInt64), sS] [(.long (cn.toInt64))])) (fun _ k => XS.lload X93.here hx rfl (hb hby d8_42) rfl k) ?_
  refine Go.st (S' := T93.setTop (mkF m 46 #[sR a1, sJ q2, sS, sJ tm, sS, sR ly, sR ly, sJ (cn.toInt64), sS] [(.ref ly), (.long (cn.toInt64))])) (fun _ k => XS.aload X93.here hx rfl (hb hby d8_44) rfl rfl k) ?_
  refine Go.st (S' := T93.setTop (mkF m 49 #[sR a1, sJ q2, sS, sJ tm, sS, sR ly, sR ly, sJ (cn.toInt64), sS] [(.ref sa), (.long (cn.toInt64))])) (own_getFR X93 hx hZ hown (ww hw 48 rfl) e93 L_slots (g := (mkF m 46 #[sR a1, sJ q2, sS, sJ tm, sS, sR ly, sR ly, sJ (cn.toInt64), sS] [(.ref ly), (.long (cn.toInt64))])) rfl rfl (hb hby d8_46)) ?_
  refine Go.st (S' := T93.setTop (mkF m 50 #[sR a1, sJ q2, sS, sJ tm, sS, sR ly, sR ly, sJ (cn.toInt64), sS] [(.int cn), (.long (cn.toInt64))])) (own_alenA X93 hx hZ e93 A_sa (g := (mkF m 49 #[sR a1, sJ q2, sS, sJ tm, sS, sR ly, sR ly, sJ (cn.toInt64), sS] [(.ref sa), (.long (cn.toInt64))])) rfl rfl (hb hby d8_49)) ?_
  refine Go.st (S' := T93.setTop (mkF m 51 #[sR a1, sJ q2, sS, sJ tm, sS, sR ly, sR ly, sJ (cn.toInt64), sS] [(.long (cn.toInt64)), (.long (cn.toInt64))])) (fun _ k => XS.i2l X93.here hx rfl (hb hby d8_50) rfl k) ?_
  refine Go.st (S' := T93.setTop (mkF m 52 #[sR a1, sJ q2, sS, sJ tm, sS, sR ly, sR ly, sJ (cn.toInt64), sS] [(.int (lcmpW (cn.toInt64) (cn.toInt64)))])) (fun _ k => XS.lcmp X93.here hx rfl (hb hby d8_51) rfl k) ?_
  refine Go.st (S' := T93.setTop (mkF m 55 #[sR a1, sJ q2, sS, sJ tm, sS, sR ly, sR ly, sJ (cn.toInt64), sS] [])) (fun _ k => XS.ifNo X93.here hx rfl (hb hby d8_52) rfl (own_Lnlt (fun q => absurd (Int64.lt_iff_toInt_lt.mp q) (Int.lt_irrefl _))).1 k) ?_
  refine Go.st (S' := T93.setTop (mkF m 57 #[sR a1, sJ q2, sS, sJ tm, sS, sR ly, sR ly, sJ (cn.toInt64), sS] [(.ref ly)])) (fun _ k => XS.aload X93.here hx rfl (hb hby d8_55) rfl rfl k) ?_
  refine Go.st (S' := T93.setTop (mkF m 59 #[sR a1, sJ q2, sS, sJ tm, sS, sR ly, sR ly, sJ (cn.toInt64), sS] [(.ref ly), (.ref ly)])) (fun _ k => XS.aload X93.here hx rfl (hb hby d8_57) rfl rfl k) ?_
  refine Go.st (S' := T93.setTop (mkF m 62 #[sR a1, sJ q2, sS, sJ tm, sS, sR ly, sR ly, sJ (cn.toInt64), sS] [(.long fl), (.ref ly)])) (own_getFR X93 hx hZ hown (ww hw 71 rfl) e93 L_floor (g := (mkF m 59 #[sR a1, sJ q2, sS, sJ tm, sS, sR ly, sR ly, sJ (cn.toInt64), sS] [(.ref ly), (.ref ly)])) rfl rfl (hb hby d8_59)) ?_
  refine Go.st (S' := T93.setTop (mkF m 63 #[sR a1, sJ q2, sS, sJ tm, sS, sR ly, sR ly, sJ (cn.toInt64), sS] [(.ref a1), (.long fl), (.ref ly)])) (fun _ k => XS.aloadN X93.here hx rfl (hb hby d8_62) rfl rfl k) ?_
  obtain ⟨T98, X98, e98, st98⟩ := getF X93 hx hZ hown (host := "") (Or.inl (ww hw 61 rfl)) Via.refl e93 F_newest (g := (mkF m 63 #[sR a1, sJ q2, sS, sJ tm, sS, sR ly, sR ly, sJ (cn.toInt64), sS] [(.ref a1), (.long fl), (.ref ly)])) rfl rfl (hb hby d8_63)
  refine Go.st (S' := T98.setTop (mkF m 66 #[sR a1, sJ q2, sS, sJ tm, sS, sR ly, sR ly, sJ (cn.toInt64), sS] [(.long nw), (.long fl), (.ref ly)])) st98 ?_
  obtain ⟨_, T99, L99, X99, ⟨⟨ly99, ar99, rfl, sl99, sa99, nla99, el99, golderTimestamps99, golderTimes99, golderCount99, gfloor99, gslots99, va99⟩, Nq99, kp99⟩, st99⟩ := own_callV X98 hx hZ hown (ww hw 72 rfl) (ww hw 73 rfl) (notFace_of_selects (args := #[]) (mvT hZ (ww hw 75 rfl))) (ww hw 75 rfl) (ww hw 74 rfl) (ww hw 13 rfl) (ww hw 76 rfl) (by decide) e98 EL (rmRB l Z a0 hw [] w_NONE k_NONE hS ly fl nw oc cn cn nl sa ta ma hcn hc0 hc2 (Int.le_refl _) hnl h0 O0 EL L_olderTimestamps L_olderTimes L_olderCount L_floor L_slots A_sa) 0 (by decide) (by decide) (by decide) (by decide) (g := (mkF m 66 #[sR a1, sJ q2, sS, sJ tm, sS, sR ly, sR ly, sJ (cn.toInt64), sS] [(.long nw), (.long fl), (.ref ly)])) rfl (by rw [hml]; rfl) [(.long fl), (.long nw)] [] rfl (lenOf pd_873481 rfl) rfl (by show 2 * 0 + _ ≤ _; exact Nat.le_of_eq rfl) (hb hby d8_66)
  have N99 := Fr.app N0 Nq99
  have ne_a1_ly99 : a1 ≠ ly99 := own_lt_ne' F_layout.lt sl99
  have ne_ly_ly99 : ly ≠ ly99 := own_lt_ne' L_olderTimestamps.lt sl99
  have ne_sa_ly99 : sa ≠ ly99 := own_lt_ne' A_sa.lt sl99
  have ne_a1_ar99 : a1 ≠ ar99 := own_lt_ne' F_layout.lt sa99
  have ne_ly_ar99 : ly ≠ ar99 := own_lt_ne' L_olderTimestamps.lt sa99
  have ne_sa_ar99 : sa ≠ ar99 := own_lt_ne' A_sa.lt sa99
  have O99 : Ext Z.heap T99.heap := own_Ext.keep O0 kp99 all0
  have KP99 : Keep h0 T99.heap [a1] := KP0.trans kp99 all0
  refine Go.st (S' := T99.setTop (mkF m 69 #[sR a1, sJ q2, sS, sJ tm, sS, sR ly, sR ly, sJ (cn.toInt64), sS] [(.ref ly99)])) st99 ?_
  refine Go.st (S' := T99.setTop (mkF m 71 #[sR a1, sJ q2, sS, sJ tm, sS, sR ly, sR ly99, sJ (cn.toInt64), sS] [])) (fun _ k => XS.astore X99.here hx rfl (hb hby d8_69) rfl rfl (l' := #[sR a1, sJ q2, sS, sJ tm, sS, sR ly, sR ly99, sJ (cn.toInt64), sS]) rfl k) ?_
  refine Go.st (S' := T99.setTop (mkF m 72 #[sR a1, sJ q2, sS, sJ tm, sS, sR ly, sR ly99, sJ (cn.toInt64), sS] [(.long q2)])) (fun _ k => XS.lloadN X99.here hx rfl (hb hby d8_71) rfl k) ?_
  refine Go.st (S' := T99.setTop (mkF m 74 #[sR a1, sJ q2, sS, sJ tm, sS, sR ly, sR ly99, sJ (cn.toInt64), sS] [(.ref ly99), (.long q2)])) (fun _ k => XS.aload X99.here hx rfl (hb hby d8_72) rfl rfl k) ?_
  refine Go.st (S' := T99.setTop (mkF m 77 #[sR a1, sJ q2, sS, sJ tm, sS, sR ly, sR ly99, sJ (cn.toInt64), sS] [(.long fl), (.long q2)])) (own_getFR X99 hx hZ hown (ww hw 71 rfl) rfl gfloor99 (g := (mkF m 74 #[sR a1, sJ q2, sS, sJ tm, sS, sR ly, sR ly99, sJ (cn.toInt64), sS] [(.ref ly99), (.long q2)])) rfl rfl (hb hby d8_74)) ?_
  refine Go.st (S' := T99.setTop (mkF m 78 #[sR a1, sJ q2, sS, sJ tm, sS, sR ly, sR ly99, sJ (cn.toInt64), sS] [(.long (q2 - fl))])) (fun _ k => XS.lsub X99.here hx rfl (hb hby d8_77) rfl k) ?_
  refine Go.st (S' := T99.setTop (mkF m 78 #[sR a1, sJ q2, sS, sJ tm, sS, sR ly, sR ly99, sJ (cn.toInt64), sS] [(.long (cn.toInt64))])) (fun _ k => by rw [(hoff : (q2 - fl) = (cn.toInt64))]; exact k) ?_
  refine Go.st (S' := T99.setTop (mkF m 80 #[sR a1, sJ q2, sS, sJ tm, sS, sR ly, sR ly99, sJ (cn.toInt64), sS] [])) (fun _ k => XS.lstore X99.here hx rfl (hb hby d8_78) rfl (l' := #[sR a1, sJ q2, sS, sJ tm, sS, sR ly, sR ly99, sJ (cn.toInt64), sS]) rfl k) ?_
  refine Go.st (S' := T99.setTop (mkF m 82 #[sR a1, sJ q2, sS, sJ tm, sS, sR ly, sR ly99, sJ (cn.toInt64), sS] [(.ref ly99)])) (fun _ k => XS.aload X99.here hx rfl (hb hby d8_80) rfl rfl k) ?_
  refine Go.st (S' := T99.setTop (mkF m 85 #[sR a1, sJ q2, sS, sJ tm, sS, sR ly, sR ly99, sJ (cn.toInt64), sS] [(.ref ar99)])) (own_getFR X99 hx hZ hown (ww hw 48 rfl) rfl gslots99 (g := (mkF m 82 #[sR a1, sJ q2, sS, sJ tm, sS, sR ly, sR ly99, sJ (cn.toInt64), sS] [(.ref ly99)])) rfl rfl (hb hby d8_82)) ?_
  refine Go.st (S' := T99.setTop (mkF m 87 #[sR a1, sJ q2, sS, sJ tm, sS, sR ly, sR ly99, sJ (cn.toInt64), sS] [(.long (cn.toInt64)), (.ref ar99)])) (fun _ k => XS.lload X99.here hx rfl (hb hby d8_85) rfl k) ?_
  refine Go.st (S' := T99.setTop (mkF m 88 #[sR a1, sJ q2, sS, sJ tm, sS, sR ly, sR ly99, sJ (cn.toInt64), sS] [(.int ((cn.toInt64).toInt32)), (.ref ar99)])) (fun _ k => XS.l2i X99.here hx rfl (hb hby d8_87) rfl k) ?_
  refine Go.st (S' := T99.setTop (mkF m 88 #[sR a1, sJ q2, sS, sJ tm, sS, sR ly, sR ly99, sJ (cn.toInt64), sS] [(.int cn), (.ref ar99)])) (fun _ k => by rw [(own_rt cn : ((cn.toInt64).toInt32) = cn)]; exact k) ?_
  refine Go.st (S' := T99.setTop (mkF m 89 #[sR a1, sJ q2, sS, sJ tm, sS, sR ly, sR ly99, sJ (cn.toInt64), sS] [(.long tm), (.int cn), (.ref ar99)])) (fun _ k => XS.lloadN X99.here hx rfl (hb hby d8_88) rfl k) ?_
  obtain ⟨T102, h102, X102, e102, W102, V102, st102⟩ := own_stA X99 hx hZ rfl va99 (j := cn) (own_bd hc0 (own_nr hnl hc0 hc2).2.2) (g := (mkF m 89 #[sR a1, sJ q2, sS, sJ tm, sS, sR ly, sR ly99, sJ (cn.toInt64), sS] [(.long tm), (.int cn), (.ref ar99)])) rfl rfl (hb hby d8_89)
  have N102 := Fr.snoc X102 N99 (Nat.le_trans O0.1 sa99)
  have O102 : Ext Z.heap h102 := own_Ext.wr O99 W102 (Nat.le_trans O0.1 sa99)
  have KP102 : Keep h0 h102 [a1] := KP99.wr W102 (Or.inr (Nat.le_trans KP0.1 sa99))
  refine Go.st (S' := T102.setTop (mkF m 90 #[sR a1, sJ q2, sS, sJ tm, sS, sR ly, sR ly99, sJ (cn.toInt64), sS] [])) st102 ?_
  refine Go.st (S' := T102.setTop (mkF m 92 #[sR a1, sJ q2, sS, sJ tm, sS, sR ly, sR ly99, sJ (cn.toInt64), sS] [(.ref ly99)])) (fun _ k => XS.aload X102.here hx rfl (hb hby d8_90) rfl rfl k) ?_
  refine Go.st (S' := T102.setTop (mkF m 94 #[sR a1, sJ q2, sS, sJ tm, sS, sR ly, sR ly99, sJ (cn.toInt64), sS] [(.ref ly), (.ref ly99)])) (fun _ k => XS.aload X102.here hx rfl (hb hby d8_92) rfl rfl k) ?_
  refine Go.st (S' := T102.setTop (mkF m 97 #[sR a1, sJ q2, sS, sJ tm, sS, sR ly, sR ly99, sJ (cn.toInt64), sS] [])) (fun _ k => Jvm.RoadKit.acmp (g := (mkF m 94 #[sR a1, sJ q2, sS, sJ tm, sS, sR ly, sR ly99, sJ (cn.toInt64), sS] [(.ref ly), (.ref ly99)])) X102 hx rfl rfl rfl (pc0 := 94) (pc' := 97) (same := false) rfl (hb hby d8_94) rfl (decide_eq_false fun q => (Ne.symm ne_ly_ly99) (Value.ref.inj q)) (by decide) (by decide) k) ?_
  refine Go.st (S' := T102.setTop (mkF m 98 #[sR a1, sJ q2, sS, sJ tm, sS, sR ly, sR ly99, sJ (cn.toInt64), sS] [(.ref a1)])) (fun _ k => XS.aloadN X102.here hx rfl (hb hby d8_97) rfl rfl k) ?_
  refine Go.st (S' := T102.setTop (mkF m 100 #[sR a1, sJ q2, sS, sJ tm, sS, sR ly, sR ly99, sJ (cn.toInt64), sS] [(.ref ly99), (.ref a1)])) (fun _ k => XS.aload X102.here hx rfl (hb hby d8_98) rfl rfl k) ?_
  obtain ⟨T103, h103, X103, e103, W103, st103⟩ := putF X102 hx hZ hown (host := "") (Or.inl (ww hw 35 rfl)) Via.refl e102 ((F_layout.keep kp99 nin0).other W102 (Or.inl ne_a1_ar99)) ((EA.keep kp99).wr W102) (Or.inl (ww hw 36 rfl)) (ww hw 3 rfl) (ty := (.object "com/example/palimpsest/palimpsest/CommitTimes$Layout")) pf_770827 rfl rfl (g := (mkF m 100 #[sR a1, sJ q2, sS, sJ tm, sS, sR ly, sR ly99, sJ (cn.toInt64), sS] [(.ref ly99), (.ref a1)])) rfl rfl (hb hby d8_100)
  have N103 := Fr.snoc X103 N102 ga
  have Fw103 := ((F_layout.keep kp99 nin0).other W102 (Or.inl ne_a1_ar99)).same W103
  have O103 : Ext Z.heap h103 := own_Ext.wr O102 W103 ga
  have KP103 : Keep h0 h103 [a1] := KP102.wr W103 (Or.inl (List.mem_of_getElem? (i := 0) rfl))
  refine Go.st (S' := T103.setTop (mkF m 103 #[sR a1, sJ q2, sS, sJ tm, sS, sR ly, sR ly99, sJ (cn.toInt64), sS] [])) st103 ?_
  refine Go.st (S' := T103.setTop (mkF m 104 #[sR a1, sJ q2, sS, sJ tm, sS, sR ly, sR ly99, sJ (cn.toInt64), sS] [(.ref a1)])) (fun _ k => XS.aloadN X103.here hx rfl (hb hby d8_103) rfl rfl k) ?_
  refine Go.st (S' := T103.setTop (mkF m 105 #[sR a1, sJ q2, sS, sJ tm, sS, sR ly, sR ly99, sJ (cn.toInt64), sS] [(.long q2), (.ref a1)])) (fun _ k => XS.lloadN X103.here hx rfl (hb hby d8_104) rfl k) ?_
  obtain ⟨T104, h104, X104, e104, W104, st104⟩ := putF X103 hx hZ hown (host := "") (Or.inl (ww hw 61 rfl)) Via.refl e103 (((F_newest.keep kp99 nin0).other W102 (Or.inl ne_a1_ar99)).other W103 (Or.inr (sn_653249_newest_layout hw))) (((EA.keep kp99).wr W102).wr W103) (Or.inl (ww hw 62 rfl)) (ww hw 3 rfl) (ty := .long) pf_991 rfl rfl (g := (mkF m 105 #[sR a1, sJ q2, sS, sJ tm, sS, sR ly, sR ly99, sJ (cn.toInt64), sS] [(.long q2), (.ref a1)])) rfl rfl (hb hby d8_105)
  have N104 := Fr.snoc X104 N103 ga
  have Fw104 := (((F_newest.keep kp99 nin0).other W102 (Or.inl ne_a1_ar99)).other W103 (Or.inr (sn_653249_newest_layout hw))).same W104
  have O104 : Ext Z.heap h104 := own_Ext.wr O103 W104 ga
  have KP104 : Keep h0 h104 [a1] := KP103.wr W104 (Or.inl (List.mem_of_getElem? (i := 0) rfl))
  refine Go.st (S' := T104.setTop (mkF m 108 #[sR a1, sJ q2, sS, sJ tm, sS, sR ly, sR ly99, sJ (cn.toInt64), sS] [])) st104 ?_
  exact own_retV X104 hx hlk hret (hb hby d8_108) e104 ⟨rfl, N104, KP104, _, _, (Nat.le_trans KP0.1 sl99), (Nat.le_trans KP0.1 sa99), nla99, (((el99.wr W102).wr W103).wr W104), (((golderTimestamps99.other W102 (Or.inl nla99)).other W103 (Or.inl (Ne.symm ne_a1_ly99))).other W104 (Or.inl (Ne.symm ne_a1_ly99))), (((golderTimes99.other W102 (Or.inl nla99)).other W103 (Or.inl (Ne.symm ne_a1_ly99))).other W104 (Or.inl (Ne.symm ne_a1_ly99))), (((golderCount99.other W102 (Or.inl nla99)).other W103 (Or.inl (Ne.symm ne_a1_ly99))).other W104 (Or.inl (Ne.symm ne_a1_ly99))), (((gfloor99.other W102 (Or.inl nla99)).other W103 (Or.inl (Ne.symm ne_a1_ly99))).other W104 (Or.inl (Ne.symm ne_a1_ly99))), (((gslots99.other W102 (Or.inl nla99)).other W103 (Or.inl (Ne.symm ne_a1_ly99))).other W104 (Or.inl (Ne.symm ne_a1_ly99))), (Fw103.other W104 (Or.inr (sn_653249_layout_newest hw))), Fw104, ((V102.other W103 (Ne.symm ne_a1_ar99)).other W104 (Ne.symm ne_a1_ar99))⟩ (by decide) (by decide)
theorem d5_0 : decode method_2_code 0 = .ok (.iload_n 3, 1) := by decide +kernel
theorem d5_1 : decode method_2_code 1 = .ok (.ifCond .le 10, 3) := by decide +kernel
theorem d5_11 : decode method_2_code 11 = .ok (.iload_n 3, 1) := by decide +kernel
theorem d5_12 : decode method_2_code 12 = .ok (.iconst 1, 1) := by decide +kernel
theorem d5_13 : decode method_2_code 13 = .ok (.if_icmp .le 14, 3) := by decide +kernel
theorem d5_27 : decode method_2_code 27 = .ok (.iload_n 3, 1) := by decide +kernel
theorem d5_28 : decode method_2_code 28 = .ok (.iconst 2, 1) := by decide +kernel
theorem d5_29 : decode method_2_code 29 = .ok (.if_icmp .le 18, 3) := by decide +kernel
theorem d5_47 : decode method_2_code 47 = .ok (.return_, 1) := by decide +kernel
theorem ef_rmR0 (m : MethodId) (x0 : Addr) (x1 : Int64) (x2 : Int32) (x3 : Int64) : entryFrame m #[(.ref x0), (.long x1), (.int x2), (.long x3)] 6 = mkF m 0 #[sR x0, sJ x1, sS, sI x2, sJ x3, sS] [] := by first | (simp [entryFrame, mkF, argsToLocals, Value.category]; done) | rfl
set_option maxRecDepth 65536 in
set_option maxHeartbeats 400000000 in
theorem rmR0 (l : Launch) (Z : State) (a0 : Array Value) (hw : ∀ d ∈ tables_1, d.before a0 Z = true) (ws : List Jvm.Cond) (w_NONE : Addr) (k_NONE : ClassId) (hS : SF Z w_NONE k_NONE) (a1 : Addr) (q2 tm : Int64) (h0 : Heap) (O0 : Ext Z.heap h0)  :
    Con l Z h0 (⟨"com/example/palimpsest/palimpsest/CommitTimesHeapBytesPinLaw", "run", "(Lcom/example/palimpsest/palimpsest/CommitTimes;JIJ)V"⟩ : MethodName) method_2_code 6 none ws ({ frames := 0, cells := 0, slots := 0, locals := 0 } : Room) #[(.ref a1), (.long q2), (.int (0 : Int32)), (.long tm)] (fun v h L => v = none ∧ Fr Z.heap.size L ∧ h = h0) := by
  obtain ⟨S_NONE, E_NONE, V_NONE⟩ := id hS
  refine own_con (plainFor_of_name pn_531690) ?_
  intro p e s m below meth c T0 X0 hx hby hml hown hnm hret hlk hZ e0
  have hown : s.vm.findClass "com/example/palimpsest/palimpsest/CommitTimesHeapBytesPinLaw" = some m.cls := hown
  have N0 := Fr.nil Z.heap.size
  refine Go.st (S' := T0.setTop (mkF m 0 #[sR a1, sJ q2, sS, sI 0, sJ tm, sS] [])) (fun _ k => castTop (ef_rmR0 m a1 q2 (0 : Int32) tm) k) ?_
  refine Go.st (S' := T0.setTop (mkF m 1 #[sR a1, sJ q2, sS, sI 0, sJ tm, sS] [(.int (0 : Int32))])) (fun _ k => XS.iloadN X0.here hx rfl (hb hby d5_0) rfl k) ?_
  refine Go.st (S' := T0.setTop (mkF m 11 #[sR a1, sJ q2, sS, sI 0, sJ tm, sS] [])) (fun _ k => XS.ifYes X0.here hx rfl (pc0 := 1) (pc' := 11) rfl (hb hby d5_1) rfl ((if0 _ _).trans (flt (by decide)).2.2.2) (by decide) (by decide) k) ?_
  refine Go.st (S' := T0.setTop (mkF m 12 #[sR a1, sJ q2, sS, sI 0, sJ tm, sS] [(.int (0 : Int32))])) (fun _ k => XS.iloadN X0.here hx rfl (hb hby d5_11) rfl k) ?_
  refine Go.st (S' := T0.setTop (mkF m 13 #[sR a1, sJ q2, sS, sI 0, sJ tm, sS] [(.int (1 : Int32)), (.int (0 : Int32))])) (fun _ k => XS.iconst X0.here hx rfl (hb hby d5_12) k) ?_
  refine Go.st (S' := T0.setTop (mkF m 27 #[sR a1, sJ q2, sS, sI 0, sJ tm, sS] [])) (fun _ k => XS.icmpYes X0.here hx rfl (pc0 := 13) (pc' := 27) rfl (hb hby d5_13) rfl (flt (by decide)).2.2.2 (by decide) (by decide) k) ?_
  refine Go.st (S' := T0.setTop (mkF m 28 #[sR a1, sJ q2, sS, sI 0, sJ tm, sS] [(.int (0 : Int32))])) (fun _ k => XS.iloadN X0.here hx rfl (hb hby d5_27) rfl k) ?_
  refine Go.st (S' := T0.setTop (mkF m 29 #[sR a1, sJ q2, sS, sI 0, sJ tm, sS] [(.int (2 : Int32)), (.int (0 : Int32))])) (fun _ k => XS.iconst X0.here hx rfl (hb hby d5_28) k) ?_
  refine Go.st (S' := T0.setTop (mkF m 47 #[sR a1, sJ q2, sS, sI 0, sJ tm, sS] [])) (fun _ k => XS.icmpYes X0.here hx rfl (pc0 := 29) (pc' := 47) rfl (hb hby d5_29) rfl (flt (by decide)).2.2.2 (by decide) (by decide) k) ?_
  exact own_retV X0 hx hlk hret (hb hby d5_47) e0 ⟨rfl, N0, rfl⟩ (by decide) (by decide)
theorem d5_4 : decode method_2_code 4 = .ok (.aload_n 0, 1) := by decide +kernel
theorem d5_5 : decode method_2_code 5 = .ok (.lload_n 1, 1) := by decide +kernel
theorem d5_6 : decode method_2_code 6 = .ok (.lload 4, 2) := by decide +kernel
theorem d5_8 : decode method_2_code 8 = .ok (.invokevirtual 7, 3) := by decide +kernel
theorem pd_212493 : parseMethodDescriptor "(JJ)V" = some ⟨[.long, .long], none⟩ := by decide +kernel
theorem ef_rmRI1 (m : MethodId) (x0 : Addr) (x1 : Int64) (x2 : Int32) (x3 : Int64) : entryFrame m #[(.ref x0), (.long x1), (.int x2), (.long x3)] 6 = mkF m 0 #[sR x0, sJ x1, sS, sI x2, sJ x3, sS] [] := by first | (simp [entryFrame, mkF, argsToLocals, Value.category]; done) | rfl
set_option maxRecDepth 65536 in
set_option maxHeartbeats 400000000 in
theorem rmRI1 (l : Launch) (Z : State) (a0 : Array Value) (hw : ∀ d ∈ tables_1, d.before a0 Z = true) (ws : List Jvm.Cond) (w_NONE : Addr) (k_NONE : ClassId) (hS : SF Z w_NONE k_NONE) (a1 : Addr) (q2 tm : Int64) (ly : Addr) (h0 : Heap) (O0 : Ext Z.heap h0) (ga : Z.heap.size ≤ a1) (EA : Exa Z h0 a1 "com/example/palimpsest/palimpsest/CommitTimes") (EL : Exa Z h0 ly "com/example/palimpsest/palimpsest/CommitTimes$Layout") (n1 : a1 ≠ ly) (F_layout : Fld Z h0 a1 "com/example/palimpsest/palimpsest/CommitTimes" "layout" "Lcom/example/palimpsest/palimpsest/CommitTimes$Layout;" (.ref ly)) (F_newest : Fld Z h0 a1 "com/example/palimpsest/palimpsest/CommitTimes" "newest" "J" (.long (0 : Int64))) (L_olderTimestamps : Fld Z h0 ly "com/example/palimpsest/palimpsest/CommitTimes$Layout" "olderTimestamps" "[J" (.ref w_NONE)) (L_olderTimes : Fld Z h0 ly "com/example/palimpsest/palimpsest/CommitTimes$Layout" "olderTimes" "[J" (.ref w_NONE)) (L_olderCount : Fld Z h0 ly "com/example/palimpsest/palimpsest/CommitTimes$Layout" "olderCount" "I" (.int (0 : Int32))) (L_floor : Fld Z h0 ly "com/example/palimpsest/palimpsest/CommitTimes$Layout" "floor" "J" (.long (1 : Int64))) (L_slots : Fld Z h0 ly "com/example/palimpsest/palimpsest/CommitTimes$Layout" "slots" "[J" (.ref w_NONE)) :
    Con l Z h0 (⟨"com/example/palimpsest/palimpsest/CommitTimesHeapBytesPinLaw", "run", "(Lcom/example/palimpsest/palimpsest/CommitTimes;JIJ)V"⟩ : MethodName) method_2_code 6 none ws ({ frames := 5, cells := 4, slots := 18, locals := 120 } : Room) #[(.ref a1), (.long q2), (.int (1 : Int32)), (.long tm)] (fun v h L => v = none ∧ Fr Z.heap.size L ∧ Keep h0 h [a1] ∧ ∃ ly ar, h0.size ≤ ly ∧ h0.size ≤ ar ∧ ly ≠ ar ∧ Exa Z h ly "com/example/palimpsest/palimpsest/CommitTimes$Layout" ∧ Fld Z h ly "com/example/palimpsest/palimpsest/CommitTimes$Layout" "olderTimestamps" "[J" (.ref w_NONE) ∧ Fld Z h ly "com/example/palimpsest/palimpsest/CommitTimes$Layout" "olderTimes" "[J" (.ref w_NONE) ∧ Fld Z h ly "com/example/palimpsest/palimpsest/CommitTimes$Layout" "olderCount" "I" (.int (0 : Int32)) ∧ Fld Z h ly "com/example/palimpsest/palimpsest/CommitTimes$Layout" "floor" "J" (.long q2) ∧ Fld Z h ly "com/example/palimpsest/palimpsest/CommitTimes$Layout" "slots" "[J" (.ref ar) ∧ Fld Z h a1 "com/example/palimpsest/palimpsest/CommitTimes" "layout" "Lcom/example/palimpsest/palimpsest/CommitTimes$Layout;" (.ref ly) ∧ Fld Z h a1 "com/example/palimpsest/palimpsest/CommitTimes" "newest" "J" (.long q2) ∧ AL Z h ar (1 : Int32)) := by
  obtain ⟨S_NONE, E_NONE, V_NONE⟩ := id hS
  refine own_con (plainFor_of_name pn_531690) ?_
  intro p e s m below meth c T0 X0 hx hby hml hown hnm hret hlk hZ e0
  have hown : s.vm.findClass "com/example/palimpsest/palimpsest/CommitTimesHeapBytesPinLaw" = some m.cls := hown
  have N0 := Fr.nil Z.heap.size
  have KP0 : Keep h0 h0 [a1] := Keep.refl h0 _
  refine Go.st (S' := T0.setTop (mkF m 0 #[sR a1, sJ q2, sS, sI 1, sJ tm, sS] [])) (fun _ k => castTop (ef_rmRI1 m a1 q2 (1 : Int32) tm) k) ?_
  refine Go.st (S' := T0.setTop (mkF m 1 #[sR a1, sJ q2, sS, sI 1, sJ tm, sS] [(.int (1 : Int32))])) (fun _ k => XS.iloadN X0.here hx rfl (hb hby d5_0) rfl k) ?_
  refine Go.st (S' := T0.setTop (mkF m 4 #[sR a1, sJ q2, sS, sI 1, sJ tm, sS] [])) (fun _ k => XS.ifNo X0.here hx rfl (hb hby d5_1) rfl ((if0 _ _).trans (tlt (by decide)).2.2.2) k) ?_
  refine Go.st (S' := T0.setTop (mkF m 5 #[sR a1, sJ q2, sS, sI 1, sJ tm, sS] [(.ref a1)])) (fun _ k => XS.aloadN X0.here hx rfl (hb hby d5_4) rfl rfl k) ?_
  refine Go.st (S' := T0.setTop (mkF m 6 #[sR a1, sJ q2, sS, sI 1, sJ tm, sS] [(.long q2), (.ref a1)])) (fun _ k => XS.lloadN X0.here hx rfl (hb hby d5_5) rfl k) ?_
  refine Go.st (S' := T0.setTop (mkF m 8 #[sR a1, sJ q2, sS, sI 1, sJ tm, sS] [(.long tm), (.long q2), (.ref a1)])) (fun _ k => XS.lload X0.here hx rfl (hb hby d5_6) rfl k) ?_
  obtain ⟨_, T105, L105, X105, ⟨rfl, Nq105, kp105, ly105, ar105, sl105, sa105, nla105, el105, golderTimestamps105, golderTimes105, golderCount105, gfloor105, gslots105, flayout105, fnewest105, va105⟩, st105⟩ := own_callV X0 hx hZ hown (ww hw 56 rfl) (ww hw 57 rfl) (notFace_of_selects (args := #[]) (mvT hZ (ww hw 59 rfl))) (ww hw 59 rfl) (ww hw 58 rfl) (ww hw 4 rfl) (ww hw 60 rfl) (by decide) e0 EA (rmAddI l Z a0 hw [] w_NONE k_NONE hS a1 q2 tm ly h0 O0 ga EA EL n1 F_layout F_newest L_olderTimestamps L_olderTimes L_olderCount L_floor L_slots) 0 (by decide) (by decide) (by decide) (by decide) (g := (mkF m 8 #[sR a1, sJ q2, sS, sI 1, sJ tm, sS] [(.long tm), (.long q2), (.ref a1)])) rfl (by rw [hml]; rfl) [(.long q2), (.long tm)] [] rfl (lenOf pd_212493 rfl) rfl (by show 2 * 0 + _ ≤ _; exact Nat.le_of_eq rfl) (hb hby d5_8)
  have N105 := Fr.app N0 Nq105
  have ne_a1_ly105 : a1 ≠ ly105 := own_lt_ne' F_layout.lt sl105
  have ne_ly_ly105 : ly ≠ ly105 := own_lt_ne' L_olderTimestamps.lt sl105
  have ne_a1_ar105 : a1 ≠ ar105 := own_lt_ne' F_layout.lt sa105
  have ne_ly_ar105 : ly ≠ ar105 := own_lt_ne' L_olderTimestamps.lt sa105
  have O105 : Ext Z.heap T105.heap := own_Ext.keep O0 kp105 (allS ga all0)
  have KP105 : Keep h0 T105.heap [a1] := KP0.trans kp105 (allS (Or.inl (List.mem_of_getElem? (i := 0) rfl)) all0)
  refine Go.st (S' := T105.setTop (mkF m 11 #[sR a1, sJ q2, sS, sI 1, sJ tm, sS] [])) st105 ?_
  refine Go.st (S' := T105.setTop (mkF m 12 #[sR a1, sJ q2, sS, sI 1, sJ tm, sS] [(.int (1 : Int32))])) (fun _ k => XS.iloadN X105.here hx rfl (hb hby d5_11) rfl k) ?_
  refine Go.st (S' := T105.setTop (mkF m 13 #[sR a1, sJ q2, sS, sI 1, sJ tm, sS] [(.int (1 : Int32)), (.int (1 : Int32))])) (fun _ k => XS.iconst X105.here hx rfl (hb hby d5_12) k) ?_
  refine Go.st (S' := T105.setTop (mkF m 27 #[sR a1, sJ q2, sS, sI 1, sJ tm, sS] [])) (fun _ k => XS.icmpYes X105.here hx rfl (pc0 := 13) (pc' := 27) rfl (hb hby d5_13) rfl (flt (by decide)).2.2.2 (by decide) (by decide) k) ?_
  refine Go.st (S' := T105.setTop (mkF m 28 #[sR a1, sJ q2, sS, sI 1, sJ tm, sS] [(.int (1 : Int32))])) (fun _ k => XS.iloadN X105.here hx rfl (hb hby d5_27) rfl k) ?_
  refine Go.st (S' := T105.setTop (mkF m 29 #[sR a1, sJ q2, sS, sI 1, sJ tm, sS] [(.int (2 : Int32)), (.int (1 : Int32))])) (fun _ k => XS.iconst X105.here hx rfl (hb hby d5_28) k) ?_
  refine Go.st (S' := T105.setTop (mkF m 47 #[sR a1, sJ q2, sS, sI 1, sJ tm, sS] [])) (fun _ k => XS.icmpYes X105.here hx rfl (pc0 := 29) (pc' := 47) rfl (hb hby d5_29) rfl (flt (by decide)).2.2.2 (by decide) (by decide) k) ?_
  exact own_retV X105 hx hlk hret (hb hby d5_47) rfl ⟨rfl, N105, KP105, _, _, (Nat.le_trans KP0.1 sl105), (Nat.le_trans KP0.1 sa105), nla105, el105, golderTimestamps105, golderTimes105, golderCount105, gfloor105, gslots105, flayout105, fnewest105, va105⟩ (by decide) (by decide)
theorem ef_rmRA1 (m : MethodId) (x0 : Addr) (x1 : Int64) (x2 : Int32) (x3 : Int64) : entryFrame m #[(.ref x0), (.long x1), (.int x2), (.long x3)] 6 = mkF m 0 #[sR x0, sJ x1, sS, sI x2, sJ x3, sS] [] := by first | (simp [entryFrame, mkF, argsToLocals, Value.category]; done) | rfl
set_option maxRecDepth 65536 in
set_option maxHeartbeats 400000000 in
theorem rmRA1 (l : Launch) (Z : State) (a0 : Array Value) (hw : ∀ d ∈ tables_1, d.before a0 Z = true) (ws : List Jvm.Cond) (w_NONE : Addr) (k_NONE : ClassId) (hS : SF Z w_NONE k_NONE) (a1 : Addr) (q2 tm nw fl : Int64) (ly : Addr) (oc ol cn sz nl : Int32) (sa ta ma : Addr) (hcn : (nw - fl) + (1 : Int64) = cn.toInt64) (hc1 : 1 ≤ cn.toInt) (hc3 : cn.toInt ≤ 3) (hsz : cn.toInt ≤ sz.toInt) (ho0 : 0 ≤ oc.toInt) (hoc : oc.toInt ≤ ol.toInt) (hol : ol.toInt ≤ 3) (hgr : ol.toInt < oc.toInt + cn.toInt) (hnl : nl = maxF (oc + cn) ((2 : Int32) * ol)) (h0 : Heap) (O0 : Ext Z.heap h0) (hts : ¬ q2 = (nw + (1 : Int64))) (ga : Z.heap.size ≤ a1) (EA : Exa Z h0 a1 "com/example/palimpsest/palimpsest/CommitTimes") (EL : Exa Z h0 ly "com/example/palimpsest/palimpsest/CommitTimes$Layout") (n1 : a1 ≠ ly) (F_layout : Fld Z h0 a1 "com/example/palimpsest/palimpsest/CommitTimes" "layout" "Lcom/example/palimpsest/palimpsest/CommitTimes$Layout;" (.ref ly)) (F_newest : Fld Z h0 a1 "com/example/palimpsest/palimpsest/CommitTimes" "newest" "J" (.long nw)) (L_olderTimestamps : Fld Z h0 ly "com/example/palimpsest/palimpsest/CommitTimes$Layout" "olderTimestamps" "[J" (.ref ta)) (L_olderTimes : Fld Z h0 ly "com/example/palimpsest/palimpsest/CommitTimes$Layout" "olderTimes" "[J" (.ref ma)) (L_olderCount : Fld Z h0 ly "com/example/palimpsest/palimpsest/CommitTimes$Layout" "olderCount" "I" (.int oc)) (L_floor : Fld Z h0 ly "com/example/palimpsest/palimpsest/CommitTimes$Layout" "floor" "J" (.long fl)) (L_slots : Fld Z h0 ly "com/example/palimpsest/palimpsest/CommitTimes$Layout" "slots" "[J" (.ref sa)) (A_ta : AL Z h0 ta ol) (A_ma : AL Z h0 ma ol) (A_sa : AL Z h0 sa sz) :
    Con l Z h0 (⟨"com/example/palimpsest/palimpsest/CommitTimesHeapBytesPinLaw", "run", "(Lcom/example/palimpsest/palimpsest/CommitTimes;JIJ)V"⟩ : MethodName) method_2_code 6 none ws ({ frames := 5, cells := 4, slots := 18, locals := 120 } : Room) #[(.ref a1), (.long q2), (.int (1 : Int32)), (.long tm)] (fun v h L => v = none ∧ Fr Z.heap.size L ∧ Keep h0 h [a1] ∧ ∃ ly sa ta ma, h0.size ≤ ly ∧ h0.size ≤ sa ∧ h0.size ≤ ta ∧ h0.size ≤ ma ∧ ly ≠ sa ∧ ta ≠ sa ∧ ma ≠ sa ∧ Exa Z h ly "com/example/palimpsest/palimpsest/CommitTimes$Layout" ∧ Fld Z h ly "com/example/palimpsest/palimpsest/CommitTimes$Layout" "olderTimestamps" "[J" (.ref ta) ∧ Fld Z h ly "com/example/palimpsest/palimpsest/CommitTimes$Layout" "olderTimes" "[J" (.ref ma) ∧ Fld Z h ly "com/example/palimpsest/palimpsest/CommitTimes$Layout" "olderCount" "I" (.int (oc + cn)) ∧ Fld Z h ly "com/example/palimpsest/palimpsest/CommitTimes$Layout" "floor" "J" (.long q2) ∧ Fld Z h ly "com/example/palimpsest/palimpsest/CommitTimes$Layout" "slots" "[J" (.ref sa) ∧ Fld Z h a1 "com/example/palimpsest/palimpsest/CommitTimes" "layout" "Lcom/example/palimpsest/palimpsest/CommitTimes$Layout;" (.ref ly) ∧ Fld Z h a1 "com/example/palimpsest/palimpsest/CommitTimes" "newest" "J" (.long q2) ∧ AL Z h sa (1 : Int32) ∧ AL Z h ta nl ∧ AL Z h ma nl) := by
  obtain ⟨S_NONE, E_NONE, V_NONE⟩ := id hS
  refine own_con (plainFor_of_name pn_531690) ?_
  intro p e s m below meth c T0 X0 hx hby hml hown hnm hret hlk hZ e0
  have hown : s.vm.findClass "com/example/palimpsest/palimpsest/CommitTimesHeapBytesPinLaw" = some m.cls := hown
  have N0 := Fr.nil Z.heap.size
  have KP0 : Keep h0 h0 [a1] := Keep.refl h0 _
  refine Go.st (S' := T0.setTop (mkF m 0 #[sR a1, sJ q2, sS, sI 1, sJ tm, sS] [])) (fun _ k => castTop (ef_rmRA1 m a1 q2 (1 : Int32) tm) k) ?_
  refine Go.st (S' := T0.setTop (mkF m 1 #[sR a1, sJ q2, sS, sI 1, sJ tm, sS] [(.int (1 : Int32))])) (fun _ k => XS.iloadN X0.here hx rfl (hb hby d5_0) rfl k) ?_
  refine Go.st (S' := T0.setTop (mkF m 4 #[sR a1, sJ q2, sS, sI 1, sJ tm, sS] [])) (fun _ k => XS.ifNo X0.here hx rfl (hb hby d5_1) rfl ((if0 _ _).trans (tlt (by decide)).2.2.2) k) ?_
  refine Go.st (S' := T0.setTop (mkF m 5 #[sR a1, sJ q2, sS, sI 1, sJ tm, sS] [(.ref a1)])) (fun _ k => XS.aloadN X0.here hx rfl (hb hby d5_4) rfl rfl k) ?_
  refine Go.st (S' := T0.setTop (mkF m 6 #[sR a1, sJ q2, sS, sI 1, sJ tm, sS] [(.long q2), (.ref a1)])) (fun _ k => XS.lloadN X0.here hx rfl (hb hby d5_5) rfl k) ?_
  refine Go.st (S' := T0.setTop (mkF m 8 #[sR a1, sJ q2, sS, sI 1, sJ tm, sS] [(.long tm), (.long q2), (.ref a1)])) (fun _ k => XS.lload X0.here hx rfl (hb hby d5_6) rfl k) ?_
  obtain ⟨_, T106, L106, X106, ⟨rfl, Nq106, kp106, ly106, ar106, ta106, ma106, sl106, sa106, st_106, sm106, nla106, nta106, nma106, el106, golderTimestamps106, golderTimes106, golderCount106, gfloor106, gslots106, flayout106, fnewest106, va106, vt106, vm106⟩, st106⟩ := own_callV X0 hx hZ hown (ww hw 56 rfl) (ww hw 57 rfl) (notFace_of_selects (args := #[]) (mvT hZ (ww hw 59 rfl))) (ww hw 59 rfl) (ww hw 58 rfl) (ww hw 4 rfl) (ww hw 60 rfl) (by decide) e0 EA (rmAddA l Z a0 hw [] w_NONE k_NONE hS a1 q2 tm nw fl ly oc ol cn sz nl sa ta ma hcn hc1 hc3 hsz ho0 hoc hol hgr hnl h0 O0 hts ga EA EL n1 F_layout F_newest L_olderTimestamps L_olderTimes L_olderCount L_floor L_slots A_ta A_ma A_sa) 0 (by decide) (by decide) (by decide) (by decide) (g := (mkF m 8 #[sR a1, sJ q2, sS, sI 1, sJ tm, sS] [(.long tm), (.long q2), (.ref a1)])) rfl (by rw [hml]; rfl) [(.long q2), (.long tm)] [] rfl (lenOf pd_212493 rfl) rfl (by show 2 * 0 + _ ≤ _; exact Nat.le_of_eq rfl) (hb hby d5_8)
  have N106 := Fr.app N0 Nq106
  have ne_a1_ly106 : a1 ≠ ly106 := own_lt_ne' F_layout.lt sl106
  have ne_ly_ly106 : ly ≠ ly106 := own_lt_ne' L_olderTimestamps.lt sl106
  have ne_ta_ly106 : ta ≠ ly106 := own_lt_ne' A_ta.lt sl106
  have ne_ma_ly106 : ma ≠ ly106 := own_lt_ne' A_ma.lt sl106
  have ne_sa_ly106 : sa ≠ ly106 := own_lt_ne' A_sa.lt sl106
  have ne_a1_ar106 : a1 ≠ ar106 := own_lt_ne' F_layout.lt sa106
  have ne_ly_ar106 : ly ≠ ar106 := own_lt_ne' L_olderTimestamps.lt sa106
  have ne_ta_ar106 : ta ≠ ar106 := own_lt_ne' A_ta.lt sa106
  have ne_ma_ar106 : ma ≠ ar106 := own_lt_ne' A_ma.lt sa106
  have ne_sa_ar106 : sa ≠ ar106 := own_lt_ne' A_sa.lt sa106
  have ne_a1_ta106 : a1 ≠ ta106 := own_lt_ne' F_layout.lt st_106
  have ne_ly_ta106 : ly ≠ ta106 := own_lt_ne' L_olderTimestamps.lt st_106
  have ne_ta_ta106 : ta ≠ ta106 := own_lt_ne' A_ta.lt st_106
  have ne_ma_ta106 : ma ≠ ta106 := own_lt_ne' A_ma.lt st_106
  have ne_sa_ta106 : sa ≠ ta106 := own_lt_ne' A_sa.lt st_106
  have ne_a1_ma106 : a1 ≠ ma106 := own_lt_ne' F_layout.lt sm106
  have ne_ly_ma106 : ly ≠ ma106 := own_lt_ne' L_olderTimestamps.lt sm106
  have ne_ta_ma106 : ta ≠ ma106 := own_lt_ne' A_ta.lt sm106
  have ne_ma_ma106 : ma ≠ ma106 := own_lt_ne' A_ma.lt sm106
  have ne_sa_ma106 : sa ≠ ma106 := own_lt_ne' A_sa.lt sm106
  have O106 : Ext Z.heap T106.heap := own_Ext.keep O0 kp106 (allS ga all0)
  have KP106 : Keep h0 T106.heap [a1] := KP0.trans kp106 (allS (Or.inl (List.mem_of_getElem? (i := 0) rfl)) all0)
  refine Go.st (S' := T106.setTop (mkF m 11 #[sR a1, sJ q2, sS, sI 1, sJ tm, sS] [])) st106 ?_
  refine Go.st (S' := T106.setTop (mkF m 12 #[sR a1, sJ q2, sS, sI 1, sJ tm, sS] [(.int (1 : Int32))])) (fun _ k => XS.iloadN X106.here hx rfl (hb hby d5_11) rfl k) ?_
  refine Go.st (S' := T106.setTop (mkF m 13 #[sR a1, sJ q2, sS, sI 1, sJ tm, sS] [(.int (1 : Int32)), (.int (1 : Int32))])) (fun _ k => XS.iconst X106.here hx rfl (hb hby d5_12) k) ?_
  refine Go.st (S' := T106.setTop (mkF m 27 #[sR a1, sJ q2, sS, sI 1, sJ tm, sS] [])) (fun _ k => XS.icmpYes X106.here hx rfl (pc0 := 13) (pc' := 27) rfl (hb hby d5_13) rfl (flt (by decide)).2.2.2 (by decide) (by decide) k) ?_
  refine Go.st (S' := T106.setTop (mkF m 28 #[sR a1, sJ q2, sS, sI 1, sJ tm, sS] [(.int (1 : Int32))])) (fun _ k => XS.iloadN X106.here hx rfl (hb hby d5_27) rfl k) ?_
  refine Go.st (S' := T106.setTop (mkF m 29 #[sR a1, sJ q2, sS, sI 1, sJ tm, sS] [(.int (2 : Int32)), (.int (1 : Int32))])) (fun _ k => XS.iconst X106.here hx rfl (hb hby d5_28) k) ?_
  refine Go.st (S' := T106.setTop (mkF m 47 #[sR a1, sJ q2, sS, sI 1, sJ tm, sS] [])) (fun _ k => XS.icmpYes X106.here hx rfl (pc0 := 29) (pc' := 47) rfl (hb hby d5_29) rfl (flt (by decide)).2.2.2 (by decide) (by decide) k) ?_
  exact own_retV X106 hx hlk hret (hb hby d5_47) rfl ⟨rfl, N106, KP106, _, _, _, _, (Nat.le_trans KP0.1 sl106), (Nat.le_trans KP0.1 sa106), (Nat.le_trans KP0.1 st_106), (Nat.le_trans KP0.1 sm106), nla106, nta106, nma106, el106, golderTimestamps106, golderTimes106, golderCount106, gfloor106, gslots106, flayout106, fnewest106, va106, vt106, vm106⟩ (by decide) (by decide)
theorem d5_16 : decode method_2_code 16 = .ok (.aload_n 0, 1) := by decide +kernel
theorem d5_17 : decode method_2_code 17 = .ok (.lload_n 1, 1) := by decide +kernel
theorem d5_18 : decode method_2_code 18 = .ok (.lconst 1, 1) := by decide +kernel
theorem d5_19 : decode method_2_code 19 = .ok (.ladd, 1) := by decide +kernel
theorem d5_20 : decode method_2_code 20 = .ok (.lload 4, 2) := by decide +kernel
theorem d5_22 : decode method_2_code 22 = .ok (.lconst 1, 1) := by decide +kernel
theorem d5_23 : decode method_2_code 23 = .ok (.ladd, 1) := by decide +kernel
theorem d5_24 : decode method_2_code 24 = .ok (.invokevirtual 7, 3) := by decide +kernel
theorem ef_rmRI2 (m : MethodId) (x0 : Addr) (x1 : Int64) (x2 : Int32) (x3 : Int64) : entryFrame m #[(.ref x0), (.long x1), (.int x2), (.long x3)] 6 = mkF m 0 #[sR x0, sJ x1, sS, sI x2, sJ x3, sS] [] := by first | (simp [entryFrame, mkF, argsToLocals, Value.category]; done) | rfl
set_option maxRecDepth 65536 in
set_option maxHeartbeats 400000000 in
theorem rmRI2 (l : Launch) (Z : State) (a0 : Array Value) (hw : ∀ d ∈ tables_1, d.before a0 Z = true) (ws : List Jvm.Cond) (w_NONE : Addr) (k_NONE : ClassId) (hS : SF Z w_NONE k_NONE) (a1 : Addr) (q2 tm : Int64) (ly : Addr) (h0 : Heap) (O0 : Ext Z.heap h0) (ga : Z.heap.size ≤ a1) (EA : Exa Z h0 a1 "com/example/palimpsest/palimpsest/CommitTimes") (EL : Exa Z h0 ly "com/example/palimpsest/palimpsest/CommitTimes$Layout") (n1 : a1 ≠ ly) (F_layout : Fld Z h0 a1 "com/example/palimpsest/palimpsest/CommitTimes" "layout" "Lcom/example/palimpsest/palimpsest/CommitTimes$Layout;" (.ref ly)) (F_newest : Fld Z h0 a1 "com/example/palimpsest/palimpsest/CommitTimes" "newest" "J" (.long (0 : Int64))) (L_olderTimestamps : Fld Z h0 ly "com/example/palimpsest/palimpsest/CommitTimes$Layout" "olderTimestamps" "[J" (.ref w_NONE)) (L_olderTimes : Fld Z h0 ly "com/example/palimpsest/palimpsest/CommitTimes$Layout" "olderTimes" "[J" (.ref w_NONE)) (L_olderCount : Fld Z h0 ly "com/example/palimpsest/palimpsest/CommitTimes$Layout" "olderCount" "I" (.int (0 : Int32))) (L_floor : Fld Z h0 ly "com/example/palimpsest/palimpsest/CommitTimes$Layout" "floor" "J" (.long (1 : Int64))) (L_slots : Fld Z h0 ly "com/example/palimpsest/palimpsest/CommitTimes$Layout" "slots" "[J" (.ref w_NONE)) :
    Con l Z h0 (⟨"com/example/palimpsest/palimpsest/CommitTimesHeapBytesPinLaw", "run", "(Lcom/example/palimpsest/palimpsest/CommitTimes;JIJ)V"⟩ : MethodName) method_2_code 6 none ws ({ frames := 5, cells := 6, slots := 27, locals := 120 } : Room) #[(.ref a1), (.long q2), (.int (2 : Int32)), (.long tm)] (fun v h L => v = none ∧ Fr Z.heap.size L ∧ Keep h0 h [a1] ∧ ∃ ly ar, h0.size ≤ ly ∧ h0.size ≤ ar ∧ ly ≠ ar ∧ Exa Z h ly "com/example/palimpsest/palimpsest/CommitTimes$Layout" ∧ Fld Z h ly "com/example/palimpsest/palimpsest/CommitTimes$Layout" "olderTimestamps" "[J" (.ref w_NONE) ∧ Fld Z h ly "com/example/palimpsest/palimpsest/CommitTimes$Layout" "olderTimes" "[J" (.ref w_NONE) ∧ Fld Z h ly "com/example/palimpsest/palimpsest/CommitTimes$Layout" "olderCount" "I" (.int (0 : Int32)) ∧ Fld Z h ly "com/example/palimpsest/palimpsest/CommitTimes$Layout" "floor" "J" (.long q2) ∧ Fld Z h ly "com/example/palimpsest/palimpsest/CommitTimes$Layout" "slots" "[J" (.ref ar) ∧ Fld Z h a1 "com/example/palimpsest/palimpsest/CommitTimes" "layout" "Lcom/example/palimpsest/palimpsest/CommitTimes$Layout;" (.ref ly) ∧ Fld Z h a1 "com/example/palimpsest/palimpsest/CommitTimes" "newest" "J" (.long (q2 + (1 : Int64))) ∧ AL Z h ar (2 : Int32)) := by
  obtain ⟨S_NONE, E_NONE, V_NONE⟩ := id hS
  refine own_con (plainFor_of_name pn_531690) ?_
  intro p e s m below meth c T0 X0 hx hby hml hown hnm hret hlk hZ e0
  have hown : s.vm.findClass "com/example/palimpsest/palimpsest/CommitTimesHeapBytesPinLaw" = some m.cls := hown
  have N0 := Fr.nil Z.heap.size
  have KP0 : Keep h0 h0 [a1] := Keep.refl h0 _
  refine Go.st (S' := T0.setTop (mkF m 0 #[sR a1, sJ q2, sS, sI 2, sJ tm, sS] [])) (fun _ k => castTop (ef_rmRI2 m a1 q2 (2 : Int32) tm) k) ?_
  refine Go.st (S' := T0.setTop (mkF m 1 #[sR a1, sJ q2, sS, sI 2, sJ tm, sS] [(.int (2 : Int32))])) (fun _ k => XS.iloadN X0.here hx rfl (hb hby d5_0) rfl k) ?_
  refine Go.st (S' := T0.setTop (mkF m 4 #[sR a1, sJ q2, sS, sI 2, sJ tm, sS] [])) (fun _ k => XS.ifNo X0.here hx rfl (hb hby d5_1) rfl ((if0 _ _).trans (tlt (by decide)).2.2.2) k) ?_
  refine Go.st (S' := T0.setTop (mkF m 5 #[sR a1, sJ q2, sS, sI 2, sJ tm, sS] [(.ref a1)])) (fun _ k => XS.aloadN X0.here hx rfl (hb hby d5_4) rfl rfl k) ?_
  refine Go.st (S' := T0.setTop (mkF m 6 #[sR a1, sJ q2, sS, sI 2, sJ tm, sS] [(.long q2), (.ref a1)])) (fun _ k => XS.lloadN X0.here hx rfl (hb hby d5_5) rfl k) ?_
  refine Go.st (S' := T0.setTop (mkF m 8 #[sR a1, sJ q2, sS, sI 2, sJ tm, sS] [(.long tm), (.long q2), (.ref a1)])) (fun _ k => XS.lload X0.here hx rfl (hb hby d5_6) rfl k) ?_
  obtain ⟨_, T107, L107, X107, ⟨rfl, Nq107, kp107, ly107, ar107, sl107, sa107, nla107, el107, golderTimestamps107, golderTimes107, golderCount107, gfloor107, gslots107, flayout107, fnewest107, va107⟩, st107⟩ := own_callV X0 hx hZ hown (ww hw 56 rfl) (ww hw 57 rfl) (notFace_of_selects (args := #[]) (mvT hZ (ww hw 59 rfl))) (ww hw 59 rfl) (ww hw 58 rfl) (ww hw 4 rfl) (ww hw 60 rfl) (by decide) e0 EA (rmAddI l Z a0 hw [] w_NONE k_NONE hS a1 q2 tm ly h0 O0 ga EA EL n1 F_layout F_newest L_olderTimestamps L_olderTimes L_olderCount L_floor L_slots) 0 (by decide) (by decide) (by decide) (by decide) (g := (mkF m 8 #[sR a1, sJ q2, sS, sI 2, sJ tm, sS] [(.long tm), (.long q2), (.ref a1)])) rfl (by rw [hml]; rfl) [(.long q2), (.long tm)] [] rfl (lenOf pd_212493 rfl) rfl (by show 2 * 0 + _ ≤ _; exact Nat.le_of_eq rfl) (hb hby d5_8)
  have N107 := Fr.app N0 Nq107
  have ne_a1_ly107 : a1 ≠ ly107 := own_lt_ne' F_layout.lt sl107
  have ne_ly_ly107 : ly ≠ ly107 := own_lt_ne' L_olderTimestamps.lt sl107
  have ne_a1_ar107 : a1 ≠ ar107 := own_lt_ne' F_layout.lt sa107
  have ne_ly_ar107 : ly ≠ ar107 := own_lt_ne' L_olderTimestamps.lt sa107
  have O107 : Ext Z.heap T107.heap := own_Ext.keep O0 kp107 (allS ga all0)
  have KP107 : Keep h0 T107.heap [a1] := KP0.trans kp107 (allS (Or.inl (List.mem_of_getElem? (i := 0) rfl)) all0)
  refine Go.st (S' := T107.setTop (mkF m 11 #[sR a1, sJ q2, sS, sI 2, sJ tm, sS] [])) st107 ?_
  refine Go.st (S' := T107.setTop (mkF m 12 #[sR a1, sJ q2, sS, sI 2, sJ tm, sS] [(.int (2 : Int32))])) (fun _ k => XS.iloadN X107.here hx rfl (hb hby d5_11) rfl k) ?_
  refine Go.st (S' := T107.setTop (mkF m 13 #[sR a1, sJ q2, sS, sI 2, sJ tm, sS] [(.int (1 : Int32)), (.int (2 : Int32))])) (fun _ k => XS.iconst X107.here hx rfl (hb hby d5_12) k) ?_
  refine Go.st (S' := T107.setTop (mkF m 16 #[sR a1, sJ q2, sS, sI 2, sJ tm, sS] [])) (fun _ k => XS.icmpNo X107.here hx rfl (hb hby d5_13) rfl (tlt (by decide)).2.2.2 k) ?_
  refine Go.st (S' := T107.setTop (mkF m 17 #[sR a1, sJ q2, sS, sI 2, sJ tm, sS] [(.ref a1)])) (fun _ k => XS.aloadN X107.here hx rfl (hb hby d5_16) rfl rfl k) ?_
  refine Go.st (S' := T107.setTop (mkF m 18 #[sR a1, sJ q2, sS, sI 2, sJ tm, sS] [(.long q2), (.ref a1)])) (fun _ k => XS.lloadN X107.here hx rfl (hb hby d5_17) rfl k) ?_
  refine Go.st (S' := T107.setTop (mkF m 19 #[sR a1, sJ q2, sS, sI 2, sJ tm, sS] [(.long (1 : Int64)), (.long q2), (.ref a1)])) (fun _ k => XS.lconst X107.here hx rfl (hb hby d5_18) k) ?_
  refine Go.st (S' := T107.setTop (mkF m 20 #[sR a1, sJ q2, sS, sI 2, sJ tm, sS] [(.long (q2 + (1 : Int64))), (.ref a1)])) (fun _ k => XS.ladd X107.here hx rfl (hb hby d5_19) rfl k) ?_
  refine Go.st (S' := T107.setTop (mkF m 22 #[sR a1, sJ q2, sS, sI 2, sJ tm, sS] [(.long tm), (.long (q2 + (1 : Int64))), (.ref a1)])) (fun _ k => XS.lload X107.here hx rfl (hb hby d5_20) rfl k) ?_
  refine Go.st (S' := T107.setTop (mkF m 23 #[sR a1, sJ q2, sS, sI 2, sJ tm, sS] [(.long (1 : Int64)), (.long tm), (.long (q2 + (1 : Int64))), (.ref a1)])) (fun _ k => XS.lconst X107.here hx rfl (hb hby d5_22) k) ?_
  refine Go.st (S' := T107.setTop (mkF m 24 #[sR a1, sJ q2, sS, sI 2, sJ tm, sS] [(.long (tm + (1 : Int64))), (.long (q2 + (1 : Int64))), (.ref a1)])) (fun _ k => XS.ladd X107.here hx rfl (hb hby d5_23) rfl k) ?_
  obtain ⟨_, T108, L108, X108, ⟨rfl, Nq108, kp108, ly108, ar108, sl108, sa108, nla108, el108, golderTimestamps108, golderTimes108, golderCount108, gfloor108, gslots108, flayout108, fnewest108, va108⟩, st108⟩ := own_callV X107 hx hZ hown (ww hw 56 rfl) (ww hw 57 rfl) (notFace_of_selects (args := #[]) (mvT hZ (ww hw 59 rfl))) (ww hw 59 rfl) (ww hw 58 rfl) (ww hw 4 rfl) (ww hw 60 rfl) (by decide) rfl (EA.keep kp107) (rmAddB l Z a0 hw [] w_NONE k_NONE hS a1 (q2 + (1 : Int64)) (tm + (1 : Int64)) q2 q2 ly107 (0 : Int32) (1 : Int32) (2 : Int32) ar107 w_NONE w_NONE (by rw [own_o0]; decide) (by decide) (by decide) (by decide) rfl (by rw [own_o1]; decide) T107.heap O107 ga (EA.keep kp107) el107 ne_a1_ly107 flayout107 fnewest107 golderTimestamps107 golderTimes107 golderCount107 gfloor107 gslots107 va107 ) 0 (by decide) (by decide) (by decide) (by decide) (g := (mkF m 24 #[sR a1, sJ q2, sS, sI 2, sJ tm, sS] [(.long (tm + (1 : Int64))), (.long (q2 + (1 : Int64))), (.ref a1)])) rfl (by rw [hml]; rfl) [(.long (q2 + (1 : Int64))), (.long (tm + (1 : Int64)))] [] rfl (lenOf pd_212493 rfl) rfl (by show 2 * 0 + _ ≤ _; exact Nat.le_of_eq rfl) (hb hby d5_24)
  have N108 := Fr.app N107 Nq108
  have ne_a1_ly108 : a1 ≠ ly108 := own_lt_ne' (EA.keep kp107).lt sl108
  have ne_ly107_ly108 : ly107 ≠ ly108 := own_lt_ne' el107.lt sl108
  have ne_ar107_ly108 : ar107 ≠ ly108 := own_lt_ne' va107.lt sl108
  have ne_a1_ar108 : a1 ≠ ar108 := own_lt_ne' (EA.keep kp107).lt sa108
  have ne_ly107_ar108 : ly107 ≠ ar108 := own_lt_ne' el107.lt sa108
  have ne_ar107_ar108 : ar107 ≠ ar108 := own_lt_ne' va107.lt sa108
  have O108 : Ext Z.heap T108.heap := own_Ext.keep O107 kp108 (allS ga all0)
  have KP108 : Keep h0 T108.heap [a1] := KP107.trans kp108 (allS (Or.inl (List.mem_of_getElem? (i := 0) rfl)) all0)
  refine Go.st (S' := T108.setTop (mkF m 27 #[sR a1, sJ q2, sS, sI 2, sJ tm, sS] [])) st108 ?_
  refine Go.st (S' := T108.setTop (mkF m 28 #[sR a1, sJ q2, sS, sI 2, sJ tm, sS] [(.int (2 : Int32))])) (fun _ k => XS.iloadN X108.here hx rfl (hb hby d5_27) rfl k) ?_
  refine Go.st (S' := T108.setTop (mkF m 29 #[sR a1, sJ q2, sS, sI 2, sJ tm, sS] [(.int (2 : Int32)), (.int (2 : Int32))])) (fun _ k => XS.iconst X108.here hx rfl (hb hby d5_28) k) ?_
  refine Go.st (S' := T108.setTop (mkF m 47 #[sR a1, sJ q2, sS, sI 2, sJ tm, sS] [])) (fun _ k => XS.icmpYes X108.here hx rfl (pc0 := 29) (pc' := 47) rfl (hb hby d5_29) rfl (flt (by decide)).2.2.2 (by decide) (by decide) k) ?_
  exact own_retV X108 hx hlk hret (hb hby d5_47) rfl ⟨rfl, N108, KP108, _, _, (Nat.le_trans KP107.1 sl108), (Nat.le_trans KP107.1 sa108), nla108, el108, golderTimestamps108, golderTimes108, golderCount108, gfloor108, gslots108, flayout108, fnewest108, va108⟩ (by decide) (by decide)
theorem ef_rmRA2 (m : MethodId) (x0 : Addr) (x1 : Int64) (x2 : Int32) (x3 : Int64) : entryFrame m #[(.ref x0), (.long x1), (.int x2), (.long x3)] 6 = mkF m 0 #[sR x0, sJ x1, sS, sI x2, sJ x3, sS] [] := by first | (simp [entryFrame, mkF, argsToLocals, Value.category]; done) | rfl
set_option maxRecDepth 65536 in
set_option maxHeartbeats 400000000 in
theorem rmRA2 (l : Launch) (Z : State) (a0 : Array Value) (hw : ∀ d ∈ tables_1, d.before a0 Z = true) (ws : List Jvm.Cond) (w_NONE : Addr) (k_NONE : ClassId) (hS : SF Z w_NONE k_NONE) (a1 : Addr) (q2 tm nw fl : Int64) (ly : Addr) (oc ol cn sz nl : Int32) (sa ta ma : Addr) (hcn : (nw - fl) + (1 : Int64) = cn.toInt64) (hc1 : 1 ≤ cn.toInt) (hc3 : cn.toInt ≤ 3) (hsz : cn.toInt ≤ sz.toInt) (ho0 : 0 ≤ oc.toInt) (hoc : oc.toInt ≤ ol.toInt) (hol : ol.toInt ≤ 3) (hgr : ol.toInt < oc.toInt + cn.toInt) (hnl : nl = maxF (oc + cn) ((2 : Int32) * ol)) (h0 : Heap) (O0 : Ext Z.heap h0) (hts : ¬ q2 = (nw + (1 : Int64))) (ga : Z.heap.size ≤ a1) (EA : Exa Z h0 a1 "com/example/palimpsest/palimpsest/CommitTimes") (EL : Exa Z h0 ly "com/example/palimpsest/palimpsest/CommitTimes$Layout") (n1 : a1 ≠ ly) (F_layout : Fld Z h0 a1 "com/example/palimpsest/palimpsest/CommitTimes" "layout" "Lcom/example/palimpsest/palimpsest/CommitTimes$Layout;" (.ref ly)) (F_newest : Fld Z h0 a1 "com/example/palimpsest/palimpsest/CommitTimes" "newest" "J" (.long nw)) (L_olderTimestamps : Fld Z h0 ly "com/example/palimpsest/palimpsest/CommitTimes$Layout" "olderTimestamps" "[J" (.ref ta)) (L_olderTimes : Fld Z h0 ly "com/example/palimpsest/palimpsest/CommitTimes$Layout" "olderTimes" "[J" (.ref ma)) (L_olderCount : Fld Z h0 ly "com/example/palimpsest/palimpsest/CommitTimes$Layout" "olderCount" "I" (.int oc)) (L_floor : Fld Z h0 ly "com/example/palimpsest/palimpsest/CommitTimes$Layout" "floor" "J" (.long fl)) (L_slots : Fld Z h0 ly "com/example/palimpsest/palimpsest/CommitTimes$Layout" "slots" "[J" (.ref sa)) (A_ta : AL Z h0 ta ol) (A_ma : AL Z h0 ma ol) (A_sa : AL Z h0 sa sz) :
    Con l Z h0 (⟨"com/example/palimpsest/palimpsest/CommitTimesHeapBytesPinLaw", "run", "(Lcom/example/palimpsest/palimpsest/CommitTimes;JIJ)V"⟩ : MethodName) method_2_code 6 none ws ({ frames := 5, cells := 6, slots := 27, locals := 120 } : Room) #[(.ref a1), (.long q2), (.int (2 : Int32)), (.long tm)] (fun v h L => v = none ∧ Fr Z.heap.size L ∧ Keep h0 h [a1] ∧ ∃ ly sa ta ma, h0.size ≤ ly ∧ h0.size ≤ sa ∧ h0.size ≤ ta ∧ h0.size ≤ ma ∧ ly ≠ sa ∧ ta ≠ sa ∧ ma ≠ sa ∧ Exa Z h ly "com/example/palimpsest/palimpsest/CommitTimes$Layout" ∧ Fld Z h ly "com/example/palimpsest/palimpsest/CommitTimes$Layout" "olderTimestamps" "[J" (.ref ta) ∧ Fld Z h ly "com/example/palimpsest/palimpsest/CommitTimes$Layout" "olderTimes" "[J" (.ref ma) ∧ Fld Z h ly "com/example/palimpsest/palimpsest/CommitTimes$Layout" "olderCount" "I" (.int (oc + cn)) ∧ Fld Z h ly "com/example/palimpsest/palimpsest/CommitTimes$Layout" "floor" "J" (.long q2) ∧ Fld Z h ly "com/example/palimpsest/palimpsest/CommitTimes$Layout" "slots" "[J" (.ref sa) ∧ Fld Z h a1 "com/example/palimpsest/palimpsest/CommitTimes" "layout" "Lcom/example/palimpsest/palimpsest/CommitTimes$Layout;" (.ref ly) ∧ Fld Z h a1 "com/example/palimpsest/palimpsest/CommitTimes" "newest" "J" (.long (q2 + (1 : Int64))) ∧ AL Z h sa (2 : Int32) ∧ AL Z h ta nl ∧ AL Z h ma nl) := by
  obtain ⟨S_NONE, E_NONE, V_NONE⟩ := id hS
  refine own_con (plainFor_of_name pn_531690) ?_
  intro p e s m below meth c T0 X0 hx hby hml hown hnm hret hlk hZ e0
  have hown : s.vm.findClass "com/example/palimpsest/palimpsest/CommitTimesHeapBytesPinLaw" = some m.cls := hown
  have N0 := Fr.nil Z.heap.size
  have KP0 : Keep h0 h0 [a1] := Keep.refl h0 _
  refine Go.st (S' := T0.setTop (mkF m 0 #[sR a1, sJ q2, sS, sI 2, sJ tm, sS] [])) (fun _ k => castTop (ef_rmRA2 m a1 q2 (2 : Int32) tm) k) ?_
  refine Go.st (S' := T0.setTop (mkF m 1 #[sR a1, sJ q2, sS, sI 2, sJ tm, sS] [(.int (2 : Int32))])) (fun _ k => XS.iloadN X0.here hx rfl (hb hby d5_0) rfl k) ?_
  refine Go.st (S' := T0.setTop (mkF m 4 #[sR a1, sJ q2, sS, sI 2, sJ tm, sS] [])) (fun _ k => XS.ifNo X0.here hx rfl (hb hby d5_1) rfl ((if0 _ _).trans (tlt (by decide)).2.2.2) k) ?_
  refine Go.st (S' := T0.setTop (mkF m 5 #[sR a1, sJ q2, sS, sI 2, sJ tm, sS] [(.ref a1)])) (fun _ k => XS.aloadN X0.here hx rfl (hb hby d5_4) rfl rfl k) ?_
  refine Go.st (S' := T0.setTop (mkF m 6 #[sR a1, sJ q2, sS, sI 2, sJ tm, sS] [(.long q2), (.ref a1)])) (fun _ k => XS.lloadN X0.here hx rfl (hb hby d5_5) rfl k) ?_
  refine Go.st (S' := T0.setTop (mkF m 8 #[sR a1, sJ q2, sS, sI 2, sJ tm, sS] [(.long tm), (.long q2), (.ref a1)])) (fun _ k => XS.lload X0.here hx rfl (hb hby d5_6) rfl k) ?_
  obtain ⟨_, T109, L109, X109, ⟨rfl, Nq109, kp109, ly109, ar109, ta109, ma109, sl109, sa109, st_109, sm109, nla109, nta109, nma109, el109, golderTimestamps109, golderTimes109, golderCount109, gfloor109, gslots109, flayout109, fnewest109, va109, vt109, vm109⟩, st109⟩ := own_callV X0 hx hZ hown (ww hw 56 rfl) (ww hw 57 rfl) (notFace_of_selects (args := #[]) (mvT hZ (ww hw 59 rfl))) (ww hw 59 rfl) (ww hw 58 rfl) (ww hw 4 rfl) (ww hw 60 rfl) (by decide) e0 EA (rmAddA l Z a0 hw [] w_NONE k_NONE hS a1 q2 tm nw fl ly oc ol cn sz nl sa ta ma hcn hc1 hc3 hsz ho0 hoc hol hgr hnl h0 O0 hts ga EA EL n1 F_layout F_newest L_olderTimestamps L_olderTimes L_olderCount L_floor L_slots A_ta A_ma A_sa) 0 (by decide) (by decide) (by decide) (by decide) (g := (mkF m 8 #[sR a1, sJ q2, sS, sI 2, sJ tm, sS] [(.long tm), (.long q2), (.ref a1)])) rfl (by rw [hml]; rfl) [(.long q2), (.long tm)] [] rfl (lenOf pd_212493 rfl) rfl (by show 2 * 0 + _ ≤ _; exact Nat.le_of_eq rfl) (hb hby d5_8)
  have N109 := Fr.app N0 Nq109
  have ne_a1_ly109 : a1 ≠ ly109 := own_lt_ne' F_layout.lt sl109
  have ne_ly_ly109 : ly ≠ ly109 := own_lt_ne' L_olderTimestamps.lt sl109
  have ne_ta_ly109 : ta ≠ ly109 := own_lt_ne' A_ta.lt sl109
  have ne_ma_ly109 : ma ≠ ly109 := own_lt_ne' A_ma.lt sl109
  have ne_sa_ly109 : sa ≠ ly109 := own_lt_ne' A_sa.lt sl109
  have ne_a1_ar109 : a1 ≠ ar109 := own_lt_ne' F_layout.lt sa109
  have ne_ly_ar109 : ly ≠ ar109 := own_lt_ne' L_olderTimestamps.lt sa109
  have ne_ta_ar109 : ta ≠ ar109 := own_lt_ne' A_ta.lt sa109
  have ne_ma_ar109 : ma ≠ ar109 := own_lt_ne' A_ma.lt sa109
  have ne_sa_ar109 : sa ≠ ar109 := own_lt_ne' A_sa.lt sa109
  have ne_a1_ta109 : a1 ≠ ta109 := own_lt_ne' F_layout.lt st_109
  have ne_ly_ta109 : ly ≠ ta109 := own_lt_ne' L_olderTimestamps.lt st_109
  have ne_ta_ta109 : ta ≠ ta109 := own_lt_ne' A_ta.lt st_109
  have ne_ma_ta109 : ma ≠ ta109 := own_lt_ne' A_ma.lt st_109
  have ne_sa_ta109 : sa ≠ ta109 := own_lt_ne' A_sa.lt st_109
  have ne_a1_ma109 : a1 ≠ ma109 := own_lt_ne' F_layout.lt sm109
  have ne_ly_ma109 : ly ≠ ma109 := own_lt_ne' L_olderTimestamps.lt sm109
  have ne_ta_ma109 : ta ≠ ma109 := own_lt_ne' A_ta.lt sm109
  have ne_ma_ma109 : ma ≠ ma109 := own_lt_ne' A_ma.lt sm109
  have ne_sa_ma109 : sa ≠ ma109 := own_lt_ne' A_sa.lt sm109
  have O109 : Ext Z.heap T109.heap := own_Ext.keep O0 kp109 (allS ga all0)
  have KP109 : Keep h0 T109.heap [a1] := KP0.trans kp109 (allS (Or.inl (List.mem_of_getElem? (i := 0) rfl)) all0)
  refine Go.st (S' := T109.setTop (mkF m 11 #[sR a1, sJ q2, sS, sI 2, sJ tm, sS] [])) st109 ?_
  refine Go.st (S' := T109.setTop (mkF m 12 #[sR a1, sJ q2, sS, sI 2, sJ tm, sS] [(.int (2 : Int32))])) (fun _ k => XS.iloadN X109.here hx rfl (hb hby d5_11) rfl k) ?_
  refine Go.st (S' := T109.setTop (mkF m 13 #[sR a1, sJ q2, sS, sI 2, sJ tm, sS] [(.int (1 : Int32)), (.int (2 : Int32))])) (fun _ k => XS.iconst X109.here hx rfl (hb hby d5_12) k) ?_
  refine Go.st (S' := T109.setTop (mkF m 16 #[sR a1, sJ q2, sS, sI 2, sJ tm, sS] [])) (fun _ k => XS.icmpNo X109.here hx rfl (hb hby d5_13) rfl (tlt (by decide)).2.2.2 k) ?_
  refine Go.st (S' := T109.setTop (mkF m 17 #[sR a1, sJ q2, sS, sI 2, sJ tm, sS] [(.ref a1)])) (fun _ k => XS.aloadN X109.here hx rfl (hb hby d5_16) rfl rfl k) ?_
  refine Go.st (S' := T109.setTop (mkF m 18 #[sR a1, sJ q2, sS, sI 2, sJ tm, sS] [(.long q2), (.ref a1)])) (fun _ k => XS.lloadN X109.here hx rfl (hb hby d5_17) rfl k) ?_
  refine Go.st (S' := T109.setTop (mkF m 19 #[sR a1, sJ q2, sS, sI 2, sJ tm, sS] [(.long (1 : Int64)), (.long q2), (.ref a1)])) (fun _ k => XS.lconst X109.here hx rfl (hb hby d5_18) k) ?_
  refine Go.st (S' := T109.setTop (mkF m 20 #[sR a1, sJ q2, sS, sI 2, sJ tm, sS] [(.long (q2 + (1 : Int64))), (.ref a1)])) (fun _ k => XS.ladd X109.here hx rfl (hb hby d5_19) rfl k) ?_
  refine Go.st (S' := T109.setTop (mkF m 22 #[sR a1, sJ q2, sS, sI 2, sJ tm, sS] [(.long tm), (.long (q2 + (1 : Int64))), (.ref a1)])) (fun _ k => XS.lload X109.here hx rfl (hb hby d5_20) rfl k) ?_
  refine Go.st (S' := T109.setTop (mkF m 23 #[sR a1, sJ q2, sS, sI 2, sJ tm, sS] [(.long (1 : Int64)), (.long tm), (.long (q2 + (1 : Int64))), (.ref a1)])) (fun _ k => XS.lconst X109.here hx rfl (hb hby d5_22) k) ?_
  refine Go.st (S' := T109.setTop (mkF m 24 #[sR a1, sJ q2, sS, sI 2, sJ tm, sS] [(.long (tm + (1 : Int64))), (.long (q2 + (1 : Int64))), (.ref a1)])) (fun _ k => XS.ladd X109.here hx rfl (hb hby d5_23) rfl k) ?_
  obtain ⟨_, T110, L110, X110, ⟨rfl, Nq110, kp110, ly110, ar110, sl110, sa110, nla110, el110, golderTimestamps110, golderTimes110, golderCount110, gfloor110, gslots110, flayout110, fnewest110, va110⟩, st110⟩ := own_callV X109 hx hZ hown (ww hw 56 rfl) (ww hw 57 rfl) (notFace_of_selects (args := #[]) (mvT hZ (ww hw 59 rfl))) (ww hw 59 rfl) (ww hw 58 rfl) (ww hw 4 rfl) (ww hw 60 rfl) (by decide) rfl (EA.keep kp109) (rmAddB l Z a0 hw [] w_NONE k_NONE hS a1 (q2 + (1 : Int64)) (tm + (1 : Int64)) q2 q2 ly109 (oc + cn) (1 : Int32) (2 : Int32) ar109 ta109 ma109 (by rw [own_o0]; decide) (by decide) (by decide) (by decide) rfl (by rw [own_o1]; decide) T109.heap O109 ga (EA.keep kp109) el109 ne_a1_ly109 flayout109 fnewest109 golderTimestamps109 golderTimes109 golderCount109 gfloor109 gslots109 va109 ) 0 (by decide) (by decide) (by decide) (by decide) (g := (mkF m 24 #[sR a1, sJ q2, sS, sI 2, sJ tm, sS] [(.long (tm + (1 : Int64))), (.long (q2 + (1 : Int64))), (.ref a1)])) rfl (by rw [hml]; rfl) [(.long (q2 + (1 : Int64))), (.long (tm + (1 : Int64)))] [] rfl (lenOf pd_212493 rfl) rfl (by show 2 * 0 + _ ≤ _; exact Nat.le_of_eq rfl) (hb hby d5_24)
  have N110 := Fr.app N109 Nq110
  have ne_a1_ly110 : a1 ≠ ly110 := own_lt_ne' (EA.keep kp109).lt sl110
  have ne_ly109_ly110 : ly109 ≠ ly110 := own_lt_ne' el109.lt sl110
  have ne_ar109_ly110 : ar109 ≠ ly110 := own_lt_ne' va109.lt sl110
  have ne_ta109_ly110 : ta109 ≠ ly110 := own_lt_ne' vt109.lt sl110
  have ne_ma109_ly110 : ma109 ≠ ly110 := own_lt_ne' vm109.lt sl110
  have ne_a1_ar110 : a1 ≠ ar110 := own_lt_ne' (EA.keep kp109).lt sa110
  have ne_ly109_ar110 : ly109 ≠ ar110 := own_lt_ne' el109.lt sa110
  have ne_ar109_ar110 : ar109 ≠ ar110 := own_lt_ne' va109.lt sa110
  have ne_ta109_ar110 : ta109 ≠ ar110 := own_lt_ne' vt109.lt sa110
  have ne_ma109_ar110 : ma109 ≠ ar110 := own_lt_ne' vm109.lt sa110
  have O110 : Ext Z.heap T110.heap := own_Ext.keep O109 kp110 (allS ga all0)
  have KP110 : Keep h0 T110.heap [a1] := KP109.trans kp110 (allS (Or.inl (List.mem_of_getElem? (i := 0) rfl)) all0)
  refine Go.st (S' := T110.setTop (mkF m 27 #[sR a1, sJ q2, sS, sI 2, sJ tm, sS] [])) st110 ?_
  refine Go.st (S' := T110.setTop (mkF m 28 #[sR a1, sJ q2, sS, sI 2, sJ tm, sS] [(.int (2 : Int32))])) (fun _ k => XS.iloadN X110.here hx rfl (hb hby d5_27) rfl k) ?_
  refine Go.st (S' := T110.setTop (mkF m 29 #[sR a1, sJ q2, sS, sI 2, sJ tm, sS] [(.int (2 : Int32)), (.int (2 : Int32))])) (fun _ k => XS.iconst X110.here hx rfl (hb hby d5_28) k) ?_
  refine Go.st (S' := T110.setTop (mkF m 47 #[sR a1, sJ q2, sS, sI 2, sJ tm, sS] [])) (fun _ k => XS.icmpYes X110.here hx rfl (pc0 := 29) (pc' := 47) rfl (hb hby d5_29) rfl (flt (by decide)).2.2.2 (by decide) (by decide) k) ?_
  exact own_retV X110 hx hlk hret (hb hby d5_47) rfl ⟨rfl, N110, KP110, _, _, _, _, (Nat.le_trans KP109.1 sl110), (Nat.le_trans KP109.1 sa110), (Nat.le_trans KP0.1 st_109), (Nat.le_trans KP0.1 sm109), nla110, ne_ta109_ar110, ne_ma109_ar110, el110, golderTimestamps110, golderTimes110, golderCount110, gfloor110, gslots110, flayout110, fnewest110, va110, (vt109.keep kp110 (ninS (Ne.symm ne_a1_ta109) nin0)), (vm109.keep kp110 (ninS (Ne.symm ne_a1_ma109) nin0))⟩ (by decide) (by decide)
theorem d5_32 : decode method_2_code 32 = .ok (.aload_n 0, 1) := by decide +kernel
theorem d5_33 : decode method_2_code 33 = .ok (.lload_n 1, 1) := by decide +kernel
theorem d5_34 : decode method_2_code 34 = .ok (.ldc2_w 13, 3) := by decide +kernel
theorem d5_37 : decode method_2_code 37 = .ok (.ladd, 1) := by decide +kernel
theorem d5_38 : decode method_2_code 38 = .ok (.lload 4, 2) := by decide +kernel
theorem d5_40 : decode method_2_code 40 = .ok (.ldc2_w 13, 3) := by decide +kernel
theorem d5_43 : decode method_2_code 43 = .ok (.ladd, 1) := by decide +kernel
theorem d5_44 : decode method_2_code 44 = .ok (.invokevirtual 7, 3) := by decide +kernel
theorem ef_rmRI3 (m : MethodId) (x0 : Addr) (x1 : Int64) (x2 : Int32) (x3 : Int64) : entryFrame m #[(.ref x0), (.long x1), (.int x2), (.long x3)] 6 = mkF m 0 #[sR x0, sJ x1, sS, sI x2, sJ x3, sS] [] := by first | (simp [entryFrame, mkF, argsToLocals, Value.category]; done) | rfl
set_option maxRecDepth 65536 in
set_option maxHeartbeats 400000000 in
theorem rmRI3 (l : Launch) (Z : State) (a0 : Array Value) (hw : ∀ d ∈ tables_1, d.before a0 Z = true) (ws : List Jvm.Cond) (w_NONE : Addr) (k_NONE : ClassId) (hS : SF Z w_NONE k_NONE) (a1 : Addr) (q2 tm : Int64) (ly : Addr) (h0 : Heap) (O0 : Ext Z.heap h0) (ga : Z.heap.size ≤ a1) (EA : Exa Z h0 a1 "com/example/palimpsest/palimpsest/CommitTimes") (EL : Exa Z h0 ly "com/example/palimpsest/palimpsest/CommitTimes$Layout") (n1 : a1 ≠ ly) (F_layout : Fld Z h0 a1 "com/example/palimpsest/palimpsest/CommitTimes" "layout" "Lcom/example/palimpsest/palimpsest/CommitTimes$Layout;" (.ref ly)) (F_newest : Fld Z h0 a1 "com/example/palimpsest/palimpsest/CommitTimes" "newest" "J" (.long (0 : Int64))) (L_olderTimestamps : Fld Z h0 ly "com/example/palimpsest/palimpsest/CommitTimes$Layout" "olderTimestamps" "[J" (.ref w_NONE)) (L_olderTimes : Fld Z h0 ly "com/example/palimpsest/palimpsest/CommitTimes$Layout" "olderTimes" "[J" (.ref w_NONE)) (L_olderCount : Fld Z h0 ly "com/example/palimpsest/palimpsest/CommitTimes$Layout" "olderCount" "I" (.int (0 : Int32))) (L_floor : Fld Z h0 ly "com/example/palimpsest/palimpsest/CommitTimes$Layout" "floor" "J" (.long (1 : Int64))) (L_slots : Fld Z h0 ly "com/example/palimpsest/palimpsest/CommitTimes$Layout" "slots" "[J" (.ref w_NONE)) :
    Con l Z h0 (⟨"com/example/palimpsest/palimpsest/CommitTimesHeapBytesPinLaw", "run", "(Lcom/example/palimpsest/palimpsest/CommitTimes;JIJ)V"⟩ : MethodName) method_2_code 6 none ws ({ frames := 5, cells := 8, slots := 36, locals := 120 } : Room) #[(.ref a1), (.long q2), (.int (3 : Int32)), (.long tm)] (fun v h L => v = none ∧ Fr Z.heap.size L ∧ Keep h0 h [a1] ∧ ∃ ly ar, h0.size ≤ ly ∧ h0.size ≤ ar ∧ ly ≠ ar ∧ Exa Z h ly "com/example/palimpsest/palimpsest/CommitTimes$Layout" ∧ Fld Z h ly "com/example/palimpsest/palimpsest/CommitTimes$Layout" "olderTimestamps" "[J" (.ref w_NONE) ∧ Fld Z h ly "com/example/palimpsest/palimpsest/CommitTimes$Layout" "olderTimes" "[J" (.ref w_NONE) ∧ Fld Z h ly "com/example/palimpsest/palimpsest/CommitTimes$Layout" "olderCount" "I" (.int (0 : Int32)) ∧ Fld Z h ly "com/example/palimpsest/palimpsest/CommitTimes$Layout" "floor" "J" (.long q2) ∧ Fld Z h ly "com/example/palimpsest/palimpsest/CommitTimes$Layout" "slots" "[J" (.ref ar) ∧ Fld Z h a1 "com/example/palimpsest/palimpsest/CommitTimes" "layout" "Lcom/example/palimpsest/palimpsest/CommitTimes$Layout;" (.ref ly) ∧ Fld Z h a1 "com/example/palimpsest/palimpsest/CommitTimes" "newest" "J" (.long (q2 + (2 : Int64))) ∧ AL Z h ar (4 : Int32)) := by
  obtain ⟨S_NONE, E_NONE, V_NONE⟩ := id hS
  refine own_con (plainFor_of_name pn_531690) ?_
  intro p e s m below meth c T0 X0 hx hby hml hown hnm hret hlk hZ e0
  have hown : s.vm.findClass "com/example/palimpsest/palimpsest/CommitTimesHeapBytesPinLaw" = some m.cls := hown
  have N0 := Fr.nil Z.heap.size
  have KP0 : Keep h0 h0 [a1] := Keep.refl h0 _
  refine Go.st (S' := T0.setTop (mkF m 0 #[sR a1, sJ q2, sS, sI 3, sJ tm, sS] [])) (fun _ k => castTop (ef_rmRI3 m a1 q2 (3 : Int32) tm) k) ?_
  refine Go.st (S' := T0.setTop (mkF m 1 #[sR a1, sJ q2, sS, sI 3, sJ tm, sS] [(.int (3 : Int32))])) (fun _ k => XS.iloadN X0.here hx rfl (hb hby d5_0) rfl k) ?_
  refine Go.st (S' := T0.setTop (mkF m 4 #[sR a1, sJ q2, sS, sI 3, sJ tm, sS] [])) (fun _ k => XS.ifNo X0.here hx rfl (hb hby d5_1) rfl ((if0 _ _).trans (tlt (by decide)).2.2.2) k) ?_
  refine Go.st (S' := T0.setTop (mkF m 5 #[sR a1, sJ q2, sS, sI 3, sJ tm, sS] [(.ref a1)])) (fun _ k => XS.aloadN X0.here hx rfl (hb hby d5_4) rfl rfl k) ?_
  refine Go.st (S' := T0.setTop (mkF m 6 #[sR a1, sJ q2, sS, sI 3, sJ tm, sS] [(.long q2), (.ref a1)])) (fun _ k => XS.lloadN X0.here hx rfl (hb hby d5_5) rfl k) ?_
  refine Go.st (S' := T0.setTop (mkF m 8 #[sR a1, sJ q2, sS, sI 3, sJ tm, sS] [(.long tm), (.long q2), (.ref a1)])) (fun _ k => XS.lload X0.here hx rfl (hb hby d5_6) rfl k) ?_
  obtain ⟨_, T111, L111, X111, ⟨rfl, Nq111, kp111, ly111, ar111, sl111, sa111, nla111, el111, golderTimestamps111, golderTimes111, golderCount111, gfloor111, gslots111, flayout111, fnewest111, va111⟩, st111⟩ := own_callV X0 hx hZ hown (ww hw 56 rfl) (ww hw 57 rfl) (notFace_of_selects (args := #[]) (mvT hZ (ww hw 59 rfl))) (ww hw 59 rfl) (ww hw 58 rfl) (ww hw 4 rfl) (ww hw 60 rfl) (by decide) e0 EA (rmAddI l Z a0 hw [] w_NONE k_NONE hS a1 q2 tm ly h0 O0 ga EA EL n1 F_layout F_newest L_olderTimestamps L_olderTimes L_olderCount L_floor L_slots) 0 (by decide) (by decide) (by decide) (by decide) (g := (mkF m 8 #[sR a1, sJ q2, sS, sI 3, sJ tm, sS] [(.long tm), (.long q2), (.ref a1)])) rfl (by rw [hml]; rfl) [(.long q2), (.long tm)] [] rfl (lenOf pd_212493 rfl) rfl (by show 2 * 0 + _ ≤ _; exact Nat.le_of_eq rfl) (hb hby d5_8)
  have N111 := Fr.app N0 Nq111
  have ne_a1_ly111 : a1 ≠ ly111 := own_lt_ne' F_layout.lt sl111
  have ne_ly_ly111 : ly ≠ ly111 := own_lt_ne' L_olderTimestamps.lt sl111
  have ne_a1_ar111 : a1 ≠ ar111 := own_lt_ne' F_layout.lt sa111
  have ne_ly_ar111 : ly ≠ ar111 := own_lt_ne' L_olderTimestamps.lt sa111
  have O111 : Ext Z.heap T111.heap := own_Ext.keep O0 kp111 (allS ga all0)
  have KP111 : Keep h0 T111.heap [a1] := KP0.trans kp111 (allS (Or.inl (List.mem_of_getElem? (i := 0) rfl)) all0)
  refine Go.st (S' := T111.setTop (mkF m 11 #[sR a1, sJ q2, sS, sI 3, sJ tm, sS] [])) st111 ?_
  refine Go.st (S' := T111.setTop (mkF m 12 #[sR a1, sJ q2, sS, sI 3, sJ tm, sS] [(.int (3 : Int32))])) (fun _ k => XS.iloadN X111.here hx rfl (hb hby d5_11) rfl k) ?_
  refine Go.st (S' := T111.setTop (mkF m 13 #[sR a1, sJ q2, sS, sI 3, sJ tm, sS] [(.int (1 : Int32)), (.int (3 : Int32))])) (fun _ k => XS.iconst X111.here hx rfl (hb hby d5_12) k) ?_
  refine Go.st (S' := T111.setTop (mkF m 16 #[sR a1, sJ q2, sS, sI 3, sJ tm, sS] [])) (fun _ k => XS.icmpNo X111.here hx rfl (hb hby d5_13) rfl (tlt (by decide)).2.2.2 k) ?_
  refine Go.st (S' := T111.setTop (mkF m 17 #[sR a1, sJ q2, sS, sI 3, sJ tm, sS] [(.ref a1)])) (fun _ k => XS.aloadN X111.here hx rfl (hb hby d5_16) rfl rfl k) ?_
  refine Go.st (S' := T111.setTop (mkF m 18 #[sR a1, sJ q2, sS, sI 3, sJ tm, sS] [(.long q2), (.ref a1)])) (fun _ k => XS.lloadN X111.here hx rfl (hb hby d5_17) rfl k) ?_
  refine Go.st (S' := T111.setTop (mkF m 19 #[sR a1, sJ q2, sS, sI 3, sJ tm, sS] [(.long (1 : Int64)), (.long q2), (.ref a1)])) (fun _ k => XS.lconst X111.here hx rfl (hb hby d5_18) k) ?_
  refine Go.st (S' := T111.setTop (mkF m 20 #[sR a1, sJ q2, sS, sI 3, sJ tm, sS] [(.long (q2 + (1 : Int64))), (.ref a1)])) (fun _ k => XS.ladd X111.here hx rfl (hb hby d5_19) rfl k) ?_
  refine Go.st (S' := T111.setTop (mkF m 22 #[sR a1, sJ q2, sS, sI 3, sJ tm, sS] [(.long tm), (.long (q2 + (1 : Int64))), (.ref a1)])) (fun _ k => XS.lload X111.here hx rfl (hb hby d5_20) rfl k) ?_
  refine Go.st (S' := T111.setTop (mkF m 23 #[sR a1, sJ q2, sS, sI 3, sJ tm, sS] [(.long (1 : Int64)), (.long tm), (.long (q2 + (1 : Int64))), (.ref a1)])) (fun _ k => XS.lconst X111.here hx rfl (hb hby d5_22) k) ?_
  refine Go.st (S' := T111.setTop (mkF m 24 #[sR a1, sJ q2, sS, sI 3, sJ tm, sS] [(.long (tm + (1 : Int64))), (.long (q2 + (1 : Int64))), (.ref a1)])) (fun _ k => XS.ladd X111.here hx rfl (hb hby d5_23) rfl k) ?_
  obtain ⟨_, T112, L112, X112, ⟨rfl, Nq112, kp112, ly112, ar112, sl112, sa112, nla112, el112, golderTimestamps112, golderTimes112, golderCount112, gfloor112, gslots112, flayout112, fnewest112, va112⟩, st112⟩ := own_callV X111 hx hZ hown (ww hw 56 rfl) (ww hw 57 rfl) (notFace_of_selects (args := #[]) (mvT hZ (ww hw 59 rfl))) (ww hw 59 rfl) (ww hw 58 rfl) (ww hw 4 rfl) (ww hw 60 rfl) (by decide) rfl (EA.keep kp111) (rmAddB l Z a0 hw [] w_NONE k_NONE hS a1 (q2 + (1 : Int64)) (tm + (1 : Int64)) q2 q2 ly111 (0 : Int32) (1 : Int32) (2 : Int32) ar111 w_NONE w_NONE (by rw [own_o0]; decide) (by decide) (by decide) (by decide) rfl (by rw [own_o1]; decide) T111.heap O111 ga (EA.keep kp111) el111 ne_a1_ly111 flayout111 fnewest111 golderTimestamps111 golderTimes111 golderCount111 gfloor111 gslots111 va111 ) 0 (by decide) (by decide) (by decide) (by decide) (g := (mkF m 24 #[sR a1, sJ q2, sS, sI 3, sJ tm, sS] [(.long (tm + (1 : Int64))), (.long (q2 + (1 : Int64))), (.ref a1)])) rfl (by rw [hml]; rfl) [(.long (q2 + (1 : Int64))), (.long (tm + (1 : Int64)))] [] rfl (lenOf pd_212493 rfl) rfl (by show 2 * 0 + _ ≤ _; exact Nat.le_of_eq rfl) (hb hby d5_24)
  have N112 := Fr.app N111 Nq112
  have ne_a1_ly112 : a1 ≠ ly112 := own_lt_ne' (EA.keep kp111).lt sl112
  have ne_ly111_ly112 : ly111 ≠ ly112 := own_lt_ne' el111.lt sl112
  have ne_ar111_ly112 : ar111 ≠ ly112 := own_lt_ne' va111.lt sl112
  have ne_a1_ar112 : a1 ≠ ar112 := own_lt_ne' (EA.keep kp111).lt sa112
  have ne_ly111_ar112 : ly111 ≠ ar112 := own_lt_ne' el111.lt sa112
  have ne_ar111_ar112 : ar111 ≠ ar112 := own_lt_ne' va111.lt sa112
  have O112 : Ext Z.heap T112.heap := own_Ext.keep O111 kp112 (allS ga all0)
  have KP112 : Keep h0 T112.heap [a1] := KP111.trans kp112 (allS (Or.inl (List.mem_of_getElem? (i := 0) rfl)) all0)
  refine Go.st (S' := T112.setTop (mkF m 27 #[sR a1, sJ q2, sS, sI 3, sJ tm, sS] [])) st112 ?_
  refine Go.st (S' := T112.setTop (mkF m 28 #[sR a1, sJ q2, sS, sI 3, sJ tm, sS] [(.int (3 : Int32))])) (fun _ k => XS.iloadN X112.here hx rfl (hb hby d5_27) rfl k) ?_
  refine Go.st (S' := T112.setTop (mkF m 29 #[sR a1, sJ q2, sS, sI 3, sJ tm, sS] [(.int (2 : Int32)), (.int (3 : Int32))])) (fun _ k => XS.iconst X112.here hx rfl (hb hby d5_28) k) ?_
  refine Go.st (S' := T112.setTop (mkF m 32 #[sR a1, sJ q2, sS, sI 3, sJ tm, sS] [])) (fun _ k => XS.icmpNo X112.here hx rfl (hb hby d5_29) rfl (tlt (by decide)).2.2.2 k) ?_
  refine Go.st (S' := T112.setTop (mkF m 33 #[sR a1, sJ q2, sS, sI 3, sJ tm, sS] [(.ref a1)])) (fun _ k => XS.aloadN X112.here hx rfl (hb hby d5_32) rfl rfl k) ?_
  refine Go.st (S' := T112.setTop (mkF m 34 #[sR a1, sJ q2, sS, sI 3, sJ tm, sS] [(.long q2), (.ref a1)])) (fun _ k => XS.lloadN X112.here hx rfl (hb hby d5_33) rfl k) ?_
  refine Go.st (S' := T112.setTop (mkF m 37 #[sR a1, sJ q2, sS, sI 3, sJ tm, sS] [(.long (2 : Int64)), (.long q2), (.ref a1)])) (X112.ldc2Long hx hown (mvT hZ (ww hw 41 rfl)) (g := (mkF m 34 #[sR a1, sJ q2, sS, sI 3, sJ tm, sS] [(.long q2), (.ref a1)])) rfl (hb hby d5_34)) ?_
  refine Go.st (S' := T112.setTop (mkF m 38 #[sR a1, sJ q2, sS, sI 3, sJ tm, sS] [(.long (q2 + (2 : Int64))), (.ref a1)])) (fun _ k => XS.ladd X112.here hx rfl (hb hby d5_37) rfl k) ?_
  refine Go.st (S' := T112.setTop (mkF m 40 #[sR a1, sJ q2, sS, sI 3, sJ tm, sS] [(.long tm), (.long (q2 + (2 : Int64))), (.ref a1)])) (fun _ k => XS.lload X112.here hx rfl (hb hby d5_38) rfl k) ?_
  refine Go.st (S' := T112.setTop (mkF m 43 #[sR a1, sJ q2, sS, sI 3, sJ tm, sS] [(.long (2 : Int64)), (.long tm), (.long (q2 + (2 : Int64))), (.ref a1)])) (X112.ldc2Long hx hown (mvT hZ (ww hw 41 rfl)) (g := (mkF m 40 #[sR a1, sJ q2, sS, sI 3, sJ tm, sS] [(.long tm), (.long (q2 + (2 : Int64))), (.ref a1)])) rfl (hb hby d5_40)) ?_
  refine Go.st (S' := T112.setTop (mkF m 44 #[sR a1, sJ q2, sS, sI 3, sJ tm, sS] [(.long (tm + (2 : Int64))), (.long (q2 + (2 : Int64))), (.ref a1)])) (fun _ k => XS.ladd X112.here hx rfl (hb hby d5_43) rfl k) ?_
  obtain ⟨_, T113, L113, X113, ⟨rfl, Nq113, kp113, ly113, ar113, sl113, sa113, nla113, el113, golderTimestamps113, golderTimes113, golderCount113, gfloor113, gslots113, flayout113, fnewest113, va113⟩, st113⟩ := own_callV X112 hx hZ hown (ww hw 56 rfl) (ww hw 57 rfl) (notFace_of_selects (args := #[]) (mvT hZ (ww hw 59 rfl))) (ww hw 59 rfl) (ww hw 58 rfl) (ww hw 4 rfl) (ww hw 60 rfl) (by decide) rfl ((EA.keep kp111).keep kp112) (rmAddB l Z a0 hw [] w_NONE k_NONE hS a1 (q2 + (2 : Int64)) (tm + (2 : Int64)) (q2 + (1 : Int64)) q2 ly112 (0 : Int32) (2 : Int32) (4 : Int32) ar112 w_NONE w_NONE (by rw [own_o1]; decide) (by decide) (by decide) (by decide) (own_oa q2).symm (by rw [own_o1]; decide) T112.heap O112 ga ((EA.keep kp111).keep kp112) el112 ne_a1_ly112 flayout112 fnewest112 golderTimestamps112 golderTimes112 golderCount112 gfloor112 gslots112 va112 ) 0 (by decide) (by decide) (by decide) (by decide) (g := (mkF m 44 #[sR a1, sJ q2, sS, sI 3, sJ tm, sS] [(.long (tm + (2 : Int64))), (.long (q2 + (2 : Int64))), (.ref a1)])) rfl (by rw [hml]; rfl) [(.long (q2 + (2 : Int64))), (.long (tm + (2 : Int64)))] [] rfl (lenOf pd_212493 rfl) rfl (by show 2 * 0 + _ ≤ _; exact Nat.le_of_eq rfl) (hb hby d5_44)
  have N113 := Fr.app N112 Nq113
  have ne_a1_ly113 : a1 ≠ ly113 := own_lt_ne' ((EA.keep kp111).keep kp112).lt sl113
  have ne_ly112_ly113 : ly112 ≠ ly113 := own_lt_ne' el112.lt sl113
  have ne_ar112_ly113 : ar112 ≠ ly113 := own_lt_ne' va112.lt sl113
  have ne_a1_ar113 : a1 ≠ ar113 := own_lt_ne' ((EA.keep kp111).keep kp112).lt sa113
  have ne_ly112_ar113 : ly112 ≠ ar113 := own_lt_ne' el112.lt sa113
  have ne_ar112_ar113 : ar112 ≠ ar113 := own_lt_ne' va112.lt sa113
  have O113 : Ext Z.heap T113.heap := own_Ext.keep O112 kp113 (allS ga all0)
  have KP113 : Keep h0 T113.heap [a1] := KP112.trans kp113 (allS (Or.inl (List.mem_of_getElem? (i := 0) rfl)) all0)
  refine Go.st (S' := T113.setTop (mkF m 47 #[sR a1, sJ q2, sS, sI 3, sJ tm, sS] [])) st113 ?_
  exact own_retV X113 hx hlk hret (hb hby d5_47) rfl ⟨rfl, N113, KP113, _, _, (Nat.le_trans KP112.1 sl113), (Nat.le_trans KP112.1 sa113), nla113, el113, golderTimestamps113, golderTimes113, golderCount113, gfloor113, gslots113, flayout113, fnewest113, va113⟩ (by decide) (by decide)
theorem ef_rmRA3 (m : MethodId) (x0 : Addr) (x1 : Int64) (x2 : Int32) (x3 : Int64) : entryFrame m #[(.ref x0), (.long x1), (.int x2), (.long x3)] 6 = mkF m 0 #[sR x0, sJ x1, sS, sI x2, sJ x3, sS] [] := by first | (simp [entryFrame, mkF, argsToLocals, Value.category]; done) | rfl
set_option maxRecDepth 65536 in
set_option maxHeartbeats 400000000 in
theorem rmRA3 (l : Launch) (Z : State) (a0 : Array Value) (hw : ∀ d ∈ tables_1, d.before a0 Z = true) (ws : List Jvm.Cond) (w_NONE : Addr) (k_NONE : ClassId) (hS : SF Z w_NONE k_NONE) (a1 : Addr) (q2 tm nw fl : Int64) (ly : Addr) (oc ol cn sz nl : Int32) (sa ta ma : Addr) (hcn : (nw - fl) + (1 : Int64) = cn.toInt64) (hc1 : 1 ≤ cn.toInt) (hc3 : cn.toInt ≤ 3) (hsz : cn.toInt ≤ sz.toInt) (ho0 : 0 ≤ oc.toInt) (hoc : oc.toInt ≤ ol.toInt) (hol : ol.toInt ≤ 3) (hgr : ol.toInt < oc.toInt + cn.toInt) (hnl : nl = maxF (oc + cn) ((2 : Int32) * ol)) (h0 : Heap) (O0 : Ext Z.heap h0) (hts : ¬ q2 = (nw + (1 : Int64))) (ga : Z.heap.size ≤ a1) (EA : Exa Z h0 a1 "com/example/palimpsest/palimpsest/CommitTimes") (EL : Exa Z h0 ly "com/example/palimpsest/palimpsest/CommitTimes$Layout") (n1 : a1 ≠ ly) (F_layout : Fld Z h0 a1 "com/example/palimpsest/palimpsest/CommitTimes" "layout" "Lcom/example/palimpsest/palimpsest/CommitTimes$Layout;" (.ref ly)) (F_newest : Fld Z h0 a1 "com/example/palimpsest/palimpsest/CommitTimes" "newest" "J" (.long nw)) (L_olderTimestamps : Fld Z h0 ly "com/example/palimpsest/palimpsest/CommitTimes$Layout" "olderTimestamps" "[J" (.ref ta)) (L_olderTimes : Fld Z h0 ly "com/example/palimpsest/palimpsest/CommitTimes$Layout" "olderTimes" "[J" (.ref ma)) (L_olderCount : Fld Z h0 ly "com/example/palimpsest/palimpsest/CommitTimes$Layout" "olderCount" "I" (.int oc)) (L_floor : Fld Z h0 ly "com/example/palimpsest/palimpsest/CommitTimes$Layout" "floor" "J" (.long fl)) (L_slots : Fld Z h0 ly "com/example/palimpsest/palimpsest/CommitTimes$Layout" "slots" "[J" (.ref sa)) (A_ta : AL Z h0 ta ol) (A_ma : AL Z h0 ma ol) (A_sa : AL Z h0 sa sz) :
    Con l Z h0 (⟨"com/example/palimpsest/palimpsest/CommitTimesHeapBytesPinLaw", "run", "(Lcom/example/palimpsest/palimpsest/CommitTimes;JIJ)V"⟩ : MethodName) method_2_code 6 none ws ({ frames := 5, cells := 8, slots := 36, locals := 120 } : Room) #[(.ref a1), (.long q2), (.int (3 : Int32)), (.long tm)] (fun v h L => v = none ∧ Fr Z.heap.size L ∧ Keep h0 h [a1] ∧ ∃ ly sa ta ma, h0.size ≤ ly ∧ h0.size ≤ sa ∧ h0.size ≤ ta ∧ h0.size ≤ ma ∧ ly ≠ sa ∧ ta ≠ sa ∧ ma ≠ sa ∧ Exa Z h ly "com/example/palimpsest/palimpsest/CommitTimes$Layout" ∧ Fld Z h ly "com/example/palimpsest/palimpsest/CommitTimes$Layout" "olderTimestamps" "[J" (.ref ta) ∧ Fld Z h ly "com/example/palimpsest/palimpsest/CommitTimes$Layout" "olderTimes" "[J" (.ref ma) ∧ Fld Z h ly "com/example/palimpsest/palimpsest/CommitTimes$Layout" "olderCount" "I" (.int (oc + cn)) ∧ Fld Z h ly "com/example/palimpsest/palimpsest/CommitTimes$Layout" "floor" "J" (.long q2) ∧ Fld Z h ly "com/example/palimpsest/palimpsest/CommitTimes$Layout" "slots" "[J" (.ref sa) ∧ Fld Z h a1 "com/example/palimpsest/palimpsest/CommitTimes" "layout" "Lcom/example/palimpsest/palimpsest/CommitTimes$Layout;" (.ref ly) ∧ Fld Z h a1 "com/example/palimpsest/palimpsest/CommitTimes" "newest" "J" (.long (q2 + (2 : Int64))) ∧ AL Z h sa (4 : Int32) ∧ AL Z h ta nl ∧ AL Z h ma nl) := by
  obtain ⟨S_NONE, E_NONE, V_NONE⟩ := id hS
  refine own_con (plainFor_of_name pn_531690) ?_
  intro p e s m below meth c T0 X0 hx hby hml hown hnm hret hlk hZ e0
  have hown : s.vm.findClass "com/example/palimpsest/palimpsest/CommitTimesHeapBytesPinLaw" = some m.cls := hown
  have N0 := Fr.nil Z.heap.size
  have KP0 : Keep h0 h0 [a1] := Keep.refl h0 _
  refine Go.st (S' := T0.setTop (mkF m 0 #[sR a1, sJ q2, sS, sI 3, sJ tm, sS] [])) (fun _ k => castTop (ef_rmRA3 m a1 q2 (3 : Int32) tm) k) ?_
  refine Go.st (S' := T0.setTop (mkF m 1 #[sR a1, sJ q2, sS, sI 3, sJ tm, sS] [(.int (3 : Int32))])) (fun _ k => XS.iloadN X0.here hx rfl (hb hby d5_0) rfl k) ?_
  refine Go.st (S' := T0.setTop (mkF m 4 #[sR a1, sJ q2, sS, sI 3, sJ tm, sS] [])) (fun _ k => XS.ifNo X0.here hx rfl (hb hby d5_1) rfl ((if0 _ _).trans (tlt (by decide)).2.2.2) k) ?_
  refine Go.st (S' := T0.setTop (mkF m 5 #[sR a1, sJ q2, sS, sI 3, sJ tm, sS] [(.ref a1)])) (fun _ k => XS.aloadN X0.here hx rfl (hb hby d5_4) rfl rfl k) ?_
  refine Go.st (S' := T0.setTop (mkF m 6 #[sR a1, sJ q2, sS, sI 3, sJ tm, sS] [(.long q2), (.ref a1)])) (fun _ k => XS.lloadN X0.here hx rfl (hb hby d5_5) rfl k) ?_
  refine Go.st (S' := T0.setTop (mkF m 8 #[sR a1, sJ q2, sS, sI 3, sJ tm, sS] [(.long tm), (.long q2), (.ref a1)])) (fun _ k => XS.lload X0.here hx rfl (hb hby d5_6) rfl k) ?_
  obtain ⟨_, T114, L114, X114, ⟨rfl, Nq114, kp114, ly114, ar114, ta114, ma114, sl114, sa114, st_114, sm114, nla114, nta114, nma114, el114, golderTimestamps114, golderTimes114, golderCount114, gfloor114, gslots114, flayout114, fnewest114, va114, vt114, vm114⟩, st114⟩ := own_callV X0 hx hZ hown (ww hw 56 rfl) (ww hw 57 rfl) (notFace_of_selects (args := #[]) (mvT hZ (ww hw 59 rfl))) (ww hw 59 rfl) (ww hw 58 rfl) (ww hw 4 rfl) (ww hw 60 rfl) (by decide) e0 EA (rmAddA l Z a0 hw [] w_NONE k_NONE hS a1 q2 tm nw fl ly oc ol cn sz nl sa ta ma hcn hc1 hc3 hsz ho0 hoc hol hgr hnl h0 O0 hts ga EA EL n1 F_layout F_newest L_olderTimestamps L_olderTimes L_olderCount L_floor L_slots A_ta A_ma A_sa) 0 (by decide) (by decide) (by decide) (by decide) (g := (mkF m 8 #[sR a1, sJ q2, sS, sI 3, sJ tm, sS] [(.long tm), (.long q2), (.ref a1)])) rfl (by rw [hml]; rfl) [(.long q2), (.long tm)] [] rfl (lenOf pd_212493 rfl) rfl (by show 2 * 0 + _ ≤ _; exact Nat.le_of_eq rfl) (hb hby d5_8)
  have N114 := Fr.app N0 Nq114
  have ne_a1_ly114 : a1 ≠ ly114 := own_lt_ne' F_layout.lt sl114
  have ne_ly_ly114 : ly ≠ ly114 := own_lt_ne' L_olderTimestamps.lt sl114
  have ne_ta_ly114 : ta ≠ ly114 := own_lt_ne' A_ta.lt sl114
  have ne_ma_ly114 : ma ≠ ly114 := own_lt_ne' A_ma.lt sl114
  have ne_sa_ly114 : sa ≠ ly114 := own_lt_ne' A_sa.lt sl114
  have ne_a1_ar114 : a1 ≠ ar114 := own_lt_ne' F_layout.lt sa114
  have ne_ly_ar114 : ly ≠ ar114 := own_lt_ne' L_olderTimestamps.lt sa114
  have ne_ta_ar114 : ta ≠ ar114 := own_lt_ne' A_ta.lt sa114
  have ne_ma_ar114 : ma ≠ ar114 := own_lt_ne' A_ma.lt sa114
  have ne_sa_ar114 : sa ≠ ar114 := own_lt_ne' A_sa.lt sa114
  have ne_a1_ta114 : a1 ≠ ta114 := own_lt_ne' F_layout.lt st_114
  have ne_ly_ta114 : ly ≠ ta114 := own_lt_ne' L_olderTimestamps.lt st_114
  have ne_ta_ta114 : ta ≠ ta114 := own_lt_ne' A_ta.lt st_114
  have ne_ma_ta114 : ma ≠ ta114 := own_lt_ne' A_ma.lt st_114
  have ne_sa_ta114 : sa ≠ ta114 := own_lt_ne' A_sa.lt st_114
  have ne_a1_ma114 : a1 ≠ ma114 := own_lt_ne' F_layout.lt sm114
  have ne_ly_ma114 : ly ≠ ma114 := own_lt_ne' L_olderTimestamps.lt sm114
  have ne_ta_ma114 : ta ≠ ma114 := own_lt_ne' A_ta.lt sm114
  have ne_ma_ma114 : ma ≠ ma114 := own_lt_ne' A_ma.lt sm114
  have ne_sa_ma114 : sa ≠ ma114 := own_lt_ne' A_sa.lt sm114
  have O114 : Ext Z.heap T114.heap := own_Ext.keep O0 kp114 (allS ga all0)
  have KP114 : Keep h0 T114.heap [a1] := KP0.trans kp114 (allS (Or.inl (List.mem_of_getElem? (i := 0) rfl)) all0)
  refine Go.st (S' := T114.setTop (mkF m 11 #[sR a1, sJ q2, sS, sI 3, sJ tm, sS] [])) st114 ?_
  refine Go.st (S' := T114.setTop (mkF m 12 #[sR a1, sJ q2, sS, sI 3, sJ tm, sS] [(.int (3 : Int32))])) (fun _ k => XS.iloadN X114.here hx rfl (hb hby d5_11) rfl k) ?_
  refine Go.st (S' := T114.setTop (mkF m 13 #[sR a1, sJ q2, sS, sI 3, sJ tm, sS] [(.int (1 : Int32)), (.int (3 : Int32))])) (fun _ k => XS.iconst X114.here hx rfl (hb hby d5_12) k) ?_
  refine Go.st (S' := T114.setTop (mkF m 16 #[sR a1, sJ q2, sS, sI 3, sJ tm, sS] [])) (fun _ k => XS.icmpNo X114.here hx rfl (hb hby d5_13) rfl (tlt (by decide)).2.2.2 k) ?_
  refine Go.st (S' := T114.setTop (mkF m 17 #[sR a1, sJ q2, sS, sI 3, sJ tm, sS] [(.ref a1)])) (fun _ k => XS.aloadN X114.here hx rfl (hb hby d5_16) rfl rfl k) ?_
  refine Go.st (S' := T114.setTop (mkF m 18 #[sR a1, sJ q2, sS, sI 3, sJ tm, sS] [(.long q2), (.ref a1)])) (fun _ k => XS.lloadN X114.here hx rfl (hb hby d5_17) rfl k) ?_
  refine Go.st (S' := T114.setTop (mkF m 19 #[sR a1, sJ q2, sS, sI 3, sJ tm, sS] [(.long (1 : Int64)), (.long q2), (.ref a1)])) (fun _ k => XS.lconst X114.here hx rfl (hb hby d5_18) k) ?_
  refine Go.st (S' := T114.setTop (mkF m 20 #[sR a1, sJ q2, sS, sI 3, sJ tm, sS] [(.long (q2 + (1 : Int64))), (.ref a1)])) (fun _ k => XS.ladd X114.here hx rfl (hb hby d5_19) rfl k) ?_
  refine Go.st (S' := T114.setTop (mkF m 22 #[sR a1, sJ q2, sS, sI 3, sJ tm, sS] [(.long tm), (.long (q2 + (1 : Int64))), (.ref a1)])) (fun _ k => XS.lload X114.here hx rfl (hb hby d5_20) rfl k) ?_
  refine Go.st (S' := T114.setTop (mkF m 23 #[sR a1, sJ q2, sS, sI 3, sJ tm, sS] [(.long (1 : Int64)), (.long tm), (.long (q2 + (1 : Int64))), (.ref a1)])) (fun _ k => XS.lconst X114.here hx rfl (hb hby d5_22) k) ?_
  refine Go.st (S' := T114.setTop (mkF m 24 #[sR a1, sJ q2, sS, sI 3, sJ tm, sS] [(.long (tm + (1 : Int64))), (.long (q2 + (1 : Int64))), (.ref a1)])) (fun _ k => XS.ladd X114.here hx rfl (hb hby d5_23) rfl k) ?_
  obtain ⟨_, T115, L115, X115, ⟨rfl, Nq115, kp115, ly115, ar115, sl115, sa115, nla115, el115, golderTimestamps115, golderTimes115, golderCount115, gfloor115, gslots115, flayout115, fnewest115, va115⟩, st115⟩ := own_callV X114 hx hZ hown (ww hw 56 rfl) (ww hw 57 rfl) (notFace_of_selects (args := #[]) (mvT hZ (ww hw 59 rfl))) (ww hw 59 rfl) (ww hw 58 rfl) (ww hw 4 rfl) (ww hw 60 rfl) (by decide) rfl (EA.keep kp114) (rmAddB l Z a0 hw [] w_NONE k_NONE hS a1 (q2 + (1 : Int64)) (tm + (1 : Int64)) q2 q2 ly114 (oc + cn) (1 : Int32) (2 : Int32) ar114 ta114 ma114 (by rw [own_o0]; decide) (by decide) (by decide) (by decide) rfl (by rw [own_o1]; decide) T114.heap O114 ga (EA.keep kp114) el114 ne_a1_ly114 flayout114 fnewest114 golderTimestamps114 golderTimes114 golderCount114 gfloor114 gslots114 va114 ) 0 (by decide) (by decide) (by decide) (by decide) (g := (mkF m 24 #[sR a1, sJ q2, sS, sI 3, sJ tm, sS] [(.long (tm + (1 : Int64))), (.long (q2 + (1 : Int64))), (.ref a1)])) rfl (by rw [hml]; rfl) [(.long (q2 + (1 : Int64))), (.long (tm + (1 : Int64)))] [] rfl (lenOf pd_212493 rfl) rfl (by show 2 * 0 + _ ≤ _; exact Nat.le_of_eq rfl) (hb hby d5_24)
  have N115 := Fr.app N114 Nq115
  have ne_a1_ly115 : a1 ≠ ly115 := own_lt_ne' (EA.keep kp114).lt sl115
  have ne_ly114_ly115 : ly114 ≠ ly115 := own_lt_ne' el114.lt sl115
  have ne_ar114_ly115 : ar114 ≠ ly115 := own_lt_ne' va114.lt sl115
  have ne_ta114_ly115 : ta114 ≠ ly115 := own_lt_ne' vt114.lt sl115
  have ne_ma114_ly115 : ma114 ≠ ly115 := own_lt_ne' vm114.lt sl115
  have ne_a1_ar115 : a1 ≠ ar115 := own_lt_ne' (EA.keep kp114).lt sa115
  have ne_ly114_ar115 : ly114 ≠ ar115 := own_lt_ne' el114.lt sa115
  have ne_ar114_ar115 : ar114 ≠ ar115 := own_lt_ne' va114.lt sa115
  have ne_ta114_ar115 : ta114 ≠ ar115 := own_lt_ne' vt114.lt sa115
  have ne_ma114_ar115 : ma114 ≠ ar115 := own_lt_ne' vm114.lt sa115
  have O115 : Ext Z.heap T115.heap := own_Ext.keep O114 kp115 (allS ga all0)
  have KP115 : Keep h0 T115.heap [a1] := KP114.trans kp115 (allS (Or.inl (List.mem_of_getElem? (i := 0) rfl)) all0)
  refine Go.st (S' := T115.setTop (mkF m 27 #[sR a1, sJ q2, sS, sI 3, sJ tm, sS] [])) st115 ?_
  refine Go.st (S' := T115.setTop (mkF m 28 #[sR a1, sJ q2, sS, sI 3, sJ tm, sS] [(.int (3 : Int32))])) (fun _ k => XS.iloadN X115.here hx rfl (hb hby d5_27) rfl k) ?_
  refine Go.st (S' := T115.setTop (mkF m 29 #[sR a1, sJ q2, sS, sI 3, sJ tm, sS] [(.int (2 : Int32)), (.int (3 : Int32))])) (fun _ k => XS.iconst X115.here hx rfl (hb hby d5_28) k) ?_
  refine Go.st (S' := T115.setTop (mkF m 32 #[sR a1, sJ q2, sS, sI 3, sJ tm, sS] [])) (fun _ k => XS.icmpNo X115.here hx rfl (hb hby d5_29) rfl (tlt (by decide)).2.2.2 k) ?_
  refine Go.st (S' := T115.setTop (mkF m 33 #[sR a1, sJ q2, sS, sI 3, sJ tm, sS] [(.ref a1)])) (fun _ k => XS.aloadN X115.here hx rfl (hb hby d5_32) rfl rfl k) ?_
  refine Go.st (S' := T115.setTop (mkF m 34 #[sR a1, sJ q2, sS, sI 3, sJ tm, sS] [(.long q2), (.ref a1)])) (fun _ k => XS.lloadN X115.here hx rfl (hb hby d5_33) rfl k) ?_
  refine Go.st (S' := T115.setTop (mkF m 37 #[sR a1, sJ q2, sS, sI 3, sJ tm, sS] [(.long (2 : Int64)), (.long q2), (.ref a1)])) (X115.ldc2Long hx hown (mvT hZ (ww hw 41 rfl)) (g := (mkF m 34 #[sR a1, sJ q2, sS, sI 3, sJ tm, sS] [(.long q2), (.ref a1)])) rfl (hb hby d5_34)) ?_
  refine Go.st (S' := T115.setTop (mkF m 38 #[sR a1, sJ q2, sS, sI 3, sJ tm, sS] [(.long (q2 + (2 : Int64))), (.ref a1)])) (fun _ k => XS.ladd X115.here hx rfl (hb hby d5_37) rfl k) ?_
  refine Go.st (S' := T115.setTop (mkF m 40 #[sR a1, sJ q2, sS, sI 3, sJ tm, sS] [(.long tm), (.long (q2 + (2 : Int64))), (.ref a1)])) (fun _ k => XS.lload X115.here hx rfl (hb hby d5_38) rfl k) ?_
  refine Go.st (S' := T115.setTop (mkF m 43 #[sR a1, sJ q2, sS, sI 3, sJ tm, sS] [(.long (2 : Int64)), (.long tm), (.long (q2 + (2 : Int64))), (.ref a1)])) (X115.ldc2Long hx hown (mvT hZ (ww hw 41 rfl)) (g := (mkF m 40 #[sR a1, sJ q2, sS, sI 3, sJ tm, sS] [(.long tm), (.long (q2 + (2 : Int64))), (.ref a1)])) rfl (hb hby d5_40)) ?_
  refine Go.st (S' := T115.setTop (mkF m 44 #[sR a1, sJ q2, sS, sI 3, sJ tm, sS] [(.long (tm + (2 : Int64))), (.long (q2 + (2 : Int64))), (.ref a1)])) (fun _ k => XS.ladd X115.here hx rfl (hb hby d5_43) rfl k) ?_
  obtain ⟨_, T116, L116, X116, ⟨rfl, Nq116, kp116, ly116, ar116, sl116, sa116, nla116, el116, golderTimestamps116, golderTimes116, golderCount116, gfloor116, gslots116, flayout116, fnewest116, va116⟩, st116⟩ := own_callV X115 hx hZ hown (ww hw 56 rfl) (ww hw 57 rfl) (notFace_of_selects (args := #[]) (mvT hZ (ww hw 59 rfl))) (ww hw 59 rfl) (ww hw 58 rfl) (ww hw 4 rfl) (ww hw 60 rfl) (by decide) rfl ((EA.keep kp114).keep kp115) (rmAddB l Z a0 hw [] w_NONE k_NONE hS a1 (q2 + (2 : Int64)) (tm + (2 : Int64)) (q2 + (1 : Int64)) q2 ly115 (oc + cn) (2 : Int32) (4 : Int32) ar115 ta114 ma114 (by rw [own_o1]; decide) (by decide) (by decide) (by decide) (own_oa q2).symm (by rw [own_o1]; decide) T115.heap O115 ga ((EA.keep kp114).keep kp115) el115 ne_a1_ly115 flayout115 fnewest115 golderTimestamps115 golderTimes115 golderCount115 gfloor115 gslots115 va115 ) 0 (by decide) (by decide) (by decide) (by decide) (g := (mkF m 44 #[sR a1, sJ q2, sS, sI 3, sJ tm, sS] [(.long (tm + (2 : Int64))), (.long (q2 + (2 : Int64))), (.ref a1)])) rfl (by rw [hml]; rfl) [(.long (q2 + (2 : Int64))), (.long (tm + (2 : Int64)))] [] rfl (lenOf pd_212493 rfl) rfl (by show 2 * 0 + _ ≤ _; exact Nat.le_of_eq rfl) (hb hby d5_44)
  have N116 := Fr.app N115 Nq116
  have ne_a1_ly116 : a1 ≠ ly116 := own_lt_ne' ((EA.keep kp114).keep kp115).lt sl116
  have ne_ta114_ly116 : ta114 ≠ ly116 := own_lt_ne' (vt114.keep kp115 (ninS (Ne.symm ne_a1_ta114) nin0)).lt sl116
  have ne_ma114_ly116 : ma114 ≠ ly116 := own_lt_ne' (vm114.keep kp115 (ninS (Ne.symm ne_a1_ma114) nin0)).lt sl116
  have ne_ly115_ly116 : ly115 ≠ ly116 := own_lt_ne' el115.lt sl116
  have ne_ar115_ly116 : ar115 ≠ ly116 := own_lt_ne' va115.lt sl116
  have ne_a1_ar116 : a1 ≠ ar116 := own_lt_ne' ((EA.keep kp114).keep kp115).lt sa116
  have ne_ta114_ar116 : ta114 ≠ ar116 := own_lt_ne' (vt114.keep kp115 (ninS (Ne.symm ne_a1_ta114) nin0)).lt sa116
  have ne_ma114_ar116 : ma114 ≠ ar116 := own_lt_ne' (vm114.keep kp115 (ninS (Ne.symm ne_a1_ma114) nin0)).lt sa116
  have ne_ly115_ar116 : ly115 ≠ ar116 := own_lt_ne' el115.lt sa116
  have ne_ar115_ar116 : ar115 ≠ ar116 := own_lt_ne' va115.lt sa116
  have O116 : Ext Z.heap T116.heap := own_Ext.keep O115 kp116 (allS ga all0)
  have KP116 : Keep h0 T116.heap [a1] := KP115.trans kp116 (allS (Or.inl (List.mem_of_getElem? (i := 0) rfl)) all0)
  refine Go.st (S' := T116.setTop (mkF m 47 #[sR a1, sJ q2, sS, sI 3, sJ tm, sS] [])) st116 ?_
  exact own_retV X116 hx hlk hret (hb hby d5_47) rfl ⟨rfl, N116, KP116, _, _, _, _, (Nat.le_trans KP115.1 sl116), (Nat.le_trans KP115.1 sa116), (Nat.le_trans KP0.1 st_114), (Nat.le_trans KP0.1 sm114), nla116, ne_ta114_ar116, ne_ma114_ar116, el116, golderTimestamps116, golderTimes116, golderCount116, gfloor116, gslots116, flayout116, fnewest116, va116, ((vt114.keep kp115 (ninS (Ne.symm ne_a1_ta114) nin0)).keep kp116 (ninS (Ne.symm ne_a1_ta114) nin0)), ((vm114.keep kp115 (ninS (Ne.symm ne_a1_ma114) nin0)).keep kp116 (ninS (Ne.symm ne_a1_ma114) nin0))⟩ (by decide) (by decide)
theorem d15_0 : decode prog_8_method_4_code 0 = .ok (.lload_n 1, 1) := by decide +kernel
theorem d15_1 : decode prog_8_method_4_code 1 = .ok (.aload_n 0, 1) := by decide +kernel
theorem d15_2 : decode prog_8_method_4_code 2 = .ok (.getfield 20, 3) := by decide +kernel
theorem d15_5 : decode prog_8_method_4_code 5 = .ok (.lsub, 1) := by decide +kernel
theorem d15_6 : decode prog_8_method_4_code 6 = .ok (.lconst 1, 1) := by decide +kernel
theorem d15_7 : decode prog_8_method_4_code 7 = .ok (.ladd, 1) := by decide +kernel
theorem d15_8 : decode prog_8_method_4_code 8 = .ok (.lconst 0, 1) := by decide +kernel
theorem d15_9 : decode prog_8_method_4_code 9 = .ok (.invokestatic 48, 3) := by decide +kernel
theorem d15_12 : decode prog_8_method_4_code 12 = .ok (.l2i, 1) := by decide +kernel
theorem d15_13 : decode prog_8_method_4_code 13 = .ok (.istore_n 3, 1) := by decide +kernel
theorem d15_14 : decode prog_8_method_4_code 14 = .ok (.new 8, 3) := by decide +kernel
theorem d15_17 : decode prog_8_method_4_code 17 = .ok (.dup, 1) := by decide +kernel
theorem d15_18 : decode prog_8_method_4_code 18 = .ok (.aload_n 0, 1) := by decide +kernel
theorem d15_19 : decode prog_8_method_4_code 19 = .ok (.getfield 7, 3) := by decide +kernel
theorem d15_22 : decode prog_8_method_4_code 22 = .ok (.aload_n 0, 1) := by decide +kernel
theorem d15_23 : decode prog_8_method_4_code 23 = .ok (.getfield 16, 3) := by decide +kernel
theorem d15_26 : decode prog_8_method_4_code 26 = .ok (.invokestatic 33, 3) := by decide +kernel
theorem d15_29 : decode prog_8_method_4_code 29 = .ok (.aload_n 0, 1) := by decide +kernel
theorem d15_30 : decode prog_8_method_4_code 30 = .ok (.getfield 13, 3) := by decide +kernel
theorem d15_33 : decode prog_8_method_4_code 33 = .ok (.aload_n 0, 1) := by decide +kernel
theorem d15_34 : decode prog_8_method_4_code 34 = .ok (.getfield 16, 3) := by decide +kernel
theorem d15_37 : decode prog_8_method_4_code 37 = .ok (.invokestatic 33, 3) := by decide +kernel
theorem d15_40 : decode prog_8_method_4_code 40 = .ok (.aload_n 0, 1) := by decide +kernel
theorem d15_41 : decode prog_8_method_4_code 41 = .ok (.getfield 16, 3) := by decide +kernel
theorem d15_44 : decode prog_8_method_4_code 44 = .ok (.aload_n 0, 1) := by decide +kernel
theorem d15_45 : decode prog_8_method_4_code 45 = .ok (.getfield 20, 3) := by decide +kernel
theorem d15_48 : decode prog_8_method_4_code 48 = .ok (.aload_n 0, 1) := by decide +kernel
theorem d15_49 : decode prog_8_method_4_code 49 = .ok (.getfield 24, 3) := by decide +kernel
theorem d15_52 : decode prog_8_method_4_code 52 = .ok (.iload_n 3, 1) := by decide +kernel
theorem d15_53 : decode prog_8_method_4_code 53 = .ok (.invokestatic 33, 3) := by decide +kernel
theorem d15_56 : decode prog_8_method_4_code 56 = .ok (.invokespecial 39, 3) := by decide +kernel
theorem d15_59 : decode prog_8_method_4_code 59 = .ok (.areturn, 1) := by decide +kernel
theorem pd_212481 : parseMethodDescriptor "(JJ)J" = some ⟨[.long, .long], some .long⟩ := by decide +kernel
theorem ef_rmTd (m : MethodId) (x0 : Addr) (x1 : Int64) : entryFrame m #[(.ref x0), (.long x1)] 4 = mkF m 0 #[sR x0, sJ x1, sS, sU] [] := by first | (simp [entryFrame, mkF, argsToLocals, Value.category]; done) | rfl
set_option maxRecDepth 65536 in
set_option maxHeartbeats 400000000 in
theorem rmTd (l : Launch) (Z : State) (a0 : Array Value) (hw : ∀ d ∈ tables_1, d.before a0 Z = true) (ws : List Jvm.Cond) (w_NONE : Addr) (k_NONE : ClassId) (hS : SF Z w_NONE k_NONE) (a1 : Addr) (nw fl : Int64) (oc ol cn sz : Int32) (sa ta ma : Addr) (hcn : (nw - fl) + (1 : Int64) = cn.toInt64) (hc0 : 0 ≤ cn.toInt) (hc3 : cn.toInt ≤ 6) (hs0 : 0 ≤ sz.toInt) (hs6 : sz.toInt ≤ 6) (ho0 : 0 ≤ oc.toInt) (ho6 : oc.toInt ≤ 6) (hl0 : 0 ≤ ol.toInt) (hl6 : ol.toInt ≤ 6) (h0 : Heap) (O0 : Ext Z.heap h0) (EA : Exa Z h0 a1 "com/example/palimpsest/palimpsest/CommitTimes$Layout") (F_olderTimestamps : Fld Z h0 a1 "com/example/palimpsest/palimpsest/CommitTimes$Layout" "olderTimestamps" "[J" (.ref ta)) (F_olderTimes : Fld Z h0 a1 "com/example/palimpsest/palimpsest/CommitTimes$Layout" "olderTimes" "[J" (.ref ma)) (F_olderCount : Fld Z h0 a1 "com/example/palimpsest/palimpsest/CommitTimes$Layout" "olderCount" "I" (.int oc)) (F_floor : Fld Z h0 a1 "com/example/palimpsest/palimpsest/CommitTimes$Layout" "floor" "J" (.long fl)) (F_slots : Fld Z h0 a1 "com/example/palimpsest/palimpsest/CommitTimes$Layout" "slots" "[J" (.ref sa)) (A_ta : AL Z h0 ta ol) (A_ma : AL Z h0 ma ol) (A_sa : AL Z h0 sa sz) :
    Con l Z h0 (⟨"com/example/palimpsest/palimpsest/CommitTimes$Layout", "trimmed", "(J)Lcom/example/palimpsest/palimpsest/CommitTimes$Layout;"⟩ : MethodName) prog_8_method_4_code 4 (some (.object "com/example/palimpsest/palimpsest/CommitTimes$Layout")) ws ({ frames := 3, cells := 4, slots := 23, locals := 70 } : Room) #[(.ref a1), (.long nw)] (fun v h L => (∃ ly sa ta ma, v = some (.ref ly) ∧ h0.size ≤ ly ∧ h0.size ≤ sa ∧ h0.size ≤ ta ∧ h0.size ≤ ma ∧ Fld Z h ly "com/example/palimpsest/palimpsest/CommitTimes$Layout" "olderTimestamps" "[J" (.ref ta) ∧ Fld Z h ly "com/example/palimpsest/palimpsest/CommitTimes$Layout" "olderTimes" "[J" (.ref ma) ∧ Fld Z h ly "com/example/palimpsest/palimpsest/CommitTimes$Layout" "olderCount" "I" (.int oc) ∧ Fld Z h ly "com/example/palimpsest/palimpsest/CommitTimes$Layout" "floor" "J" (.long fl) ∧ Fld Z h ly "com/example/palimpsest/palimpsest/CommitTimes$Layout" "slots" "[J" (.ref sa) ∧ AL Z h sa cn ∧ AL Z h ta oc ∧ AL Z h ma oc) ∧ Fr Z.heap.size L ∧ Keep h0 h []) := by
  obtain ⟨S_NONE, E_NONE, V_NONE⟩ := id hS
  refine own_con (plainFor_of_name pn_938991) ?_
  intro p e s m below meth c T0 X0 hx hby hml hown hnm hret hlk hZ e0
  have hown : s.vm.findClass "com/example/palimpsest/palimpsest/CommitTimes$Layout" = some m.cls := hown
  have N0 := Fr.nil Z.heap.size
  have KP0 : Keep h0 h0 [] := Keep.refl h0 _
  refine Go.st (S' := T0.setTop (mkF m 0 #[sR a1, sJ nw, sS, sU] [])) (fun _ k => castTop (ef_rmTd m a1 nw) k) ?_
  refine Go.st (S' := T0.setTop (mkF m 1 #[sR a1, sJ nw, sS, sU] [(.long nw)])) (fun _ k => XS.lloadN X0.here hx rfl (hb hby d15_0) rfl k) ?_
  refine Go.st (S' := T0.setTop (mkF m 2 #[sR a1, sJ nw, sS, sU] [(.ref a1), (.long nw)])) (fun _ k => XS.aloadN X0.here hx rfl (hb hby d15_1) rfl rfl k) ?_
  obtain ⟨T117, X117, e117, st117⟩ := getF X0 hx hZ hown (host := "") (Or.inl (ww hw 31 rfl)) Via.refl e0 F_floor (g := (mkF m 2 #[sR a1, sJ nw, sS, sU] [(.ref a1), (.long nw)])) rfl rfl (hb hby d15_2)
  refine Go.st (S' := T117.setTop (mkF m 5 #[sR a1, sJ nw, sS, sU] [(.long fl), (.long nw)])) st117 ?_
  refine Go.st (S' := T117.setTop (mkF m 6 #[sR a1, sJ nw, sS, sU] [(.long (nw - fl))])) (fun _ k => XS.lsub X117.here hx rfl (hb hby d15_5) rfl k) ?_
  refine Go.st (S' := T117.setTop (mkF m 7 #[sR a1, sJ nw, sS, sU] [(.long (1 : Int64)), (.long (nw - fl))])) (fun _ k => XS.lconst X117.here hx rfl (hb hby d15_6) k) ?_
  refine Go.st (S' := T117.setTop (mkF m 8 #[sR a1, sJ nw, sS, sU] [(.long ((nw - fl) + (1 : Int64)))])) (fun _ k => XS.ladd X117.here hx rfl (hb hby d15_7) rfl k) ?_
  refine Go.st (S' := T117.setTop (mkF m 8 #[sR a1, sJ nw, sS, sU] [(.long (cn.toInt64))])) (fun _ k => by rw [(hcn : ((nw - fl) + (1 : Int64)) = (cn.toInt64))]; exact k) ?_
  refine Go.st (S' := T117.setTop (mkF m 9 #[sR a1, sJ nw, sS, sU] [(.long (0 : Int64)), (.long (cn.toInt64))])) (fun _ k => XS.lconst X117.here hx rfl (hb hby d15_8) k) ?_
  obtain ⟨_, T118, L118, X118, ⟨rfl, Nq118, eq118⟩, st118⟩ := own_callS X117 hx hZ hown (ww hw 103 rfl) (ww hw 104 rfl) (ww hw 79 rfl) (ww hw 105 rfl) (by decide) e117 (rm_maxJ l Z a0 hw [] w_NONE k_NONE hS (cn.toInt64) (0 : Int64) h0 O0) 0 (by decide) (by decide) (by decide) (by decide) (g := (mkF m 9 #[sR a1, sJ nw, sS, sU] [(.long (0 : Int64)), (.long (cn.toInt64))])) rfl (by rw [hml]; rfl) [(.long (cn.toInt64)), (.long (0 : Int64))] [] rfl (lenOf pd_212481 rfl) rfl (by show 2 * 0 + _ ≤ _; exact Nat.le_of_eq rfl) (hb hby d15_9)
  have N118 := Fr.app N0 Nq118
  refine Go.st (S' := T118.setTop (mkF m 12 #[sR a1, sJ nw, sS, sU] [(.long (maxJ (cn.toInt64) (0 : Int64)))])) st118 ?_
  refine Go.st (S' := T118.setTop (mkF m 12 #[sR a1, sJ nw, sS, sU] [(.long (cn.toInt64))])) (fun _ k => by rw [(own_mxj hc0 : (maxJ (cn.toInt64) (0 : Int64)) = (cn.toInt64))]; exact k) ?_
  refine Go.st (S' := T118.setTop (mkF m 13 #[sR a1, sJ nw, sS, sU] [(.int ((cn.toInt64).toInt32))])) (fun _ k => XS.l2i X118.here hx rfl (hb hby d15_12) rfl k) ?_
  refine Go.st (S' := T118.setTop (mkF m 13 #[sR a1, sJ nw, sS, sU] [(.int cn)])) (fun _ k => by rw [(own_rt cn : ((cn.toInt64).toInt32) = cn)]; exact k) ?_
  refine Go.st (S' := T118.setTop (mkF m 14 #[sR a1, sJ nw, sS, sI cn] [])) (fun _ k => XS.istoreN X118.here hx rfl (hb hby d15_13) rfl (l' := #[sR a1, sJ nw, sS, sI cn]) rfl k) ?_
  obtain ⟨T119, h119, X119, e119, E119, A119, D119, -, st119⟩ := newO X118 hx hZ hown (ww hw 68 rfl) (ww hw 12 rfl) (ww hw 13 rfl) eq118 (g := (mkF m 14 #[sR a1, sJ nw, sS, sI cn] [])) rfl (hb hby d15_14) (by decide) (by decide)
  obtain ⟨b119, g119⟩ : ∃ z, z = h0.size := ⟨_, rfl⟩
  rw [← g119] at A119 D119 st119
  have gz119 : Z.heap.size ≤ b119 := Nat.le_trans O0.1 (Nat.le_of_eq g119.symm)
  have sz119 : h0.size ≤ b119 := Nat.le_trans KP0.1 (Nat.le_of_eq g119.symm)
  have ne_a1_b119 : a1 ≠ b119 := own_lt_ne F_olderTimestamps.lt g119
  have ne_ta_b119 : ta ≠ b119 := own_lt_ne A_ta.lt g119
  have ne_ma_b119 : ma ≠ b119 := own_lt_ne A_ma.lt g119
  have ne_sa_b119 : sa ≠ b119 := own_lt_ne A_sa.lt g119
  have O119 : Ext Z.heap h119 := own_Ext.trans O0 E119
  have KP119 : Keep h0 h119 [] := KP0.ext E119
  have F119_olderTimestamps : Fld Z h119 b119 "com/example/palimpsest/palimpsest/CommitTimes$Layout" "olderTimestamps" "[J" .null := D119 (Or.inr (ww hw 26 rfl)) (ty := (.array .long)) pf_132122
  have F119_olderTimes : Fld Z h119 b119 "com/example/palimpsest/palimpsest/CommitTimes$Layout" "olderTimes" "[J" .null := D119 (Or.inr (ww hw 28 rfl)) (ty := (.array .long)) pf_132122
  have F119_olderCount : Fld Z h119 b119 "com/example/palimpsest/palimpsest/CommitTimes$Layout" "olderCount" "I" (.int (0 : Int32)) := D119 (Or.inr (ww hw 30 rfl)) (ty := .int) pf_990
  have F119_floor : Fld Z h119 b119 "com/example/palimpsest/palimpsest/CommitTimes$Layout" "floor" "J" (.long (0 : Int64)) := D119 (Or.inr (ww hw 32 rfl)) (ty := .long) pf_991
  have F119_slots : Fld Z h119 b119 "com/example/palimpsest/palimpsest/CommitTimes$Layout" "slots" "[J" .null := D119 (Or.inr (ww hw 34 rfl)) (ty := (.array .long)) pf_132122
  refine Go.st (S' := T119.setTop (mkF m 17 #[sR a1, sJ nw, sS, sI cn] [(.ref b119)])) st119 ?_
  refine Go.st (S' := T119.setTop (mkF m 18 #[sR a1, sJ nw, sS, sI cn] [(.ref b119), (.ref b119)])) (fun _ k => XS.dup X119.here hx rfl (hb hby d15_17) rfl rfl k) ?_
  refine Go.st (S' := T119.setTop (mkF m 19 #[sR a1, sJ nw, sS, sI cn] [(.ref a1), (.ref b119), (.ref b119)])) (fun _ k => XS.aloadN X119.here hx rfl (hb hby d15_18) rfl rfl k) ?_
  obtain ⟨T120, X120, e120, st120⟩ := getF X119 hx hZ hown (host := "") (Or.inl (ww hw 25 rfl)) Via.refl e119 (F_olderTimestamps.ext E119) (g := (mkF m 19 #[sR a1, sJ nw, sS, sI cn] [(.ref a1), (.ref b119), (.ref b119)])) rfl rfl (hb hby d15_19)
  refine Go.st (S' := T120.setTop (mkF m 22 #[sR a1, sJ nw, sS, sI cn] [(.ref ta), (.ref b119), (.ref b119)])) st120 ?_
  refine Go.st (S' := T120.setTop (mkF m 23 #[sR a1, sJ nw, sS, sI cn] [(.ref a1), (.ref ta), (.ref b119), (.ref b119)])) (fun _ k => XS.aloadN X120.here hx rfl (hb hby d15_22) rfl rfl k) ?_
  obtain ⟨T121, X121, e121, st121⟩ := getF X120 hx hZ hown (host := "") (Or.inl (ww hw 29 rfl)) Via.refl e120 (F_olderCount.ext E119) (g := (mkF m 23 #[sR a1, sJ nw, sS, sI cn] [(.ref a1), (.ref ta), (.ref b119), (.ref b119)])) rfl rfl (hb hby d15_23)
  refine Go.st (S' := T121.setTop (mkF m 26 #[sR a1, sJ nw, sS, sI cn] [(.int oc), (.ref ta), (.ref b119), (.ref b119)])) st121 ?_
  obtain ⟨_, T122, L122, X122, ⟨⟨cb122, rfl, sc122, ac122⟩, Nq122, kp122⟩, st122⟩ := own_callS X121 hx hZ hown (ww hw 85 rfl) (ww hw 86 rfl) (ww hw 87 rfl) (ww hw 88 rfl) (by decide) e121 (rmCP l Z a0 hw [] w_NONE k_NONE hS ta oc ol hl0 hl6 ho0 ho6 h119 O119 (A_ta.ext E119)) 2 (by decide) (by decide) (by decide) (by decide) (g := (mkF m 26 #[sR a1, sJ nw, sS, sI cn] [(.int oc), (.ref ta), (.ref b119), (.ref b119)])) rfl (by rw [hml]; rfl) [(.ref ta), (.int oc)] [(.ref b119), (.ref b119)] rfl (lenOf pd_116401 rfl) rfl (by show 2 * 0 + _ ≤ _; exact Nat.le_of_eq rfl) (hb hby d15_26)
  have N122 := Fr.app N118 Nq122
  have ne_a1_cb122 : a1 ≠ cb122 := own_lt_ne' (F_olderTimestamps.ext E119).lt sc122
  have ne_ta_cb122 : ta ≠ cb122 := own_lt_ne' (A_ta.ext E119).lt sc122
  have ne_ma_cb122 : ma ≠ cb122 := own_lt_ne' (A_ma.ext E119).lt sc122
  have ne_sa_cb122 : sa ≠ cb122 := own_lt_ne' (A_sa.ext E119).lt sc122
  have ne_b119_cb122 : b119 ≠ cb122 := own_lt_ne' A119.lt sc122
  have O122 : Ext Z.heap T122.heap := own_Ext.keep O119 kp122 all0
  have KP122 : Keep h0 T122.heap [] := KP119.trans kp122 all0
  refine Go.st (S' := T122.setTop (mkF m 29 #[sR a1, sJ nw, sS, sI cn] [(.ref cb122), (.ref b119), (.ref b119)])) st122 ?_
  refine Go.st (S' := T122.setTop (mkF m 30 #[sR a1, sJ nw, sS, sI cn] [(.ref a1), (.ref cb122), (.ref b119), (.ref b119)])) (fun _ k => XS.aloadN X122.here hx rfl (hb hby d15_29) rfl rfl k) ?_
  obtain ⟨T123, X123, e123, st123⟩ := getF X122 hx hZ hown (host := "") (Or.inl (ww hw 27 rfl)) Via.refl rfl ((F_olderTimes.ext E119).keep kp122 nin0) (g := (mkF m 30 #[sR a1, sJ nw, sS, sI cn] [(.ref a1), (.ref cb122), (.ref b119), (.ref b119)])) rfl rfl (hb hby d15_30)
  refine Go.st (S' := T123.setTop (mkF m 33 #[sR a1, sJ nw, sS, sI cn] [(.ref ma), (.ref cb122), (.ref b119), (.ref b119)])) st123 ?_
  refine Go.st (S' := T123.setTop (mkF m 34 #[sR a1, sJ nw, sS, sI cn] [(.ref a1), (.ref ma), (.ref cb122), (.ref b119), (.ref b119)])) (fun _ k => XS.aloadN X123.here hx rfl (hb hby d15_33) rfl rfl k) ?_
  obtain ⟨T124, X124, e124, st124⟩ := getF X123 hx hZ hown (host := "") (Or.inl (ww hw 29 rfl)) Via.refl e123 ((F_olderCount.ext E119).keep kp122 nin0) (g := (mkF m 34 #[sR a1, sJ nw, sS, sI cn] [(.ref a1), (.ref ma), (.ref cb122), (.ref b119), (.ref b119)])) rfl rfl (hb hby d15_34)
  refine Go.st (S' := T124.setTop (mkF m 37 #[sR a1, sJ nw, sS, sI cn] [(.int oc), (.ref ma), (.ref cb122), (.ref b119), (.ref b119)])) st124 ?_
  obtain ⟨_, T125, L125, X125, ⟨⟨cb125, rfl, sc125, ac125⟩, Nq125, kp125⟩, st125⟩ := own_callS X124 hx hZ hown (ww hw 85 rfl) (ww hw 86 rfl) (ww hw 87 rfl) (ww hw 88 rfl) (by decide) e124 (rmCP l Z a0 hw [] w_NONE k_NONE hS ma oc ol hl0 hl6 ho0 ho6 T122.heap O122 ((A_ma.ext E119).keep kp122 nin0)) 3 (by decide) (by decide) (by decide) (by decide) (g := (mkF m 37 #[sR a1, sJ nw, sS, sI cn] [(.int oc), (.ref ma), (.ref cb122), (.ref b119), (.ref b119)])) rfl (by rw [hml]; rfl) [(.ref ma), (.int oc)] [(.ref cb122), (.ref b119), (.ref b119)] rfl (lenOf pd_116401 rfl) rfl (by show 2 * 0 + _ ≤ _; exact Nat.le_of_eq rfl) (hb hby d15_37)
  have N125 := Fr.app N122 Nq125
  have ne_a1_cb125 : a1 ≠ cb125 := own_lt_ne' ((F_olderTimestamps.ext E119).keep kp122 nin0).lt sc125
  have ne_ta_cb125 : ta ≠ cb125 := own_lt_ne' ((A_ta.ext E119).keep kp122 nin0).lt sc125
  have ne_ma_cb125 : ma ≠ cb125 := own_lt_ne' ((A_ma.ext E119).keep kp122 nin0).lt sc125
  have ne_sa_cb125 : sa ≠ cb125 := own_lt_ne' ((A_sa.ext E119).keep kp122 nin0).lt sc125
  have ne_b119_cb125 : b119 ≠ cb125 := own_lt_ne' (A119.keep kp122).lt sc125
  have ne_cb122_cb125 : cb122 ≠ cb125 := own_lt_ne' ac122.lt sc125
  have O125 : Ext Z.heap T125.heap := own_Ext.keep O122 kp125 all0
  have KP125 : Keep h0 T125.heap [] := KP122.trans kp125 all0
  refine Go.st (S' := T125.setTop (mkF m 40 #[sR a1, sJ nw, sS, sI cn] [(.ref cb125), (.ref cb122), (.ref b119), (.ref b119)])) st125 ?_
  refine Go.st (S' := T125.setTop (mkF m 41 #[sR a1, sJ nw, sS, sI cn] [(.ref a1), (.ref cb125), (.ref cb122), (.ref b119), (.ref b119)])) (fun _ k => XS.aloadN X125.here hx rfl (hb hby d15_40) rfl rfl k) ?_
  obtain ⟨T126, X126, e126, st126⟩ := getF X125 hx hZ hown (host := "") (Or.inl (ww hw 29 rfl)) Via.refl rfl (((F_olderCount.ext E119).keep kp122 nin0).keep kp125 nin0) (g := (mkF m 41 #[sR a1, sJ nw, sS, sI cn] [(.ref a1), (.ref cb125), (.ref cb122), (.ref b119), (.ref b119)])) rfl rfl (hb hby d15_41)
  refine Go.st (S' := T126.setTop (mkF m 44 #[sR a1, sJ nw, sS, sI cn] [(.int oc), (.ref cb125), (.ref cb122), (.ref b119), (.ref b119)])) st126 ?_
  refine Go.st (S' := T126.setTop (mkF m 45 #[sR a1, sJ nw, sS, sI cn] [(.ref a1), (.int oc), (.ref cb125), (.ref cb122), (.ref b119), (.ref b119)])) (fun _ k => XS.aloadN X126.here hx rfl (hb hby d15_44) rfl rfl k) ?_
  obtain ⟨T127, X127, e127, st127⟩ := getF X126 hx hZ hown (host := "") (Or.inl (ww hw 31 rfl)) Via.refl e126 (((F_floor.ext E119).keep kp122 nin0).keep kp125 nin0) (g := (mkF m 45 #[sR a1, sJ nw, sS, sI cn] [(.ref a1), (.int oc), (.ref cb125), (.ref cb122), (.ref b119), (.ref b119)])) rfl rfl (hb hby d15_45)
  refine Go.st (S' := T127.setTop (mkF m 48 #[sR a1, sJ nw, sS, sI cn] [(.long fl), (.int oc), (.ref cb125), (.ref cb122), (.ref b119), (.ref b119)])) st127 ?_
  refine Go.st (S' := T127.setTop (mkF m 49 #[sR a1, sJ nw, sS, sI cn] [(.ref a1), (.long fl), (.int oc), (.ref cb125), (.ref cb122), (.ref b119), (.ref b119)])) (fun _ k => XS.aloadN X127.here hx rfl (hb hby d15_48) rfl rfl k) ?_
  obtain ⟨T128, X128, e128, st128⟩ := getF X127 hx hZ hown (host := "") (Or.inl (ww hw 33 rfl)) Via.refl e127 (((F_slots.ext E119).keep kp122 nin0).keep kp125 nin0) (g := (mkF m 49 #[sR a1, sJ nw, sS, sI cn] [(.ref a1), (.long fl), (.int oc), (.ref cb125), (.ref cb122), (.ref b119), (.ref b119)])) rfl rfl (hb hby d15_49)
  refine Go.st (S' := T128.setTop (mkF m 52 #[sR a1, sJ nw, sS, sI cn] [(.ref sa), (.long fl), (.int oc), (.ref cb125), (.ref cb122), (.ref b119), (.ref b119)])) st128 ?_
  refine Go.st (S' := T128.setTop (mkF m 53 #[sR a1, sJ nw, sS, sI cn] [(.int cn), (.ref sa), (.long fl), (.int oc), (.ref cb125), (.ref cb122), (.ref b119), (.ref b119)])) (fun _ k => XS.iloadN X128.here hx rfl (hb hby d15_52) rfl k) ?_
  obtain ⟨_, T129, L129, X129, ⟨⟨cb129, rfl, sc129, ac129⟩, Nq129, kp129⟩, st129⟩ := own_callS X128 hx hZ hown (ww hw 85 rfl) (ww hw 86 rfl) (ww hw 87 rfl) (ww hw 88 rfl) (by decide) e128 (rmCP l Z a0 hw [] w_NONE k_NONE hS sa cn sz hs0 hs6 hc0 hc3 T125.heap O125 (((A_sa.ext E119).keep kp122 nin0).keep kp125 nin0)) 7 (by decide) (by decide) (by decide) (by decide) (g := (mkF m 53 #[sR a1, sJ nw, sS, sI cn] [(.int cn), (.ref sa), (.long fl), (.int oc), (.ref cb125), (.ref cb122), (.ref b119), (.ref b119)])) rfl (by rw [hml]; rfl) [(.ref sa), (.int cn)] [(.long fl), (.int oc), (.ref cb125), (.ref cb122), (.ref b119), (.ref b119)] rfl (lenOf pd_116401 rfl) rfl (by show 2 * 0 + _ ≤ _; exact Nat.le_of_eq rfl) (hb hby d15_53)
  have N129 := Fr.app N125 Nq129
  have ne_a1_cb129 : a1 ≠ cb129 := own_lt_ne' (((F_olderTimestamps.ext E119).keep kp122 nin0).keep kp125 nin0).lt sc129
  have ne_ta_cb129 : ta ≠ cb129 := own_lt_ne' (((A_ta.ext E119).keep kp122 nin0).keep kp125 nin0).lt sc129
  have ne_ma_cb129 : ma ≠ cb129 := own_lt_ne' (((A_ma.ext E119).keep kp122 nin0).keep kp125 nin0).lt sc129
  have ne_sa_cb129 : sa ≠ cb129 := own_lt_ne' (((A_sa.ext E119).keep kp122 nin0).keep kp125 nin0).lt sc129
  have ne_b119_cb129 : b119 ≠ cb129 := own_lt_ne' ((A119.keep kp122).keep kp125).lt sc129
  have ne_cb122_cb129 : cb122 ≠ cb129 := own_lt_ne' (ac122.keep kp125 nin0).lt sc129
  have ne_cb125_cb129 : cb125 ≠ cb129 := own_lt_ne' ac125.lt sc129
  have O129 : Ext Z.heap T129.heap := own_Ext.keep O125 kp129 all0
  have KP129 : Keep h0 T129.heap [] := KP125.trans kp129 all0
  refine Go.st (S' := T129.setTop (mkF m 56 #[sR a1, sJ nw, sS, sI cn] [(.ref cb129), (.long fl), (.int oc), (.ref cb125), (.ref cb122), (.ref b119), (.ref b119)])) st129 ?_
  obtain ⟨_, T130, L130, X130, ⟨rfl, Nq130, kp130, folderTimestamps130, folderTimes130, folderCount130, ffloor130, fslots130⟩, st130⟩ := own_callI X129 hx hZ rfl hown (ww hw 70 rfl) (ww hw 17 rfl) (ww hw 13 rfl) (ww hw 18 rfl) (by decide) rfl (rmLY l Z a0 hw [] w_NONE k_NONE hS b119 cb122 cb125 oc fl cb129 T129.heap O129 gz119 (((A119.keep kp122).keep kp125).keep kp129) (((F119_olderTimestamps.keep kp122 nin0).keep kp125 nin0).keep kp129 nin0) (((F119_olderTimes.keep kp122 nin0).keep kp125 nin0).keep kp129 nin0) (((F119_olderCount.keep kp122 nin0).keep kp125 nin0).keep kp129 nin0) (((F119_floor.keep kp122 nin0).keep kp125 nin0).keep kp129 nin0) (((F119_slots.keep kp122 nin0).keep kp125 nin0).keep kp129 nin0)) 1 (by decide) (by decide) (by decide) (by decide) (g := (mkF m 56 #[sR a1, sJ nw, sS, sI cn] [(.ref cb129), (.long fl), (.int oc), (.ref cb125), (.ref cb122), (.ref b119), (.ref b119)])) rfl (by rw [hml]; rfl) [(.ref cb122), (.ref cb125), (.int oc), (.long fl), (.ref cb129)] [(.ref b119)] rfl (lenOf pd_950621 rfl) rfl (by show 2 * 0 + _ ≤ _; exact Nat.le_of_eq rfl) (hb hby d15_56)
  have N130 := Fr.app N129 Nq130
  have O130 : Ext Z.heap T130.heap := own_Ext.keep O129 kp130 (allS gz119 all0)
  have KP130 : Keep h0 T130.heap [] := KP129.trans kp130 (allS (Or.inr sz119) all0)
  refine Go.st (S' := T130.setTop (mkF m 59 #[sR a1, sJ nw, sS, sI cn] [(.ref b119)])) st130 ?_
  exact own_retA X130 hx hlk hret rfl rfl rfl (hb hby d15_59) rfl ⟨⟨_, _, _, _, rfl, sz119, (Nat.le_trans KP125.1 sc129), (Nat.le_trans KP119.1 sc122), (Nat.le_trans KP122.1 sc125), folderTimestamps130, folderTimes130, folderCount130, ffloor130, fslots130, (ac129.keep kp130 (ninS (Ne.symm ne_b119_cb129) nin0)), (((ac122.keep kp125 nin0).keep kp129 nin0).keep kp130 (ninS (Ne.symm ne_b119_cb122) nin0)), ((ac125.keep kp129 nin0).keep kp130 (ninS (Ne.symm ne_b119_cb125) nin0))⟩, N130, KP130⟩ (by decide) (by decide)
theorem d14_0 : decode prog_7_method_4_code 0 = .ok (.aload_n 0, 1) := by decide +kernel
theorem d14_1 : decode prog_7_method_4_code 1 = .ok (.aload_n 0, 1) := by decide +kernel
theorem d14_2 : decode prog_7_method_4_code 2 = .ok (.getfield 20, 3) := by decide +kernel
theorem d14_5 : decode prog_7_method_4_code 5 = .ok (.aload_n 0, 1) := by decide +kernel
theorem d14_6 : decode prog_7_method_4_code 6 = .ok (.getfield 40, 3) := by decide +kernel
theorem d14_9 : decode prog_7_method_4_code 9 = .ok (.invokevirtual 57, 3) := by decide +kernel
theorem d14_12 : decode prog_7_method_4_code 12 = .ok (.putfield 20, 3) := by decide +kernel
theorem d14_15 : decode prog_7_method_4_code 15 = .ok (.return_, 1) := by decide +kernel
theorem pd_502074 : parseMethodDescriptor "(J)Lcom/example/palimpsest/palimpsest/CommitTimes$Layout;" = some ⟨[.long], some (.object "com/example/palimpsest/palimpsest/CommitTimes$Layout")⟩ := by decide +kernel
theorem ef_rmTrim (m : MethodId) (x0 : Addr) : entryFrame m #[(.ref x0)] 1 = mkF m 0 #[sR x0] [] := by first | (simp [entryFrame, mkF, argsToLocals, Value.category]; done) | rfl
set_option maxRecDepth 65536 in
set_option maxHeartbeats 400000000 in
theorem rmTrim (l : Launch) (Z : State) (a0 : Array Value) (hw : ∀ d ∈ tables_1, d.before a0 Z = true) (ws : List Jvm.Cond) (w_NONE : Addr) (k_NONE : ClassId) (hS : SF Z w_NONE k_NONE) (a1 ly : Addr) (nw fl : Int64) (oc ol cn sz : Int32) (sa ta ma : Addr) (hcn : (nw - fl) + (1 : Int64) = cn.toInt64) (hc0 : 0 ≤ cn.toInt) (hc3 : cn.toInt ≤ 6) (hs0 : 0 ≤ sz.toInt) (hs6 : sz.toInt ≤ 6) (ho0 : 0 ≤ oc.toInt) (ho6 : oc.toInt ≤ 6) (hl0 : 0 ≤ ol.toInt) (hl6 : ol.toInt ≤ 6) (h0 : Heap) (O0 : Ext Z.heap h0) (ga : Z.heap.size ≤ a1) (EA : Exa Z h0 a1 "com/example/palimpsest/palimpsest/CommitTimes") (EL : Exa Z h0 ly "com/example/palimpsest/palimpsest/CommitTimes$Layout") (n1 : a1 ≠ ly) (F_layout : Fld Z h0 a1 "com/example/palimpsest/palimpsest/CommitTimes" "layout" "Lcom/example/palimpsest/palimpsest/CommitTimes$Layout;" (.ref ly)) (F_newest : Fld Z h0 a1 "com/example/palimpsest/palimpsest/CommitTimes" "newest" "J" (.long nw)) (L_olderTimestamps : Fld Z h0 ly "com/example/palimpsest/palimpsest/CommitTimes$Layout" "olderTimestamps" "[J" (.ref ta)) (L_olderTimes : Fld Z h0 ly "com/example/palimpsest/palimpsest/CommitTimes$Layout" "olderTimes" "[J" (.ref ma)) (L_olderCount : Fld Z h0 ly "com/example/palimpsest/palimpsest/CommitTimes$Layout" "olderCount" "I" (.int oc)) (L_floor : Fld Z h0 ly "com/example/palimpsest/palimpsest/CommitTimes$Layout" "floor" "J" (.long fl)) (L_slots : Fld Z h0 ly "com/example/palimpsest/palimpsest/CommitTimes$Layout" "slots" "[J" (.ref sa)) (A_ta : AL Z h0 ta ol) (A_ma : AL Z h0 ma ol) (A_sa : AL Z h0 sa sz) :
    Con l Z h0 (⟨"com/example/palimpsest/palimpsest/CommitTimes", "trim", "()V"⟩ : MethodName) prog_7_method_4_code 1 none ws ({ frames := 4, cells := 4, slots := 23, locals := 100 } : Room) #[(.ref a1)] (fun v h L => v = none ∧ Fr Z.heap.size L ∧ Keep h0 h [a1] ∧ ∃ ly sa ta ma, h0.size ≤ ly ∧ h0.size ≤ sa ∧ h0.size ≤ ta ∧ h0.size ≤ ma ∧ Fld Z h ly "com/example/palimpsest/palimpsest/CommitTimes$Layout" "olderTimestamps" "[J" (.ref ta) ∧ Fld Z h ly "com/example/palimpsest/palimpsest/CommitTimes$Layout" "olderTimes" "[J" (.ref ma) ∧ Fld Z h ly "com/example/palimpsest/palimpsest/CommitTimes$Layout" "olderCount" "I" (.int oc) ∧ Fld Z h ly "com/example/palimpsest/palimpsest/CommitTimes$Layout" "floor" "J" (.long fl) ∧ Fld Z h ly "com/example/palimpsest/palimpsest/CommitTimes$Layout" "slots" "[J" (.ref sa) ∧ AL Z h sa cn ∧ AL Z h ta oc ∧ AL Z h ma oc ∧ Fld Z h a1 "com/example/palimpsest/palimpsest/CommitTimes" "layout" "Lcom/example/palimpsest/palimpsest/CommitTimes$Layout;" (.ref ly)) := by
  obtain ⟨S_NONE, E_NONE, V_NONE⟩ := id hS
  refine own_con (plainFor_of_name pn_977193) ?_
  intro p e s m below meth c T0 X0 hx hby hml hown hnm hret hlk hZ e0
  have hown : s.vm.findClass "com/example/palimpsest/palimpsest/CommitTimes" = some m.cls := hown
  have N0 := Fr.nil Z.heap.size
  have KP0 : Keep h0 h0 [a1] := Keep.refl h0 _
  refine Go.st (S' := T0.setTop (mkF m 0 #[sR a1] [])) (fun _ k => castTop (ef_rmTrim m a1) k) ?_
  refine Go.st (S' := T0.setTop (mkF m 1 #[sR a1] [(.ref a1)])) (fun _ k => XS.aloadN X0.here hx rfl (hb hby d14_0) rfl rfl k) ?_
  refine Go.st (S' := T0.setTop (mkF m 2 #[sR a1] [(.ref a1), (.ref a1)])) (fun _ k => XS.aloadN X0.here hx rfl (hb hby d14_1) rfl rfl k) ?_
  obtain ⟨T131, X131, e131, st131⟩ := getF X0 hx hZ hown (host := "") (Or.inl (ww hw 35 rfl)) Via.refl e0 F_layout (g := (mkF m 2 #[sR a1] [(.ref a1), (.ref a1)])) rfl rfl (hb hby d14_2)
  refine Go.st (S' := T131.setTop (mkF m 5 #[sR a1] [(.ref ly), (.ref a1)])) st131 ?_
  refine Go.st (S' := T131.setTop (mkF m 6 #[sR a1] [(.ref a1), (.ref ly), (.ref a1)])) (fun _ k => XS.aloadN X131.here hx rfl (hb hby d14_5) rfl rfl k) ?_
  obtain ⟨T132, X132, e132, st132⟩ := getF X131 hx hZ hown (host := "") (Or.inl (ww hw 61 rfl)) Via.refl e131 F_newest (g := (mkF m 6 #[sR a1] [(.ref a1), (.ref ly), (.ref a1)])) rfl rfl (hb hby d14_6)
  refine Go.st (S' := T132.setTop (mkF m 9 #[sR a1] [(.long nw), (.ref ly), (.ref a1)])) st132 ?_
  obtain ⟨_, T133, L133, X133, ⟨⟨ly133, ar133, ta133, ma133, rfl, sl133, sa133, st_133, sm133, golderTimestamps133, golderTimes133, golderCount133, gfloor133, gslots133, va133, vt133, vm133⟩, Nq133, kp133⟩, st133⟩ := own_callV X132 hx hZ hown (ww hw 98 rfl) (ww hw 99 rfl) (notFace_of_selects (args := #[]) (mvT hZ (ww hw 101 rfl))) (ww hw 101 rfl) (ww hw 100 rfl) (ww hw 13 rfl) (ww hw 102 rfl) (by decide) e132 EL (rmTd l Z a0 hw [] w_NONE k_NONE hS ly nw fl oc ol cn sz sa ta ma hcn hc0 hc3 hs0 hs6 ho0 ho6 hl0 hl6 h0 O0 EL L_olderTimestamps L_olderTimes L_olderCount L_floor L_slots A_ta A_ma A_sa) 1 (by decide) (by decide) (by decide) (by decide) (g := (mkF m 9 #[sR a1] [(.long nw), (.ref ly), (.ref a1)])) rfl (by rw [hml]; rfl) [(.long nw)] [(.ref a1)] rfl (lenOf pd_502074 rfl) rfl (by show 2 * 0 + _ ≤ _; exact Nat.le_of_eq rfl) (hb hby d14_9)
  have N133 := Fr.app N0 Nq133
  have ne_a1_ly133 : a1 ≠ ly133 := own_lt_ne' F_layout.lt sl133
  have ne_ly_ly133 : ly ≠ ly133 := own_lt_ne' L_olderTimestamps.lt sl133
  have ne_ta_ly133 : ta ≠ ly133 := own_lt_ne' A_ta.lt sl133
  have ne_ma_ly133 : ma ≠ ly133 := own_lt_ne' A_ma.lt sl133
  have ne_sa_ly133 : sa ≠ ly133 := own_lt_ne' A_sa.lt sl133
  have ne_a1_ar133 : a1 ≠ ar133 := own_lt_ne' F_layout.lt sa133
  have ne_ly_ar133 : ly ≠ ar133 := own_lt_ne' L_olderTimestamps.lt sa133
  have ne_ta_ar133 : ta ≠ ar133 := own_lt_ne' A_ta.lt sa133
  have ne_ma_ar133 : ma ≠ ar133 := own_lt_ne' A_ma.lt sa133
  have ne_sa_ar133 : sa ≠ ar133 := own_lt_ne' A_sa.lt sa133
  have ne_a1_ta133 : a1 ≠ ta133 := own_lt_ne' F_layout.lt st_133
  have ne_ly_ta133 : ly ≠ ta133 := own_lt_ne' L_olderTimestamps.lt st_133
  have ne_ta_ta133 : ta ≠ ta133 := own_lt_ne' A_ta.lt st_133
  have ne_ma_ta133 : ma ≠ ta133 := own_lt_ne' A_ma.lt st_133
  have ne_sa_ta133 : sa ≠ ta133 := own_lt_ne' A_sa.lt st_133
  have ne_a1_ma133 : a1 ≠ ma133 := own_lt_ne' F_layout.lt sm133
  have ne_ly_ma133 : ly ≠ ma133 := own_lt_ne' L_olderTimestamps.lt sm133
  have ne_ta_ma133 : ta ≠ ma133 := own_lt_ne' A_ta.lt sm133
  have ne_ma_ma133 : ma ≠ ma133 := own_lt_ne' A_ma.lt sm133
  have ne_sa_ma133 : sa ≠ ma133 := own_lt_ne' A_sa.lt sm133
  have O133 : Ext Z.heap T133.heap := own_Ext.keep O0 kp133 all0
  have KP133 : Keep h0 T133.heap [a1] := KP0.trans kp133 all0
  refine Go.st (S' := T133.setTop (mkF m 12 #[sR a1] [(.ref ly133), (.ref a1)])) st133 ?_
  obtain ⟨T134, h134, X134, e134, W134, st134⟩ := putF X133 hx hZ hown (host := "") (Or.inl (ww hw 35 rfl)) Via.refl rfl (F_layout.keep kp133 nin0) (EA.keep kp133) (Or.inl (ww hw 36 rfl)) (ww hw 3 rfl) (ty := (.object "com/example/palimpsest/palimpsest/CommitTimes$Layout")) pf_770827 rfl rfl (g := (mkF m 12 #[sR a1] [(.ref ly133), (.ref a1)])) rfl rfl (hb hby d14_12)
  have N134 := Fr.snoc X134 N133 ga
  have Fw134 := (F_layout.keep kp133 nin0).same W134
  have O134 : Ext Z.heap h134 := own_Ext.wr O133 W134 ga
  have KP134 : Keep h0 h134 [a1] := KP133.wr W134 (Or.inl (List.mem_of_getElem? (i := 0) rfl))
  refine Go.st (S' := T134.setTop (mkF m 15 #[sR a1] [])) st134 ?_
  exact own_retV X134 hx hlk hret (hb hby d14_15) e134 ⟨rfl, N134, KP134, _, _, _, _, (Nat.le_trans KP0.1 sl133), (Nat.le_trans KP0.1 sa133), (Nat.le_trans KP0.1 st_133), (Nat.le_trans KP0.1 sm133), (golderTimestamps133.other W134 (Or.inl (Ne.symm ne_a1_ly133))), (golderTimes133.other W134 (Or.inl (Ne.symm ne_a1_ly133))), (golderCount133.other W134 (Or.inl (Ne.symm ne_a1_ly133))), (gfloor133.other W134 (Or.inl (Ne.symm ne_a1_ly133))), (gslots133.other W134 (Or.inl (Ne.symm ne_a1_ly133))), (va133.other W134 (Ne.symm ne_a1_ar133)), (vt133.other W134 (Ne.symm ne_a1_ta133)), (vm133.other W134 (Ne.symm ne_a1_ma133)), Fw134⟩ (by decide) (by decide)
theorem d6_0 : decode prog_7_method_6_code 0 = .ok (.aload_n 0, 1) := by decide +kernel
theorem d6_1 : decode prog_7_method_6_code 1 = .ok (.getfield 20, 3) := by decide +kernel
theorem d6_4 : decode prog_7_method_6_code 4 = .ok (.astore_n 1, 1) := by decide +kernel
theorem d6_5 : decode prog_7_method_6_code 5 = .ok (.ldc2_w 80, 3) := by decide +kernel
theorem d6_8 : decode prog_7_method_6_code 8 = .ok (.aload_n 1, 1) := by decide +kernel
theorem d6_9 : decode prog_7_method_6_code 9 = .ok (.getfield 51, 3) := by decide +kernel
theorem d6_12 : decode prog_7_method_6_code 12 = .ok (.arraylength, 1) := by decide +kernel
theorem d6_13 : decode prog_7_method_6_code 13 = .ok (.aload_n 1, 1) := by decide +kernel
theorem d6_14 : decode prog_7_method_6_code 14 = .ok (.getfield 82, 3) := by decide +kernel
theorem d6_17 : decode prog_7_method_6_code 17 = .ok (.arraylength, 1) := by decide +kernel
theorem d6_18 : decode prog_7_method_6_code 18 = .ok (.iadd, 1) := by decide +kernel
theorem d6_19 : decode prog_7_method_6_code 19 = .ok (.aload_n 1, 1) := by decide +kernel
theorem d6_20 : decode prog_7_method_6_code 20 = .ok (.getfield 85, 3) := by decide +kernel
theorem d6_23 : decode prog_7_method_6_code 23 = .ok (.arraylength, 1) := by decide +kernel
theorem d6_24 : decode prog_7_method_6_code 24 = .ok (.iadd, 1) := by decide +kernel
theorem d6_25 : decode prog_7_method_6_code 25 = .ok (.i2l, 1) := by decide +kernel
theorem d6_26 : decode prog_7_method_6_code 26 = .ok (.lmul, 1) := by decide +kernel
theorem d6_27 : decode prog_7_method_6_code 27 = .ok (.lreturn, 1) := by decide +kernel
theorem ef_rmHB (m : MethodId) (x0 : Addr) : entryFrame m #[(.ref x0)] 2 = mkF m 0 #[sR x0, sU] [] := by first | (simp [entryFrame, mkF, argsToLocals, Value.category]; done) | rfl
set_option maxRecDepth 65536 in
set_option maxHeartbeats 400000000 in
theorem rmHB (l : Launch) (Z : State) (a0 : Array Value) (hw : ∀ d ∈ tables_1, d.before a0 Z = true) (ws : List Jvm.Cond) (w_NONE : Addr) (k_NONE : ClassId) (hS : SF Z w_NONE k_NONE) (a1 ly : Addr) (fl : Int64) (oc ol om sz : Int32) (sa ta ma : Addr) (h0 : Heap) (O0 : Ext Z.heap h0) (FL : Fld Z h0 a1 "com/example/palimpsest/palimpsest/CommitTimes" "layout" "Lcom/example/palimpsest/palimpsest/CommitTimes$Layout;" (.ref ly)) (L_olderTimestamps : Fld Z h0 ly "com/example/palimpsest/palimpsest/CommitTimes$Layout" "olderTimestamps" "[J" (.ref ta)) (L_olderTimes : Fld Z h0 ly "com/example/palimpsest/palimpsest/CommitTimes$Layout" "olderTimes" "[J" (.ref ma)) (L_olderCount : Fld Z h0 ly "com/example/palimpsest/palimpsest/CommitTimes$Layout" "olderCount" "I" (.int oc)) (L_floor : Fld Z h0 ly "com/example/palimpsest/palimpsest/CommitTimes$Layout" "floor" "J" (.long fl)) (L_slots : Fld Z h0 ly "com/example/palimpsest/palimpsest/CommitTimes$Layout" "slots" "[J" (.ref sa)) (A_ta : AL Z h0 ta ol) (A_ma : AL Z h0 ma om) (A_sa : AL Z h0 sa sz) :
    Con l Z h0 (⟨"com/example/palimpsest/palimpsest/CommitTimes", "heapBytes", "()J"⟩ : MethodName) prog_7_method_6_code 2 (some .long) ws ({ frames := 0, cells := 0, slots := 0, locals := 0 } : Room) #[(.ref a1)] (fun v h L => v = some (.long ((8 : Int64) * (((sz + ol) + om).toInt64))) ∧ Fr Z.heap.size L ∧ h = h0) := by
  obtain ⟨S_NONE, E_NONE, V_NONE⟩ := id hS
  refine own_con (plainFor_of_name pn_977193) ?_
  intro p e s m below meth c T0 X0 hx hby hml hown hnm hret hlk hZ e0
  have hown : s.vm.findClass "com/example/palimpsest/palimpsest/CommitTimes" = some m.cls := hown
  have N0 := Fr.nil Z.heap.size
  refine Go.st (S' := T0.setTop (mkF m 0 #[sR a1, sU] [])) (fun _ k => castTop (ef_rmHB m a1) k) ?_
  refine Go.st (S' := T0.setTop (mkF m 1 #[sR a1, sU] [(.ref a1)])) (fun _ k => XS.aloadN X0.here hx rfl (hb hby d6_0) rfl rfl k) ?_
  obtain ⟨T135, X135, e135, st135⟩ := getF X0 hx hZ hown (host := "") (Or.inl (ww hw 35 rfl)) Via.refl e0 FL (g := (mkF m 1 #[sR a1, sU] [(.ref a1)])) rfl rfl (hb hby d6_1)
  refine Go.st (S' := T135.setTop (mkF m 4 #[sR a1, sU] [(.ref ly)])) st135 ?_
  refine Go.st (S' := T135.setTop (mkF m 5 #[sR a1, sR ly] [])) (fun _ k => XS.astoreN X135.here hx rfl (hb hby d6_4) rfl rfl (l' := #[sR a1, sR ly]) rfl k) ?_
  refine Go.st (S' := T135.setTop (mkF m 8 #[sR a1, sR ly] [(.long (8 : Int64))])) (X135.ldc2Long hx hown (mvT hZ (ww hw 47 rfl)) (g := (mkF m 5 #[sR a1, sR ly] [])) rfl (hb hby d6_5)) ?_
  refine Go.st (S' := T135.setTop (mkF m 9 #[sR a1, sR ly] [(.ref ly), (.long (8 : Int64))])) (fun _ k => XS.aloadN X135.here hx rfl (hb hby d6_8) rfl rfl k) ?_
  refine Go.st (S' := T135.setTop (mkF m 12 #[sR a1, sR ly] [(.ref sa), (.long (8 : Int64))])) (own_getFR X135 hx hZ hown (ww hw 48 rfl) e135 L_slots (g := (mkF m 9 #[sR a1, sR ly] [(.ref ly), (.long (8 : Int64))])) rfl rfl (hb hby d6_9)) ?_
  refine Go.st (S' := T135.setTop (mkF m 13 #[sR a1, sR ly] [(.int sz), (.long (8 : Int64))])) (own_alenA X135 hx hZ e135 A_sa (g := (mkF m 12 #[sR a1, sR ly] [(.ref sa), (.long (8 : Int64))])) rfl rfl (hb hby d6_12)) ?_
  refine Go.st (S' := T135.setTop (mkF m 14 #[sR a1, sR ly] [(.ref ly), (.int sz), (.long (8 : Int64))])) (fun _ k => XS.aloadN X135.here hx rfl (hb hby d6_13) rfl rfl k) ?_
  refine Go.st (S' := T135.setTop (mkF m 17 #[sR a1, sR ly] [(.ref ta), (.int sz), (.long (8 : Int64))])) (own_getFR X135 hx hZ hown (ww hw 49 rfl) e135 L_olderTimestamps (g := (mkF m 14 #[sR a1, sR ly] [(.ref ly), (.int sz), (.long (8 : Int64))])) rfl rfl (hb hby d6_14)) ?_
  refine Go.st (S' := T135.setTop (mkF m 18 #[sR a1, sR ly] [(.int ol), (.int sz), (.long (8 : Int64))])) (own_alenA X135 hx hZ e135 A_ta (g := (mkF m 17 #[sR a1, sR ly] [(.ref ta), (.int sz), (.long (8 : Int64))])) rfl rfl (hb hby d6_17)) ?_
  refine Go.st (S' := T135.setTop (mkF m 19 #[sR a1, sR ly] [(.int (sz + ol)), (.long (8 : Int64))])) (fun _ k => XS.iadd X135.here hx rfl (hb hby d6_18) rfl k) ?_
  refine Go.st (S' := T135.setTop (mkF m 20 #[sR a1, sR ly] [(.ref ly), (.int (sz + ol)), (.long (8 : Int64))])) (fun _ k => XS.aloadN X135.here hx rfl (hb hby d6_19) rfl rfl k) ?_
  refine Go.st (S' := T135.setTop (mkF m 23 #[sR a1, sR ly] [(.ref ma), (.int (sz + ol)), (.long (8 : Int64))])) (own_getFR X135 hx hZ hown (ww hw 50 rfl) e135 L_olderTimes (g := (mkF m 20 #[sR a1, sR ly] [(.ref ly), (.int (sz + ol)), (.long (8 : Int64))])) rfl rfl (hb hby d6_20)) ?_
  refine Go.st (S' := T135.setTop (mkF m 24 #[sR a1, sR ly] [(.int om), (.int (sz + ol)), (.long (8 : Int64))])) (own_alenA X135 hx hZ e135 A_ma (g := (mkF m 23 #[sR a1, sR ly] [(.ref ma), (.int (sz + ol)), (.long (8 : Int64))])) rfl rfl (hb hby d6_23)) ?_
  refine Go.st (S' := T135.setTop (mkF m 25 #[sR a1, sR ly] [(.int ((sz + ol) + om)), (.long (8 : Int64))])) (fun _ k => XS.iadd X135.here hx rfl (hb hby d6_24) rfl k) ?_
  refine Go.st (S' := T135.setTop (mkF m 26 #[sR a1, sR ly] [(.long (((sz + ol) + om).toInt64)), (.long (8 : Int64))])) (fun _ k => XS.i2l X135.here hx rfl (hb hby d6_25) rfl k) ?_
  refine Go.st (S' := T135.setTop (mkF m 27 #[sR a1, sR ly] [(.long ((8 : Int64) * (((sz + ol) + om).toInt64)))])) (fun _ k => XS.lmul X135.here hx rfl (hb hby d6_26) rfl k) ?_
  exact own_retJ X135 hx hlk hret (hb hby d6_27) e135 ⟨rfl, N0, rfl⟩ (by decide) (by decide)
theorem pd_502958 : parseMethodDescriptor "(Lcom/example/palimpsest/palimpsest/CommitTimes;JIJ)V" = some ⟨[(.object "com/example/palimpsest/palimpsest/CommitTimes"), .long, .int, .long], none⟩ := by decide +kernel
theorem pd_428474 : parseMethodDescriptor "()J" = some ⟨[], some .long⟩ := by decide +kernel
theorem pd_674828 : parseMethodDescriptor "(I)I" = some ⟨[.int], some .int⟩ := by decide +kernel
theorem ef_rm0 (m : MethodId) (x0 : Int32) (x1 : Int64) (x2 : Int64) (x3 : Int64) (x4 : Int64) : entryFrame m #[(.int x0), (.long x1), (.long x2), (.long x3), (.long x4)] maxLocals = mkF m 0 #[sI x0, sJ x1, sS, sJ x2, sS, sJ x3, sS, sJ x4, sS, sU, sU, sU, sU, sU, sU, sU, sU, sU, sU, sU, sU, sU, sU, sU, sU, sU, sU, sU, sU, sU, sU, sU, sU, sU, sU, sU, sU] [] := by first | (simp [entryFrame, mkF, argsToLocals, Value.category, maxLocals]; done) | rfl
/-- what a walk in this body knows of its frame -/
def CX0 (p : Program) (s : State) (m : MethodId) (meth : Method) (c : Code) (Z : State) : Prop := p.tables.exec = Jvm.exec ∧ c.code = code ∧ c.maxLocals = maxLocals ∧ s.vm.findClass "com/example/palimpsest/palimpsest/CommitTimesHeapBytesPinLaw" = some m.cls ∧ meth.name = "law" ∧ meth.sig.returnType = ret ∧ meth.locks = false ∧ Z.Warmed39 s.vm
set_option maxRecDepth 65536 in
set_option maxHeartbeats 400000000 in
theorem rZ (l : Launch) (Z : State) (a0 : Array Value) (hw : ∀ d ∈ tables_1, d.before a0 Z = true) (w_NONE : Addr) (k_NONE : ClassId) (hS : SF Z w_NONE k_NONE) (p1 : Int32) (q2 : Int64) (q3 : Int64) (q4 : Int64) (q5 : Int64) (p : Program) (e : Env) (s : State) (m : MethodId) (below : List Frame) (meth : Method) (c : Code) (hC : CX0 p s m meth c Z) (Tj : State) (lj : List Loc) (hj : Heap) (Xj : Stand p l e room_1 s m #[(.int p1), (.long q2), (.long q3), (.long q4), (.long q5)] below meth c Tj lj 40 150) (ej : Tj.heap = hj) (Nj : Fr Z.heap.size lj) (Oj : Ext Z.heap hj) (n1 n2 t3 tr : Int32) (s1 g2 g3 lw s2 s3 : Int64) (act : Int64) (ct : Addr)  (hact : act = expF n1 n2 t3 tr) :
    Go p e below (Ret s (fun v h L => v = some (.int 1) ∧ Fr Z.heap.size L) room_1.cells room_1.slots) (Tj.setTop (mkF m 181 #[sI p1, sJ q2, sS, sJ q3, sS, sJ q4, sS, sJ q5, sS, sI n1, sI n2, sI t3, sI tr, sJ s1, sS, sJ g2, sS, sJ g3, sS, sR ct, sJ lw, sS, sJ s2, sS, sJ s3, sS, sU, sU, sU, sU, sU, sU, sU, sU, sU, sU, sU] [(.long act)])) := by
  obtain ⟨S_NONE, E_NONE, V_NONE⟩ := id hS
  obtain ⟨hx, hby, hml, hown, hnm, hret, hlk, hZ⟩ := id hC
  refine Go.st (fun _ k => XS.lstore Xj.here hx rfl (hb hby at_181) rfl (l' := #[sI p1, sJ q2, sS, sJ q3, sS, sJ q4, sS, sJ q5, sS, sI n1, sI n2, sI t3, sI tr, sJ s1, sS, sJ g2, sS, sJ g3, sS, sR ct, sJ lw, sS, sJ s2, sS, sJ s3, sS, sJ act, sS, sU, sU, sU, sU, sU, sU, sU, sU, sU]) rfl k) ?_
  refine Go.st (fun _ k => XS.iconst Xj.here hx rfl (hb hby at_183) k) ?_
  refine Go.st (fun _ k => XS.istore Xj.here hx rfl (hb hby at_184) rfl (l' := #[sI p1, sJ q2, sS, sJ q3, sS, sJ q4, sS, sJ q5, sS, sI n1, sI n2, sI t3, sI tr, sJ s1, sS, sJ g2, sS, sJ g3, sS, sR ct, sJ lw, sS, sJ s2, sS, sJ s3, sS, sJ act, sS, sI 0, sU, sU, sU, sU, sU, sU, sU, sU]) rfl k) ?_
  refine Go.st (fun _ k => XS.iconst Xj.here hx rfl (hb hby at_186) k) ?_
  refine Go.st (fun _ k => XS.istore Xj.here hx rfl (hb hby at_187) rfl (l' := #[sI p1, sJ q2, sS, sJ q3, sS, sJ q4, sS, sJ q5, sS, sI n1, sI n2, sI t3, sI tr, sJ s1, sS, sJ g2, sS, sJ g3, sS, sR ct, sJ lw, sS, sJ s2, sS, sJ s3, sS, sJ act, sS, sI 0, sI 0, sU, sU, sU, sU, sU, sU, sU]) rfl k) ?_
  refine Go.st (fun _ k => XS.iconst Xj.here hx rfl (hb hby at_189) k) ?_
  refine Go.st (S' := Tj.setTop (mkF m 192 #[sI p1, sJ q2, sS, sJ q3, sS, sJ q4, sS, sJ q5, sS, sI n1, sI n2, sI t3, sI tr, sJ s1, sS, sJ g2, sS, sJ g3, sS, sR ct, sJ lw, sS, sJ s2, sS, sJ s3, sS, sJ act, sS, sI 0, sI 0, sI 0, sU, sU, sU, sU, sU, sU] [])) (fun _ k => XS.istore Xj.here hx rfl (hb hby at_190) rfl (l' := #[sI p1, sJ q2, sS, sJ q3, sS, sJ q4, sS, sJ q5, sS, sI n1, sI n2, sI t3, sI tr, sJ s1, sS, sJ g2, sS, sJ g3, sS, sR ct, sJ lw, sS, sJ s2, sS, sJ s3, sS, sJ act, sS, sI 0, sI 0, sI 0, sU, sU, sU, sU, sU, sU]) rfl k) ?_
  refine Go.st (fun _ k => XS.iconst Xj.here hx rfl (hb hby at_192) k) ?_
  refine Go.st (fun _ k => XS.istore Xj.here hx rfl (hb hby at_193) rfl (l' := #[sI p1, sJ q2, sS, sJ q3, sS, sJ q4, sS, sJ q5, sS, sI n1, sI n2, sI t3, sI tr, sJ s1, sS, sJ g2, sS, sJ g3, sS, sR ct, sJ lw, sS, sJ s2, sS, sJ s3, sS, sJ act, sS, sI 0, sI 0, sI 0, sI 0, sU, sU, sU, sU, sU]) rfl k) ?_
  refine Go.st (S' := Tj.setTop (mkF m 197 #[sI p1, sJ q2, sS, sJ q3, sS, sJ q4, sS, sJ q5, sS, sI n1, sI n2, sI t3, sI tr, sJ s1, sS, sJ g2, sS, sJ g3, sS, sR ct, sJ lw, sS, sJ s2, sS, sJ s3, sS, sJ act, sS, sI 0, sI 0, sI 0, sI 0, sU, sU, sU, sU, sU] [(.int n1)])) (fun _ k => XS.iload Xj.here hx rfl (hb hby at_195) rfl k) ?_
  by_cases hc197 : (0 : Int32) < n1
  · refine Go.st (fun _ k => XS.ifNo Xj.here hx rfl (hb hby at_197) rfl ((if0 _ _).trans (tlt hc197).2.2.2) k) ?_
    refine Go.st (fun _ k => XS.iload Xj.here hx rfl (hb hby at_200) rfl k) ?_
    refine Go.st (fun _ k => XS.istore Xj.here hx rfl (hb hby at_202) rfl (l' := #[sI p1, sJ q2, sS, sJ q3, sS, sJ q4, sS, sJ q5, sS, sI n1, sI n2, sI t3, sI tr, sJ s1, sS, sJ g2, sS, sJ g3, sS, sR ct, sJ lw, sS, sJ s2, sS, sJ s3, sS, sJ act, sS, sI n1, sI 0, sI 0, sI 0, sU, sU, sU, sU, sU]) rfl k) ?_
    refine Go.st (fun _ k => XS.iconst Xj.here hx rfl (hb hby at_204) k) ?_
    refine Go.st (fun _ k => XS.istore Xj.here hx rfl (hb hby at_205) rfl (l' := #[sI p1, sJ q2, sS, sJ q3, sS, sJ q4, sS, sJ q5, sS, sI n1, sI n2, sI t3, sI tr, sJ s1, sS, sJ g2, sS, sJ g3, sS, sR ct, sJ lw, sS, sJ s2, sS, sJ s3, sS, sJ act, sS, sI n1, sI 0, sI 0, sI 1, sU, sU, sU, sU, sU]) rfl k) ?_
    refine Go.st (S' := Tj.setTop (mkF m 209 #[sI p1, sJ q2, sS, sJ q3, sS, sJ q4, sS, sJ q5, sS, sI n1, sI n2, sI t3, sI tr, sJ s1, sS, sJ g2, sS, sJ g3, sS, sR ct, sJ lw, sS, sJ s2, sS, sJ s3, sS, sJ act, sS, sI n1, sI 0, sI 0, sI 1, sU, sU, sU, sU, sU] [(.int n2)])) (fun _ k => XS.iload Xj.here hx rfl (hb hby at_207) rfl k) ?_
    by_cases hc209 : (0 : Int32) < n2
    · refine Go.st (fun _ k => XS.ifNo Xj.here hx rfl (hb hby at_209) rfl ((if0 _ _).trans (tlt hc209).2.2.2) k) ?_
      refine Go.st (S' := Tj.setTop (mkF m 214 #[sI p1, sJ q2, sS, sJ q3, sS, sJ q4, sS, sJ q5, sS, sI n1, sI n2, sI t3, sI tr, sJ s1, sS, sJ g2, sS, sJ g3, sS, sR ct, sJ lw, sS, sJ s2, sS, sJ s3, sS, sJ act, sS, sI n1, sI 0, sI 0, sI 1, sU, sU, sU, sU, sU] [(.int (1 : Int32))])) (fun _ k => XS.iload Xj.here hx rfl (hb hby at_212) rfl k) ?_
      refine Go.st (fun _ k => XS.ifYes Xj.here hx rfl (pc0 := 214) (pc' := 224) rfl (hb hby at_214) rfl ((if0 _ _).trans (feq (by decide)).2) (by decide) (by decide) k) ?_
      refine Go.st (fun _ k => XS.iload Xj.here hx rfl (hb hby at_224) rfl k) ?_
      refine Go.st (fun _ k => XS.istore Xj.here hx rfl (hb hby at_226) rfl (l' := #[sI p1, sJ q2, sS, sJ q3, sS, sJ q4, sS, sJ q5, sS, sI n1, sI n2, sI t3, sI tr, sJ s1, sS, sJ g2, sS, sJ g3, sS, sR ct, sJ lw, sS, sJ s2, sS, sJ s3, sS, sJ act, sS, sI n1, sI n2, sI 0, sI 1, sU, sU, sU, sU, sU]) rfl k) ?_
      refine Go.st (fun _ k => XS.iload Xj.here hx rfl (hb hby at_228) rfl k) ?_
      refine Go.st (fun _ k => XS.iconst Xj.here hx rfl (hb hby at_230) k) ?_
      refine Go.st (fun _ k => XS.iadd Xj.here hx rfl (hb hby at_231) rfl k) ?_
      refine Go.st (S' := Tj.setTop (mkF m 234 #[sI p1, sJ q2, sS, sJ q3, sS, sJ q4, sS, sJ q5, sS, sI n1, sI n2, sI t3, sI tr, sJ s1, sS, sJ g2, sS, sJ g3, sS, sR ct, sJ lw, sS, sJ s2, sS, sJ s3, sS, sJ act, sS, sI n1, sI n2, sI 0, sI 2, sU, sU, sU, sU, sU] [])) (fun _ k => XS.istore Xj.here hx rfl (hb hby at_232) rfl (l' := #[sI p1, sJ q2, sS, sJ q3, sS, sJ q4, sS, sJ q5, sS, sI n1, sI n2, sI t3, sI tr, sJ s1, sS, sJ g2, sS, sJ g3, sS, sR ct, sJ lw, sS, sJ s2, sS, sJ s3, sS, sJ act, sS, sI n1, sI n2, sI 0, sI 2, sU, sU, sU, sU, sU]) rfl k) ?_
      refine Go.st (S' := Tj.setTop (mkF m 236 #[sI p1, sJ q2, sS, sJ q3, sS, sJ q4, sS, sJ q5, sS, sI n1, sI n2, sI t3, sI tr, sJ s1, sS, sJ g2, sS, sJ g3, sS, sR ct, sJ lw, sS, sJ s2, sS, sJ s3, sS, sJ act, sS, sI n1, sI n2, sI 0, sI 2, sU, sU, sU, sU, sU] [(.int t3)])) (fun _ k => XS.iload Xj.here hx rfl (hb hby at_234) rfl k) ?_
      by_cases hc236 : t3 = (0 : Int32)
      · refine Go.st (fun _ k => XS.ifYes Xj.here hx rfl (pc0 := 236) (pc' := 271) rfl (hb hby at_236) rfl ((if0 _ _).trans (teq hc236).1) (by decide) (by decide) k) ?_
        refine Go.st (S' := Tj.setTop (mkF m 273 #[sI p1, sJ q2, sS, sJ q3, sS, sJ q4, sS, sJ q5, sS, sI n1, sI n2, sI t3, sI tr, sJ s1, sS, sJ g2, sS, sJ g3, sS, sR ct, sJ lw, sS, sJ s2, sS, sJ s3, sS, sJ act, sS, sI n1, sI n2, sI 0, sI 2, sU, sU, sU, sU, sU] [(.int (2 : Int32))])) (fun _ k => XS.iload Xj.here hx rfl (hb hby at_271) rfl k) ?_
        refine Go.st (fun _ k => XS.ifYes Xj.here hx rfl (pc0 := 273) (pc' := 280) rfl (hb hby at_273) rfl ((if0 _ _).trans (feq (by decide)).2) (by decide) (by decide) k) ?_
        refine Go.st (fun _ k => XS.iload Xj.here hx rfl (hb hby at_280) rfl k) ?_
        refine Go.st (S' := Tj.setTop (mkF m 283 #[sI p1, sJ q2, sS, sJ q3, sS, sJ q4, sS, sJ q5, sS, sI n1, sI n2, sI t3, sI tr, sJ s1, sS, sJ g2, sS, sJ g3, sS, sR ct, sJ lw, sS, sJ s2, sS, sJ s3, sS, sJ act, sS, sI n1, sI n2, sI 0, sI 2, sU, sU, sU, sU, sU] [(.int (1 : Int32)), (.int (2 : Int32))])) (fun _ k => XS.iconst Xj.here hx rfl (hb hby at_282) k) ?_
        refine Go.st (fun _ k => XS.icmpYes Xj.here hx rfl (pc0 := 283) (pc' := 291) rfl (hb hby at_283) rfl (feq (by decide)).2 (by decide) (by decide) k) ?_
        refine Go.st (fun _ k => XS.iload Xj.here hx rfl (hb hby at_291) rfl k) ?_
        refine Go.st (S' := Tj.setTop (mkF m 294 #[sI p1, sJ q2, sS, sJ q3, sS, sJ q4, sS, sJ q5, sS, sI n1, sI n2, sI t3, sI tr, sJ s1, sS, sJ g2, sS, sJ g3, sS, sR ct, sJ lw, sS, sJ s2, sS, sJ s3, sS, sJ act, sS, sI n1, sI n2, sI 0, sI 2, sU, sU, sU, sU, sU] [(.int (2 : Int32)), (.int (2 : Int32))])) (fun _ k => XS.iconst Xj.here hx rfl (hb hby at_293) k) ?_
        refine Go.st (fun _ k => XS.icmpNo Xj.here hx rfl (hb hby at_294) rfl (teq (by decide)).2 k) ?_
        refine Go.st (fun _ k => XS.iload Xj.here hx rfl (hb hby at_297) rfl k) ?_
        refine Go.st (fun _ k => XS.goto Xj.here hx rfl (pc0 := 299) (pc' := 304) rfl (hb hby at_299) (by decide) (by decide) k) ?_
        refine Go.st (fun _ k => XS.istore Xj.here hx rfl (hb hby at_304) rfl (l' := #[sI p1, sJ q2, sS, sJ q3, sS, sJ q4, sS, sJ q5, sS, sI n1, sI n2, sI t3, sI tr, sJ s1, sS, sJ g2, sS, sJ g3, sS, sR ct, sJ lw, sS, sJ s2, sS, sJ s3, sS, sJ act, sS, sI n1, sI n2, sI 0, sI 2, sI n2, sU, sU, sU, sU]) rfl k) ?_
        refine Go.st (fun _ k => XS.iload Xj.here hx rfl (hb hby at_306) rfl k) ?_
        refine Go.st (S' := Tj.setTop (mkF m 309 #[sI p1, sJ q2, sS, sJ q3, sS, sJ q4, sS, sJ q5, sS, sI n1, sI n2, sI t3, sI tr, sJ s1, sS, sJ g2, sS, sJ g3, sS, sR ct, sJ lw, sS, sJ s2, sS, sJ s3, sS, sJ act, sS, sI n1, sI n2, sI 0, sI 2, sI n2, sU, sU, sU, sU] [(.int (1 : Int32)), (.int (2 : Int32))])) (fun _ k => XS.iconst Xj.here hx rfl (hb hby at_308) k) ?_
        refine Go.st (fun _ k => XS.icmpYes Xj.here hx rfl (pc0 := 309) (pc' := 316) rfl (hb hby at_309) rfl (tlt (by decide)).2.2.1 (by decide) (by decide) k) ?_
        refine Go.st (fun _ k => XS.iload Xj.here hx rfl (hb hby at_316) rfl k) ?_
        refine Go.st (S' := Tj.setTop (mkF m 319 #[sI p1, sJ q2, sS, sJ q3, sS, sJ q4, sS, sJ q5, sS, sI n1, sI n2, sI t3, sI tr, sJ s1, sS, sJ g2, sS, sJ g3, sS, sR ct, sJ lw, sS, sJ s2, sS, sJ s3, sS, sJ act, sS, sI n1, sI n2, sI 0, sI 2, sI n2, sU, sU, sU, sU] [(.int (2 : Int32)), (.int (2 : Int32))])) (fun _ k => XS.iconst Xj.here hx rfl (hb hby at_318) k) ?_
        refine Go.st (fun _ k => XS.icmpNo Xj.here hx rfl (hb hby at_319) rfl (teq (by decide)).2 k) ?_
        refine Go.st (fun _ k => XS.iload Xj.here hx rfl (hb hby at_322) rfl k) ?_
        refine Go.st (fun _ k => XS.goto Xj.here hx rfl (pc0 := 324) (pc' := 332) rfl (hb hby at_324) (by decide) (by decide) k) ?_
        refine Go.st (fun _ k => XS.istore Xj.here hx rfl (hb hby at_332) rfl (l' := #[sI p1, sJ q2, sS, sJ q3, sS, sJ q4, sS, sJ q5, sS, sI n1, sI n2, sI t3, sI tr, sJ s1, sS, sJ g2, sS, sJ g3, sS, sR ct, sJ lw, sS, sJ s2, sS, sJ s3, sS, sJ act, sS, sI n1, sI n2, sI 0, sI 2, sI n2, sI n1, sU, sU, sU]) rfl k) ?_
        refine Go.st (fun _ k => XS.iload Xj.here hx rfl (hb hby at_334) rfl k) ?_
        refine Go.st (S' := Tj.setTop (mkF m 337 #[sI p1, sJ q2, sS, sJ q3, sS, sJ q4, sS, sJ q5, sS, sI n1, sI n2, sI t3, sI tr, sJ s1, sS, sJ g2, sS, sJ g3, sS, sR ct, sJ lw, sS, sJ s2, sS, sJ s3, sS, sJ act, sS, sI n1, sI n2, sI 0, sI 2, sI n2, sI n1, sU, sU, sU] [(.int (1 : Int32)), (.int (2 : Int32))])) (fun _ k => XS.iconst Xj.here hx rfl (hb hby at_336) k) ?_
        refine Go.st (fun _ k => XS.icmpYes Xj.here hx rfl (pc0 := 337) (pc' := 344) rfl (hb hby at_337) rfl (tlt (by decide)).2.2.1 (by decide) (by decide) k) ?_
        refine Go.st (fun _ k => XS.iload Xj.here hx rfl (hb hby at_344) rfl k) ?_
        refine Go.st (S' := Tj.setTop (mkF m 347 #[sI p1, sJ q2, sS, sJ q3, sS, sJ q4, sS, sJ q5, sS, sI n1, sI n2, sI t3, sI tr, sJ s1, sS, sJ g2, sS, sJ g3, sS, sR ct, sJ lw, sS, sJ s2, sS, sJ s3, sS, sJ act, sS, sI n1, sI n2, sI 0, sI 2, sI n2, sI n1, sU, sU, sU] [(.int (2 : Int32)), (.int (2 : Int32))])) (fun _ k => XS.iconst Xj.here hx rfl (hb hby at_346) k) ?_
        refine Go.st (fun _ k => XS.icmpNo Xj.here hx rfl (hb hby at_347) rfl (teq (by decide)).2 k) ?_
        refine Go.st (fun _ k => XS.iload Xj.here hx rfl (hb hby at_350) rfl k) ?_
        refine Go.st (fun _ k => XS.goto Xj.here hx rfl (pc0 := 352) (pc' := 367) rfl (hb hby at_352) (by decide) (by decide) k) ?_
        refine Go.st (fun _ k => XS.istore Xj.here hx rfl (hb hby at_367) rfl (l' := #[sI p1, sJ q2, sS, sJ q3, sS, sJ q4, sS, sJ q5, sS, sI n1, sI n2, sI t3, sI tr, sJ s1, sS, sJ g2, sS, sJ g3, sS, sR ct, sJ lw, sS, sJ s2, sS, sJ s3, sS, sJ act, sS, sI n1, sI n2, sI 0, sI 2, sI n2, sI n1, sI n1, sU, sU]) rfl k) ?_
        refine Go.st (S' := Tj.setTop (mkF m 371 #[sI p1, sJ q2, sS, sJ q3, sS, sJ q4, sS, sJ q5, sS, sI n1, sI n2, sI t3, sI tr, sJ s1, sS, sJ g2, sS, sJ g3, sS, sR ct, sJ lw, sS, sJ s2, sS, sJ s3, sS, sJ act, sS, sI n1, sI n2, sI 0, sI 2, sI n2, sI n1, sI n1, sU, sU] [(.int tr)])) (fun _ k => XS.iload Xj.here hx rfl (hb hby at_369) rfl k) ?_
        by_cases hc371 : tr = (0 : Int32)
        · refine Go.st (S' := Tj.setTop (mkF m 394 #[sI p1, sJ q2, sS, sJ q3, sS, sJ q4, sS, sJ q5, sS, sI n1, sI n2, sI t3, sI tr, sJ s1, sS, sJ g2, sS, sJ g3, sS, sR ct, sJ lw, sS, sJ s2, sS, sJ s3, sS, sJ act, sS, sI n1, sI n2, sI 0, sI 2, sI n2, sI n1, sI n1, sU, sU] [])) (fun _ k => XS.ifYes Xj.here hx rfl (pc0 := 371) (pc' := 394) rfl (hb hby at_371) rfl ((if0 _ _).trans (teq hc371).1) (by decide) (by decide) k) ?_
          refine Go.st (S' := Tj.setTop (mkF m 397 #[sI p1, sJ q2, sS, sJ q3, sS, sJ q4, sS, sJ q5, sS, sI n1, sI n2, sI t3, sI tr, sJ s1, sS, sJ g2, sS, sJ g3, sS, sR ct, sJ lw, sS, sJ s2, sS, sJ s3, sS, sJ act, sS, sI n1, sI n2, sI 0, sI 2, sI n2, sI n1, sI n1, sU, sU] [(.long (8 : Int64))])) (Xj.ldc2Long hx hown (mvT hZ (ww hw 51 rfl)) (g := (mkF m 394 #[sI p1, sJ q2, sS, sJ q3, sS, sJ q4, sS, sJ q5, sS, sI n1, sI n2, sI t3, sI tr, sJ s1, sS, sJ g2, sS, sJ g3, sS, sR ct, sJ lw, sS, sJ s2, sS, sJ s3, sS, sJ act, sS, sI n1, sI n2, sI 0, sI 2, sI n2, sI n1, sI n1, sU, sU] [])) rfl (hb hby at_394)) ?_
          refine Go.st (S' := Tj.setTop (mkF m 399 #[sI p1, sJ q2, sS, sJ q3, sS, sJ q4, sS, sJ q5, sS, sI n1, sI n2, sI t3, sI tr, sJ s1, sS, sJ g2, sS, sJ g3, sS, sR ct, sJ lw, sS, sJ s2, sS, sJ s3, sS, sJ act, sS, sI n1, sI n2, sI 0, sI 2, sI n2, sI n1, sI n1, sU, sU] [(.int n2), (.long (8 : Int64))])) (fun _ k => XS.iload Xj.here hx rfl (hb hby at_397) rfl k) ?_
          obtain ⟨_, T147, L147, X147, ⟨rfl, Nq147, eq147⟩, st147⟩ := own_callS Xj hx hZ hown (ww hw 52 rfl) (ww hw 53 rfl) (ww hw 39 rfl) (ww hw 54 rfl) (by decide) ej (rmRoom l Z a0 hw [] w_NONE k_NONE hS n2 hj Oj) 2 (by decide) (by decide) (by decide) (by decide) (g := (mkF m 399 #[sI p1, sJ q2, sS, sJ q3, sS, sJ q4, sS, sJ q5, sS, sI n1, sI n2, sI t3, sI tr, sJ s1, sS, sJ g2, sS, sJ g3, sS, sR ct, sJ lw, sS, sJ s2, sS, sJ s3, sS, sJ act, sS, sI n1, sI n2, sI 0, sI 2, sI n2, sI n1, sI n1, sU, sU] [(.int n2), (.long (8 : Int64))])) rfl (by rw [hml]; rfl) [(.int n2)] [(.long (8 : Int64))] rfl (lenOf pd_674828 rfl) rfl (by show 2 * 0 + _ ≤ _; exact Nat.le_of_eq rfl) (hb hby at_399)
          have N147 := Fr.app Nj Nq147
          refine Go.st (S' := T147.setTop (mkF m 402 #[sI p1, sJ q2, sS, sJ q3, sS, sJ q4, sS, sJ q5, sS, sI n1, sI n2, sI t3, sI tr, sJ s1, sS, sJ g2, sS, sJ g3, sS, sR ct, sJ lw, sS, sJ s2, sS, sJ s3, sS, sJ act, sS, sI n1, sI n2, sI 0, sI 2, sI n2, sI n1, sI n1, sU, sU] [(.int (roomF n2)), (.long (8 : Int64))])) st147 ?_
          refine Go.st (fun _ k => XS.i2l X147.here hx rfl (hb hby at_402) rfl k) ?_
          refine Go.st (S' := T147.setTop (mkF m 404 #[sI p1, sJ q2, sS, sJ q3, sS, sJ q4, sS, sJ q5, sS, sI n1, sI n2, sI t3, sI tr, sJ s1, sS, sJ g2, sS, sJ g3, sS, sR ct, sJ lw, sS, sJ s2, sS, sJ s3, sS, sJ act, sS, sI n1, sI n2, sI 0, sI 2, sI n2, sI n1, sI n1, sU, sU] [(.long ((8 : Int64) * ((roomF n2).toInt64)))])) (fun _ k => XS.lmul X147.here hx rfl (hb hby at_403) rfl k) ?_
          refine Go.st (S' := T147.setTop (mkF m 407 #[sI p1, sJ q2, sS, sJ q3, sS, sJ q4, sS, sJ q5, sS, sI n1, sI n2, sI t3, sI tr, sJ s1, sS, sJ g2, sS, sJ g3, sS, sR ct, sJ lw, sS, sJ s2, sS, sJ s3, sS, sJ act, sS, sI n1, sI n2, sI 0, sI 2, sI n2, sI n1, sI n1, sU, sU] [(.long (16 : Int64)), (.long ((8 : Int64) * ((roomF n2).toInt64)))])) (X147.ldc2Long hx hown (mvT hZ (ww hw 55 rfl)) (g := (mkF m 404 #[sI p1, sJ q2, sS, sJ q3, sS, sJ q4, sS, sJ q5, sS, sI n1, sI n2, sI t3, sI tr, sJ s1, sS, sJ g2, sS, sJ g3, sS, sR ct, sJ lw, sS, sJ s2, sS, sJ s3, sS, sJ act, sS, sI n1, sI n2, sI 0, sI 2, sI n2, sI n1, sI n1, sU, sU] [(.long ((8 : Int64) * ((roomF n2).toInt64)))])) rfl (hb hby at_404)) ?_
          refine Go.st (fun _ k => XS.iload X147.here hx rfl (hb hby at_407) rfl k) ?_
          refine Go.st (fun _ k => XS.i2l X147.here hx rfl (hb hby at_409) rfl k) ?_
          refine Go.st (fun _ k => XS.lmul X147.here hx rfl (hb hby at_410) rfl k) ?_
          refine Go.st (fun _ k => XS.ladd X147.here hx rfl (hb hby at_411) rfl k) ?_
          refine Go.st (fun _ k => XS.lstore X147.here hx rfl (hb hby at_412) rfl (l' := #[sI p1, sJ q2, sS, sJ q3, sS, sJ q4, sS, sJ q5, sS, sI n1, sI n2, sI t3, sI tr, sJ s1, sS, sJ g2, sS, sJ g3, sS, sR ct, sJ lw, sS, sJ s2, sS, sJ s3, sS, sJ act, sS, sI n1, sI n2, sI 0, sI 2, sI n2, sI n1, sI n1, sJ (((8 : Int64) * ((roomF n2).toInt64)) + ((16 : Int64) * (n1.toInt64))), sS]) rfl k) ?_
          refine Go.st (fun _ k => XS.lload X147.here hx rfl (hb hby at_414) rfl k) ?_
          refine Go.st (S' := T147.setTop (mkF m 418 #[sI p1, sJ q2, sS, sJ q3, sS, sJ q4, sS, sJ q5, sS, sI n1, sI n2, sI t3, sI tr, sJ s1, sS, sJ g2, sS, sJ g3, sS, sR ct, sJ lw, sS, sJ s2, sS, sJ s3, sS, sJ act, sS, sI n1, sI n2, sI 0, sI 2, sI n2, sI n1, sI n1, sJ (((8 : Int64) * ((roomF n2).toInt64)) + ((16 : Int64) * (n1.toInt64))), sS] [(.long (((8 : Int64) * ((roomF n2).toInt64)) + ((16 : Int64) * (n1.toInt64)))), (.long act)])) (fun _ k => XS.lload X147.here hx rfl (hb hby at_416) rfl k) ?_
          refine Go.st (S' := T147.setTop (mkF m 419 #[sI p1, sJ q2, sS, sJ q3, sS, sJ q4, sS, sJ q5, sS, sI n1, sI n2, sI t3, sI tr, sJ s1, sS, sJ g2, sS, sJ g3, sS, sR ct, sJ lw, sS, sJ s2, sS, sJ s3, sS, sJ act, sS, sI n1, sI n2, sI 0, sI 2, sI n2, sI n1, sI n1, sJ (((8 : Int64) * ((roomF n2).toInt64)) + ((16 : Int64) * (n1.toInt64))), sS] [(.int (lcmpW act (((8 : Int64) * ((roomF n2).toInt64)) + ((16 : Int64) * (n1.toInt64)))))])) (fun _ k => XS.lcmp X147.here hx rfl (hb hby at_418) rfl k) ?_
          refine Go.st (fun _ k => XS.ifNo X147.here hx rfl (hb hby at_419) rfl (own_Leq (by rw [hact]; simp only [expF, curF, ocF, olF, hc197, hc209, hc236, hc371, if_true, if_false] <;> first | rfl | decide)).2 k) ?_
          refine Go.st (fun _ k => XS.iconst X147.here hx rfl (hb hby at_422) k) ?_
          refine Go.st (S' := T147.setTop (mkF m 427 #[sI p1, sJ q2, sS, sJ q3, sS, sJ q4, sS, sJ q5, sS, sI n1, sI n2, sI t3, sI tr, sJ s1, sS, sJ g2, sS, sJ g3, sS, sR ct, sJ lw, sS, sJ s2, sS, sJ s3, sS, sJ act, sS, sI n1, sI n2, sI 0, sI 2, sI n2, sI n1, sI n1, sJ (((8 : Int64) * ((roomF n2).toInt64)) + ((16 : Int64) * (n1.toInt64))), sS] [(.int (1 : Int32))])) (fun _ k => XS.goto X147.here hx rfl (pc0 := 423) (pc' := 427) rfl (hb hby at_423) (by decide) (by decide) k) ?_
          exact own_retN X147 hx hlk hret (by simp) (hb hby at_427) eq147 ⟨rfl, N147⟩ (by decide) (by decide)
        · refine Go.st (S' := Tj.setTop (mkF m 374 #[sI p1, sJ q2, sS, sJ q3, sS, sJ q4, sS, sJ q5, sS, sI n1, sI n2, sI t3, sI tr, sJ s1, sS, sJ g2, sS, sJ g3, sS, sR ct, sJ lw, sS, sJ s2, sS, sJ s3, sS, sJ act, sS, sI n1, sI n2, sI 0, sI 2, sI n2, sI n1, sI n1, sU, sU] [])) (fun _ k => XS.ifNo Xj.here hx rfl (hb hby at_371) rfl ((if0 _ _).trans (feq hc371).1) k) ?_
          refine Go.st (S' := Tj.setTop (mkF m 377 #[sI p1, sJ q2, sS, sJ q3, sS, sJ q4, sS, sJ q5, sS, sI n1, sI n2, sI t3, sI tr, sJ s1, sS, sJ g2, sS, sJ g3, sS, sR ct, sJ lw, sS, sJ s2, sS, sJ s3, sS, sJ act, sS, sI n1, sI n2, sI 0, sI 2, sI n2, sI n1, sI n1, sU, sU] [(.long (8 : Int64))])) (Xj.ldc2Long hx hown (mvT hZ (ww hw 51 rfl)) (g := (mkF m 374 #[sI p1, sJ q2, sS, sJ q3, sS, sJ q4, sS, sJ q5, sS, sI n1, sI n2, sI t3, sI tr, sJ s1, sS, sJ g2, sS, sJ g3, sS, sR ct, sJ lw, sS, sJ s2, sS, sJ s3, sS, sJ act, sS, sI n1, sI n2, sI 0, sI 2, sI n2, sI n1, sI n1, sU, sU] [])) rfl (hb hby at_374)) ?_
          refine Go.st (fun _ k => XS.iload Xj.here hx rfl (hb hby at_377) rfl k) ?_
          refine Go.st (fun _ k => XS.i2l Xj.here hx rfl (hb hby at_379) rfl k) ?_
          refine Go.st (S' := Tj.setTop (mkF m 381 #[sI p1, sJ q2, sS, sJ q3, sS, sJ q4, sS, sJ q5, sS, sI n1, sI n2, sI t3, sI tr, sJ s1, sS, sJ g2, sS, sJ g3, sS, sR ct, sJ lw, sS, sJ s2, sS, sJ s3, sS, sJ act, sS, sI n1, sI n2, sI 0, sI 2, sI n2, sI n1, sI n1, sU, sU] [(.long ((8 : Int64) * (n2.toInt64)))])) (fun _ k => XS.lmul Xj.here hx rfl (hb hby at_380) rfl k) ?_
          refine Go.st (S' := Tj.setTop (mkF m 384 #[sI p1, sJ q2, sS, sJ q3, sS, sJ q4, sS, sJ q5, sS, sI n1, sI n2, sI t3, sI tr, sJ s1, sS, sJ g2, sS, sJ g3, sS, sR ct, sJ lw, sS, sJ s2, sS, sJ s3, sS, sJ act, sS, sI n1, sI n2, sI 0, sI 2, sI n2, sI n1, sI n1, sU, sU] [(.long (16 : Int64)), (.long ((8 : Int64) * (n2.toInt64)))])) (Xj.ldc2Long hx hown (mvT hZ (ww hw 55 rfl)) (g := (mkF m 381 #[sI p1, sJ q2, sS, sJ q3, sS, sJ q4, sS, sJ q5, sS, sI n1, sI n2, sI t3, sI tr, sJ s1, sS, sJ g2, sS, sJ g3, sS, sR ct, sJ lw, sS, sJ s2, sS, sJ s3, sS, sJ act, sS, sI n1, sI n2, sI 0, sI 2, sI n2, sI n1, sI n1, sU, sU] [(.long ((8 : Int64) * (n2.toInt64)))])) rfl (hb hby at_381)) ?_
          refine Go.st (fun _ k => XS.iload Xj.here hx rfl (hb hby at_384) rfl k) ?_
          refine Go.st (fun _ k => XS.i2l Xj.here hx rfl (hb hby at_386) rfl k) ?_
          refine Go.st (fun _ k => XS.lmul Xj.here hx rfl (hb hby at_387) rfl k) ?_
          refine Go.st (fun _ k => XS.ladd Xj.here hx rfl (hb hby at_388) rfl k) ?_
          refine Go.st (fun _ k => XS.lstore Xj.here hx rfl (hb hby at_389) rfl (l' := #[sI p1, sJ q2, sS, sJ q3, sS, sJ q4, sS, sJ q5, sS, sI n1, sI n2, sI t3, sI tr, sJ s1, sS, sJ g2, sS, sJ g3, sS, sR ct, sJ lw, sS, sJ s2, sS, sJ s3, sS, sJ act, sS, sI n1, sI n2, sI 0, sI 2, sI n2, sI n1, sI n1, sJ (((8 : Int64) * (n2.toInt64)) + ((16 : Int64) * (n1.toInt64))), sS]) rfl k) ?_
          refine Go.st (fun _ k => XS.goto Xj.here hx rfl (pc0 := 391) (pc' := 414) rfl (hb hby at_391) (by decide) (by decide) k) ?_
          refine Go.st (S' := Tj.setTop (mkF m 416 #[sI p1, sJ q2, sS, sJ q3, sS, sJ q4, sS, sJ q5, sS, sI n1, sI n2, sI t3, sI tr, sJ s1, sS, sJ g2, sS, sJ g3, sS, sR ct, sJ lw, sS, sJ s2, sS, sJ s3, sS, sJ act, sS, sI n1, sI n2, sI 0, sI 2, sI n2, sI n1, sI n1, sJ (((8 : Int64) * (n2.toInt64)) + ((16 : Int64) * (n1.toInt64))), sS] [(.long act)])) (fun _ k => XS.lload Xj.here hx rfl (hb hby at_414) rfl k) ?_
          refine Go.st (S' := Tj.setTop (mkF m 418 #[sI p1, sJ q2, sS, sJ q3, sS, sJ q4, sS, sJ q5, sS, sI n1, sI n2, sI t3, sI tr, sJ s1, sS, sJ g2, sS, sJ g3, sS, sR ct, sJ lw, sS, sJ s2, sS, sJ s3, sS, sJ act, sS, sI n1, sI n2, sI 0, sI 2, sI n2, sI n1, sI n1, sJ (((8 : Int64) * (n2.toInt64)) + ((16 : Int64) * (n1.toInt64))), sS] [(.long (((8 : Int64) * (n2.toInt64)) + ((16 : Int64) * (n1.toInt64)))), (.long act)])) (fun _ k => XS.lload Xj.here hx rfl (hb hby at_416) rfl k) ?_
          refine Go.st (S' := Tj.setTop (mkF m 419 #[sI p1, sJ q2, sS, sJ q3, sS, sJ q4, sS, sJ q5, sS, sI n1, sI n2, sI t3, sI tr, sJ s1, sS, sJ g2, sS, sJ g3, sS, sR ct, sJ lw, sS, sJ s2, sS, sJ s3, sS, sJ act, sS, sI n1, sI n2, sI 0, sI 2, sI n2, sI n1, sI n1, sJ (((8 : Int64) * (n2.toInt64)) + ((16 : Int64) * (n1.toInt64))), sS] [(.int (lcmpW act (((8 : Int64) * (n2.toInt64)) + ((16 : Int64) * (n1.toInt64)))))])) (fun _ k => XS.lcmp Xj.here hx rfl (hb hby at_418) rfl k) ?_
          refine Go.st (fun _ k => XS.ifNo Xj.here hx rfl (hb hby at_419) rfl (own_Leq (by rw [hact]; simp only [expF, curF, ocF, olF, hc197, hc209, hc236, hc371, if_true, if_false] <;> first | rfl | decide)).2 k) ?_
          refine Go.st (fun _ k => XS.iconst Xj.here hx rfl (hb hby at_422) k) ?_
          refine Go.st (S' := Tj.setTop (mkF m 427 #[sI p1, sJ q2, sS, sJ q3, sS, sJ q4, sS, sJ q5, sS, sI n1, sI n2, sI t3, sI tr, sJ s1, sS, sJ g2, sS, sJ g3, sS, sR ct, sJ lw, sS, sJ s2, sS, sJ s3, sS, sJ act, sS, sI n1, sI n2, sI 0, sI 2, sI n2, sI n1, sI n1, sJ (((8 : Int64) * (n2.toInt64)) + ((16 : Int64) * (n1.toInt64))), sS] [(.int (1 : Int32))])) (fun _ k => XS.goto Xj.here hx rfl (pc0 := 423) (pc' := 427) rfl (hb hby at_423) (by decide) (by decide) k) ?_
          exact own_retN Xj hx hlk hret (by simp) (hb hby at_427) ej ⟨rfl, Nj⟩ (by decide) (by decide)
      · refine Go.st (fun _ k => XS.ifNo Xj.here hx rfl (hb hby at_236) rfl ((if0 _ _).trans (feq hc236).1) k) ?_
        refine Go.st (S' := Tj.setTop (mkF m 241 #[sI p1, sJ q2, sS, sJ q3, sS, sJ q4, sS, sJ q5, sS, sI n1, sI n2, sI t3, sI tr, sJ s1, sS, sJ g2, sS, sJ g3, sS, sR ct, sJ lw, sS, sJ s2, sS, sJ s3, sS, sJ act, sS, sI n1, sI n2, sI 0, sI 2, sU, sU, sU, sU, sU] [(.int (2 : Int32))])) (fun _ k => XS.iload Xj.here hx rfl (hb hby at_239) rfl k) ?_
        refine Go.st (fun _ k => XS.ifYes Xj.here hx rfl (pc0 := 241) (pc' := 250) rfl (hb hby at_241) rfl ((if0 _ _).trans (feq (by decide)).2) (by decide) (by decide) k) ?_
        refine Go.st (fun _ k => XS.iload Xj.here hx rfl (hb hby at_250) rfl k) ?_
        refine Go.st (S' := Tj.setTop (mkF m 253 #[sI p1, sJ q2, sS, sJ q3, sS, sJ q4, sS, sJ q5, sS, sI n1, sI n2, sI t3, sI tr, sJ s1, sS, sJ g2, sS, sJ g3, sS, sR ct, sJ lw, sS, sJ s2, sS, sJ s3, sS, sJ act, sS, sI n1, sI n2, sI 0, sI 2, sU, sU, sU, sU, sU] [(.int (1 : Int32)), (.int (2 : Int32))])) (fun _ k => XS.iconst Xj.here hx rfl (hb hby at_252) k) ?_
        refine Go.st (fun _ k => XS.icmpYes Xj.here hx rfl (pc0 := 253) (pc' := 262) rfl (hb hby at_253) rfl (feq (by decide)).2 (by decide) (by decide) k) ?_
        refine Go.st (fun _ k => XS.iconst Xj.here hx rfl (hb hby at_262) k) ?_
        refine Go.st (fun _ k => XS.istore Xj.here hx rfl (hb hby at_263) rfl (l' := #[sI p1, sJ q2, sS, sJ q3, sS, sJ q4, sS, sJ q5, sS, sI n1, sI n2, sI t3, sI tr, sJ s1, sS, sJ g2, sS, sJ g3, sS, sR ct, sJ lw, sS, sJ s2, sS, sJ s3, sS, sJ act, sS, sI n1, sI n2, sI 1, sI 2, sU, sU, sU, sU, sU]) rfl k) ?_
        refine Go.st (fun _ k => XS.iload Xj.here hx rfl (hb hby at_265) rfl k) ?_
        refine Go.st (fun _ k => XS.iconst Xj.here hx rfl (hb hby at_267) k) ?_
        refine Go.st (fun _ k => XS.iadd Xj.here hx rfl (hb hby at_268) rfl k) ?_
        refine Go.st (S' := Tj.setTop (mkF m 271 #[sI p1, sJ q2, sS, sJ q3, sS, sJ q4, sS, sJ q5, sS, sI n1, sI n2, sI t3, sI tr, sJ s1, sS, sJ g2, sS, sJ g3, sS, sR ct, sJ lw, sS, sJ s2, sS, sJ s3, sS, sJ act, sS, sI n1, sI n2, sI 1, sI 3, sU, sU, sU, sU, sU] [])) (fun _ k => XS.istore Xj.here hx rfl (hb hby at_269) rfl (l' := #[sI p1, sJ q2, sS, sJ q3, sS, sJ q4, sS, sJ q5, sS, sI n1, sI n2, sI t3, sI tr, sJ s1, sS, sJ g2, sS, sJ g3, sS, sR ct, sJ lw, sS, sJ s2, sS, sJ s3, sS, sJ act, sS, sI n1, sI n2, sI 1, sI 3, sU, sU, sU, sU, sU]) rfl k) ?_
        refine Go.st (S' := Tj.setTop (mkF m 273 #[sI p1, sJ q2, sS, sJ q3, sS, sJ q4, sS, sJ q5, sS, sI n1, sI n2, sI t3, sI tr, sJ s1, sS, sJ g2, sS, sJ g3, sS, sR ct, sJ lw, sS, sJ s2, sS, sJ s3, sS, sJ act, sS, sI n1, sI n2, sI 1, sI 3, sU, sU, sU, sU, sU] [(.int (3 : Int32))])) (fun _ k => XS.iload Xj.here hx rfl (hb hby at_271) rfl k) ?_
        refine Go.st (fun _ k => XS.ifYes Xj.here hx rfl (pc0 := 273) (pc' := 280) rfl (hb hby at_273) rfl ((if0 _ _).trans (feq (by decide)).2) (by decide) (by decide) k) ?_
        refine Go.st (fun _ k => XS.iload Xj.here hx rfl (hb hby at_280) rfl k) ?_
        refine Go.st (S' := Tj.setTop (mkF m 283 #[sI p1, sJ q2, sS, sJ q3, sS, sJ q4, sS, sJ q5, sS, sI n1, sI n2, sI t3, sI tr, sJ s1, sS, sJ g2, sS, sJ g3, sS, sR ct, sJ lw, sS, sJ s2, sS, sJ s3, sS, sJ act, sS, sI n1, sI n2, sI 1, sI 3, sU, sU, sU, sU, sU] [(.int (1 : Int32)), (.int (3 : Int32))])) (fun _ k => XS.iconst Xj.here hx rfl (hb hby at_282) k) ?_
        refine Go.st (fun _ k => XS.icmpYes Xj.here hx rfl (pc0 := 283) (pc' := 291) rfl (hb hby at_283) rfl (feq (by decide)).2 (by decide) (by decide) k) ?_
        refine Go.st (fun _ k => XS.iload Xj.here hx rfl (hb hby at_291) rfl k) ?_
        refine Go.st (S' := Tj.setTop (mkF m 294 #[sI p1, sJ q2, sS, sJ q3, sS, sJ q4, sS, sJ q5, sS, sI n1, sI n2, sI t3, sI tr, sJ s1, sS, sJ g2, sS, sJ g3, sS, sR ct, sJ lw, sS, sJ s2, sS, sJ s3, sS, sJ act, sS, sI n1, sI n2, sI 1, sI 3, sU, sU, sU, sU, sU] [(.int (2 : Int32)), (.int (3 : Int32))])) (fun _ k => XS.iconst Xj.here hx rfl (hb hby at_293) k) ?_
        refine Go.st (fun _ k => XS.icmpYes Xj.here hx rfl (pc0 := 294) (pc' := 302) rfl (hb hby at_294) rfl (feq (by decide)).2 (by decide) (by decide) k) ?_
        refine Go.st (fun _ k => XS.iload Xj.here hx rfl (hb hby at_302) rfl k) ?_
        refine Go.st (fun _ k => XS.istore Xj.here hx rfl (hb hby at_304) rfl (l' := #[sI p1, sJ q2, sS, sJ q3, sS, sJ q4, sS, sJ q5, sS, sI n1, sI n2, sI t3, sI tr, sJ s1, sS, sJ g2, sS, sJ g3, sS, sR ct, sJ lw, sS, sJ s2, sS, sJ s3, sS, sJ act, sS, sI n1, sI n2, sI 1, sI 3, sI 1, sU, sU, sU, sU]) rfl k) ?_
        refine Go.st (fun _ k => XS.iload Xj.here hx rfl (hb hby at_306) rfl k) ?_
        refine Go.st (S' := Tj.setTop (mkF m 309 #[sI p1, sJ q2, sS, sJ q3, sS, sJ q4, sS, sJ q5, sS, sI n1, sI n2, sI t3, sI tr, sJ s1, sS, sJ g2, sS, sJ g3, sS, sR ct, sJ lw, sS, sJ s2, sS, sJ s3, sS, sJ act, sS, sI n1, sI n2, sI 1, sI 3, sI 1, sU, sU, sU, sU] [(.int (1 : Int32)), (.int (3 : Int32))])) (fun _ k => XS.iconst Xj.here hx rfl (hb hby at_308) k) ?_
        refine Go.st (fun _ k => XS.icmpYes Xj.here hx rfl (pc0 := 309) (pc' := 316) rfl (hb hby at_309) rfl (tlt (by decide)).2.2.1 (by decide) (by decide) k) ?_
        refine Go.st (fun _ k => XS.iload Xj.here hx rfl (hb hby at_316) rfl k) ?_
        refine Go.st (S' := Tj.setTop (mkF m 319 #[sI p1, sJ q2, sS, sJ q3, sS, sJ q4, sS, sJ q5, sS, sI n1, sI n2, sI t3, sI tr, sJ s1, sS, sJ g2, sS, sJ g3, sS, sR ct, sJ lw, sS, sJ s2, sS, sJ s3, sS, sJ act, sS, sI n1, sI n2, sI 1, sI 3, sI 1, sU, sU, sU, sU] [(.int (2 : Int32)), (.int (3 : Int32))])) (fun _ k => XS.iconst Xj.here hx rfl (hb hby at_318) k) ?_
        refine Go.st (fun _ k => XS.icmpYes Xj.here hx rfl (pc0 := 319) (pc' := 327) rfl (hb hby at_319) rfl (feq (by decide)).2 (by decide) (by decide) k) ?_
        refine Go.st (fun _ k => XS.iload Xj.here hx rfl (hb hby at_327) rfl k) ?_
        refine Go.st (fun _ k => XS.iload Xj.here hx rfl (hb hby at_329) rfl k) ?_
        refine Go.st (fun _ k => XS.iadd Xj.here hx rfl (hb hby at_331) rfl k) ?_
        refine Go.st (fun _ k => XS.istore Xj.here hx rfl (hb hby at_332) rfl (l' := #[sI p1, sJ q2, sS, sJ q3, sS, sJ q4, sS, sJ q5, sS, sI n1, sI n2, sI t3, sI tr, sJ s1, sS, sJ g2, sS, sJ g3, sS, sR ct, sJ lw, sS, sJ s2, sS, sJ s3, sS, sJ act, sS, sI n1, sI n2, sI 1, sI 3, sI 1, sI (n1 + n2), sU, sU, sU]) rfl k) ?_
        refine Go.st (fun _ k => XS.iload Xj.here hx rfl (hb hby at_334) rfl k) ?_
        refine Go.st (S' := Tj.setTop (mkF m 337 #[sI p1, sJ q2, sS, sJ q3, sS, sJ q4, sS, sJ q5, sS, sI n1, sI n2, sI t3, sI tr, sJ s1, sS, sJ g2, sS, sJ g3, sS, sR ct, sJ lw, sS, sJ s2, sS, sJ s3, sS, sJ act, sS, sI n1, sI n2, sI 1, sI 3, sI 1, sI (n1 + n2), sU, sU, sU] [(.int (1 : Int32)), (.int (3 : Int32))])) (fun _ k => XS.iconst Xj.here hx rfl (hb hby at_336) k) ?_
        refine Go.st (fun _ k => XS.icmpYes Xj.here hx rfl (pc0 := 337) (pc' := 344) rfl (hb hby at_337) rfl (tlt (by decide)).2.2.1 (by decide) (by decide) k) ?_
        refine Go.st (fun _ k => XS.iload Xj.here hx rfl (hb hby at_344) rfl k) ?_
        refine Go.st (S' := Tj.setTop (mkF m 347 #[sI p1, sJ q2, sS, sJ q3, sS, sJ q4, sS, sJ q5, sS, sI n1, sI n2, sI t3, sI tr, sJ s1, sS, sJ g2, sS, sJ g3, sS, sR ct, sJ lw, sS, sJ s2, sS, sJ s3, sS, sJ act, sS, sI n1, sI n2, sI 1, sI 3, sI 1, sI (n1 + n2), sU, sU, sU] [(.int (2 : Int32)), (.int (3 : Int32))])) (fun _ k => XS.iconst Xj.here hx rfl (hb hby at_346) k) ?_
        refine Go.st (fun _ k => XS.icmpYes Xj.here hx rfl (pc0 := 347) (pc' := 355) rfl (hb hby at_347) rfl (feq (by decide)).2 (by decide) (by decide) k) ?_
        refine Go.st (fun _ k => XS.iload Xj.here hx rfl (hb hby at_355) rfl k) ?_
        refine Go.st (fun _ k => XS.iload Xj.here hx rfl (hb hby at_357) rfl k) ?_
        refine Go.st (fun _ k => XS.iadd Xj.here hx rfl (hb hby at_359) rfl k) ?_
        refine Go.st (fun _ k => XS.iconst Xj.here hx rfl (hb hby at_360) k) ?_
        refine Go.st (fun _ k => XS.iload Xj.here hx rfl (hb hby at_361) rfl k) ?_
        refine Go.st (S' := Tj.setTop (mkF m 364 #[sI p1, sJ q2, sS, sJ q3, sS, sJ q4, sS, sJ q5, sS, sI n1, sI n2, sI t3, sI tr, sJ s1, sS, sJ g2, sS, sJ g3, sS, sR ct, sJ lw, sS, sJ s2, sS, sJ s3, sS, sJ act, sS, sI n1, sI n2, sI 1, sI 3, sI 1, sI (n1 + n2), sU, sU, sU] [(.int ((2 : Int32) * n1)), (.int (n1 + n2))])) (fun _ k => XS.imul Xj.here hx rfl (hb hby at_363) rfl k) ?_
        obtain ⟨_, T148, L148, X148, ⟨rfl, Nq148, eq148⟩, st148⟩ := own_callS Xj hx hZ hown (ww hw 115 rfl) (ww hw 78 rfl) (ww hw 79 rfl) (ww hw 80 rfl) (by decide) ej (rm_maxF l Z a0 hw [] w_NONE k_NONE hS (n1 + n2) ((2 : Int32) * n1) hj Oj) 0 (by decide) (by decide) (by decide) (by decide) (g := (mkF m 364 #[sI p1, sJ q2, sS, sJ q3, sS, sJ q4, sS, sJ q5, sS, sI n1, sI n2, sI t3, sI tr, sJ s1, sS, sJ g2, sS, sJ g3, sS, sR ct, sJ lw, sS, sJ s2, sS, sJ s3, sS, sJ act, sS, sI n1, sI n2, sI 1, sI 3, sI 1, sI (n1 + n2), sU, sU, sU] [(.int ((2 : Int32) * n1)), (.int (n1 + n2))])) rfl (by rw [hml]; rfl) [(.int (n1 + n2)), (.int ((2 : Int32) * n1))] [] rfl (lenOf pd_947237 rfl) rfl (by show 2 * 0 + _ ≤ _; exact Nat.le_of_eq rfl) (hb hby at_364)
        have N148 := Fr.app Nj Nq148
        refine Go.st (S' := T148.setTop (mkF m 367 #[sI p1, sJ q2, sS, sJ q3, sS, sJ q4, sS, sJ q5, sS, sI n1, sI n2, sI t3, sI tr, sJ s1, sS, sJ g2, sS, sJ g3, sS, sR ct, sJ lw, sS, sJ s2, sS, sJ s3, sS, sJ act, sS, sI n1, sI n2, sI 1, sI 3, sI 1, sI (n1 + n2), sU, sU, sU] [(.int (maxF (n1 + n2) ((2 : Int32) * n1)))])) st148 ?_
        refine Go.st (fun _ k => XS.istore X148.here hx rfl (hb hby at_367) rfl (l' := #[sI p1, sJ q2, sS, sJ q3, sS, sJ q4, sS, sJ q5, sS, sI n1, sI n2, sI t3, sI tr, sJ s1, sS, sJ g2, sS, sJ g3, sS, sR ct, sJ lw, sS, sJ s2, sS, sJ s3, sS, sJ act, sS, sI n1, sI n2, sI 1, sI 3, sI 1, sI (n1 + n2), sI (maxF (n1 + n2) ((2 : Int32) * n1)), sU, sU]) rfl k) ?_
        refine Go.st (S' := T148.setTop (mkF m 371 #[sI p1, sJ q2, sS, sJ q3, sS, sJ q4, sS, sJ q5, sS, sI n1, sI n2, sI t3, sI tr, sJ s1, sS, sJ g2, sS, sJ g3, sS, sR ct, sJ lw, sS, sJ s2, sS, sJ s3, sS, sJ act, sS, sI n1, sI n2, sI 1, sI 3, sI 1, sI (n1 + n2), sI (maxF (n1 + n2) ((2 : Int32) * n1)), sU, sU] [(.int tr)])) (fun _ k => XS.iload X148.here hx rfl (hb hby at_369) rfl k) ?_
        by_cases hc371_1 : tr = (0 : Int32)
        · refine Go.st (S' := T148.setTop (mkF m 394 #[sI p1, sJ q2, sS, sJ q3, sS, sJ q4, sS, sJ q5, sS, sI n1, sI n2, sI t3, sI tr, sJ s1, sS, sJ g2, sS, sJ g3, sS, sR ct, sJ lw, sS, sJ s2, sS, sJ s3, sS, sJ act, sS, sI n1, sI n2, sI 1, sI 3, sI 1, sI (n1 + n2), sI (maxF (n1 + n2) ((2 : Int32) * n1)), sU, sU] [])) (fun _ k => XS.ifYes X148.here hx rfl (pc0 := 371) (pc' := 394) rfl (hb hby at_371) rfl ((if0 _ _).trans (teq hc371_1).1) (by decide) (by decide) k) ?_
          refine Go.st (S' := T148.setTop (mkF m 397 #[sI p1, sJ q2, sS, sJ q3, sS, sJ q4, sS, sJ q5, sS, sI n1, sI n2, sI t3, sI tr, sJ s1, sS, sJ g2, sS, sJ g3, sS, sR ct, sJ lw, sS, sJ s2, sS, sJ s3, sS, sJ act, sS, sI n1, sI n2, sI 1, sI 3, sI 1, sI (n1 + n2), sI (maxF (n1 + n2) ((2 : Int32) * n1)), sU, sU] [(.long (8 : Int64))])) (X148.ldc2Long hx hown (mvT hZ (ww hw 51 rfl)) (g := (mkF m 394 #[sI p1, sJ q2, sS, sJ q3, sS, sJ q4, sS, sJ q5, sS, sI n1, sI n2, sI t3, sI tr, sJ s1, sS, sJ g2, sS, sJ g3, sS, sR ct, sJ lw, sS, sJ s2, sS, sJ s3, sS, sJ act, sS, sI n1, sI n2, sI 1, sI 3, sI 1, sI (n1 + n2), sI (maxF (n1 + n2) ((2 : Int32) * n1)), sU, sU] [])) rfl (hb hby at_394)) ?_
          refine Go.st (S' := T148.setTop (mkF m 399 #[sI p1, sJ q2, sS, sJ q3, sS, sJ q4, sS, sJ q5, sS, sI n1, sI n2, sI t3, sI tr, sJ s1, sS, sJ g2, sS, sJ g3, sS, sR ct, sJ lw, sS, sJ s2, sS, sJ s3, sS, sJ act, sS, sI n1, sI n2, sI 1, sI 3, sI 1, sI (n1 + n2), sI (maxF (n1 + n2) ((2 : Int32) * n1)), sU, sU] [(.int (1 : Int32)), (.long (8 : Int64))])) (fun _ k => XS.iload X148.here hx rfl (hb hby at_397) rfl k) ?_
          obtain ⟨_, T149, L149, X149, ⟨rfl, Nq149, eq149⟩, st149⟩ := own_callS X148 hx hZ hown (ww hw 52 rfl) (ww hw 53 rfl) (ww hw 39 rfl) (ww hw 54 rfl) (by decide) eq148 (rmRoom l Z a0 hw [] w_NONE k_NONE hS (1 : Int32) hj Oj) 2 (by decide) (by decide) (by decide) (by decide) (g := (mkF m 399 #[sI p1, sJ q2, sS, sJ q3, sS, sJ q4, sS, sJ q5, sS, sI n1, sI n2, sI t3, sI tr, sJ s1, sS, sJ g2, sS, sJ g3, sS, sR ct, sJ lw, sS, sJ s2, sS, sJ s3, sS, sJ act, sS, sI n1, sI n2, sI 1, sI 3, sI 1, sI (n1 + n2), sI (maxF (n1 + n2) ((2 : Int32) * n1)), sU, sU] [(.int (1 : Int32)), (.long (8 : Int64))])) rfl (by rw [hml]; rfl) [(.int (1 : Int32))] [(.long (8 : Int64))] rfl (lenOf pd_674828 rfl) rfl (by show 2 * 0 + _ ≤ _; exact Nat.le_of_eq rfl) (hb hby at_399)
          have N149 := Fr.app N148 Nq149
          refine Go.st (S' := T149.setTop (mkF m 402 #[sI p1, sJ q2, sS, sJ q3, sS, sJ q4, sS, sJ q5, sS, sI n1, sI n2, sI t3, sI tr, sJ s1, sS, sJ g2, sS, sJ g3, sS, sR ct, sJ lw, sS, sJ s2, sS, sJ s3, sS, sJ act, sS, sI n1, sI n2, sI 1, sI 3, sI 1, sI (n1 + n2), sI (maxF (n1 + n2) ((2 : Int32) * n1)), sU, sU] [(.int (roomF (1 : Int32))), (.long (8 : Int64))])) st149 ?_
          refine Go.st (fun _ k => XS.i2l X149.here hx rfl (hb hby at_402) rfl k) ?_
          refine Go.st (S' := T149.setTop (mkF m 404 #[sI p1, sJ q2, sS, sJ q3, sS, sJ q4, sS, sJ q5, sS, sI n1, sI n2, sI t3, sI tr, sJ s1, sS, sJ g2, sS, sJ g3, sS, sR ct, sJ lw, sS, sJ s2, sS, sJ s3, sS, sJ act, sS, sI n1, sI n2, sI 1, sI 3, sI 1, sI (n1 + n2), sI (maxF (n1 + n2) ((2 : Int32) * n1)), sU, sU] [(.long ((8 : Int64) * ((roomF (1 : Int32)).toInt64)))])) (fun _ k => XS.lmul X149.here hx rfl (hb hby at_403) rfl k) ?_
          refine Go.st (S' := T149.setTop (mkF m 407 #[sI p1, sJ q2, sS, sJ q3, sS, sJ q4, sS, sJ q5, sS, sI n1, sI n2, sI t3, sI tr, sJ s1, sS, sJ g2, sS, sJ g3, sS, sR ct, sJ lw, sS, sJ s2, sS, sJ s3, sS, sJ act, sS, sI n1, sI n2, sI 1, sI 3, sI 1, sI (n1 + n2), sI (maxF (n1 + n2) ((2 : Int32) * n1)), sU, sU] [(.long (16 : Int64)), (.long ((8 : Int64) * ((roomF (1 : Int32)).toInt64)))])) (X149.ldc2Long hx hown (mvT hZ (ww hw 55 rfl)) (g := (mkF m 404 #[sI p1, sJ q2, sS, sJ q3, sS, sJ q4, sS, sJ q5, sS, sI n1, sI n2, sI t3, sI tr, sJ s1, sS, sJ g2, sS, sJ g3, sS, sR ct, sJ lw, sS, sJ s2, sS, sJ s3, sS, sJ act, sS, sI n1, sI n2, sI 1, sI 3, sI 1, sI (n1 + n2), sI (maxF (n1 + n2) ((2 : Int32) * n1)), sU, sU] [(.long ((8 : Int64) * ((roomF (1 : Int32)).toInt64)))])) rfl (hb hby at_404)) ?_
          refine Go.st (fun _ k => XS.iload X149.here hx rfl (hb hby at_407) rfl k) ?_
          refine Go.st (fun _ k => XS.i2l X149.here hx rfl (hb hby at_409) rfl k) ?_
          refine Go.st (fun _ k => XS.lmul X149.here hx rfl (hb hby at_410) rfl k) ?_
          refine Go.st (fun _ k => XS.ladd X149.here hx rfl (hb hby at_411) rfl k) ?_
          refine Go.st (fun _ k => XS.lstore X149.here hx rfl (hb hby at_412) rfl (l' := #[sI p1, sJ q2, sS, sJ q3, sS, sJ q4, sS, sJ q5, sS, sI n1, sI n2, sI t3, sI tr, sJ s1, sS, sJ g2, sS, sJ g3, sS, sR ct, sJ lw, sS, sJ s2, sS, sJ s3, sS, sJ act, sS, sI n1, sI n2, sI 1, sI 3, sI 1, sI (n1 + n2), sI (maxF (n1 + n2) ((2 : Int32) * n1)), sJ (((8 : Int64) * ((roomF (1 : Int32)).toInt64)) + ((16 : Int64) * ((maxF (n1 + n2) ((2 : Int32) * n1)).toInt64))), sS]) rfl k) ?_
          refine Go.st (fun _ k => XS.lload X149.here hx rfl (hb hby at_414) rfl k) ?_
          refine Go.st (S' := T149.setTop (mkF m 418 #[sI p1, sJ q2, sS, sJ q3, sS, sJ q4, sS, sJ q5, sS, sI n1, sI n2, sI t3, sI tr, sJ s1, sS, sJ g2, sS, sJ g3, sS, sR ct, sJ lw, sS, sJ s2, sS, sJ s3, sS, sJ act, sS, sI n1, sI n2, sI 1, sI 3, sI 1, sI (n1 + n2), sI (maxF (n1 + n2) ((2 : Int32) * n1)), sJ (((8 : Int64) * ((roomF (1 : Int32)).toInt64)) + ((16 : Int64) * ((maxF (n1 + n2) ((2 : Int32) * n1)).toInt64))), sS] [(.long (((8 : Int64) * ((roomF (1 : Int32)).toInt64)) + ((16 : Int64) * ((maxF (n1 + n2) ((2 : Int32) * n1)).toInt64)))), (.long act)])) (fun _ k => XS.lload X149.here hx rfl (hb hby at_416) rfl k) ?_
          refine Go.st (S' := T149.setTop (mkF m 419 #[sI p1, sJ q2, sS, sJ q3, sS, sJ q4, sS, sJ q5, sS, sI n1, sI n2, sI t3, sI tr, sJ s1, sS, sJ g2, sS, sJ g3, sS, sR ct, sJ lw, sS, sJ s2, sS, sJ s3, sS, sJ act, sS, sI n1, sI n2, sI 1, sI 3, sI 1, sI (n1 + n2), sI (maxF (n1 + n2) ((2 : Int32) * n1)), sJ (((8 : Int64) * ((roomF (1 : Int32)).toInt64)) + ((16 : Int64) * ((maxF (n1 + n2) ((2 : Int32) * n1)).toInt64))), sS] [(.int (lcmpW act (((8 : Int64) * ((roomF (1 : Int32)).toInt64)) + ((16 : Int64) * ((maxF (n1 + n2) ((2 : Int32) * n1)).toInt64)))))])) (fun _ k => XS.lcmp X149.here hx rfl (hb hby at_418) rfl k) ?_
          refine Go.st (fun _ k => XS.ifNo X149.here hx rfl (hb hby at_419) rfl (own_Leq (by rw [hact]; simp only [expF, curF, ocF, olF, hc197, hc209, hc236, hc371_1, if_true, if_false] <;> first | rfl | decide)).2 k) ?_
          refine Go.st (fun _ k => XS.iconst X149.here hx rfl (hb hby at_422) k) ?_
          refine Go.st (S' := T149.setTop (mkF m 427 #[sI p1, sJ q2, sS, sJ q3, sS, sJ q4, sS, sJ q5, sS, sI n1, sI n2, sI t3, sI tr, sJ s1, sS, sJ g2, sS, sJ g3, sS, sR ct, sJ lw, sS, sJ s2, sS, sJ s3, sS, sJ act, sS, sI n1, sI n2, sI 1, sI 3, sI 1, sI (n1 + n2), sI (maxF (n1 + n2) ((2 : Int32) * n1)), sJ (((8 : Int64) * ((roomF (1 : Int32)).toInt64)) + ((16 : Int64) * ((maxF (n1 + n2) ((2 : Int32) * n1)).toInt64))), sS] [(.int (1 : Int32))])) (fun _ k => XS.goto X149.here hx rfl (pc0 := 423) (pc' := 427) rfl (hb hby at_423) (by decide) (by decide) k) ?_
          exact own_retN X149 hx hlk hret (by simp) (hb hby at_427) eq149 ⟨rfl, N149⟩ (by decide) (by decide)
        · refine Go.st (S' := T148.setTop (mkF m 374 #[sI p1, sJ q2, sS, sJ q3, sS, sJ q4, sS, sJ q5, sS, sI n1, sI n2, sI t3, sI tr, sJ s1, sS, sJ g2, sS, sJ g3, sS, sR ct, sJ lw, sS, sJ s2, sS, sJ s3, sS, sJ act, sS, sI n1, sI n2, sI 1, sI 3, sI 1, sI (n1 + n2), sI (maxF (n1 + n2) ((2 : Int32) * n1)), sU, sU] [])) (fun _ k => XS.ifNo X148.here hx rfl (hb hby at_371) rfl ((if0 _ _).trans (feq hc371_1).1) k) ?_
          refine Go.st (S' := T148.setTop (mkF m 377 #[sI p1, sJ q2, sS, sJ q3, sS, sJ q4, sS, sJ q5, sS, sI n1, sI n2, sI t3, sI tr, sJ s1, sS, sJ g2, sS, sJ g3, sS, sR ct, sJ lw, sS, sJ s2, sS, sJ s3, sS, sJ act, sS, sI n1, sI n2, sI 1, sI 3, sI 1, sI (n1 + n2), sI (maxF (n1 + n2) ((2 : Int32) * n1)), sU, sU] [(.long (8 : Int64))])) (X148.ldc2Long hx hown (mvT hZ (ww hw 51 rfl)) (g := (mkF m 374 #[sI p1, sJ q2, sS, sJ q3, sS, sJ q4, sS, sJ q5, sS, sI n1, sI n2, sI t3, sI tr, sJ s1, sS, sJ g2, sS, sJ g3, sS, sR ct, sJ lw, sS, sJ s2, sS, sJ s3, sS, sJ act, sS, sI n1, sI n2, sI 1, sI 3, sI 1, sI (n1 + n2), sI (maxF (n1 + n2) ((2 : Int32) * n1)), sU, sU] [])) rfl (hb hby at_374)) ?_
          refine Go.st (fun _ k => XS.iload X148.here hx rfl (hb hby at_377) rfl k) ?_
          refine Go.st (fun _ k => XS.i2l X148.here hx rfl (hb hby at_379) rfl k) ?_
          refine Go.st (S' := T148.setTop (mkF m 381 #[sI p1, sJ q2, sS, sJ q3, sS, sJ q4, sS, sJ q5, sS, sI n1, sI n2, sI t3, sI tr, sJ s1, sS, sJ g2, sS, sJ g3, sS, sR ct, sJ lw, sS, sJ s2, sS, sJ s3, sS, sJ act, sS, sI n1, sI n2, sI 1, sI 3, sI 1, sI (n1 + n2), sI (maxF (n1 + n2) ((2 : Int32) * n1)), sU, sU] [(.long (8 : Int64))])) (fun _ k => XS.lmul X148.here hx rfl (hb hby at_380) rfl k) ?_
          refine Go.st (S' := T148.setTop (mkF m 384 #[sI p1, sJ q2, sS, sJ q3, sS, sJ q4, sS, sJ q5, sS, sI n1, sI n2, sI t3, sI tr, sJ s1, sS, sJ g2, sS, sJ g3, sS, sR ct, sJ lw, sS, sJ s2, sS, sJ s3, sS, sJ act, sS, sI n1, sI n2, sI 1, sI 3, sI 1, sI (n1 + n2), sI (maxF (n1 + n2) ((2 : Int32) * n1)), sU, sU] [(.long (16 : Int64)), (.long (8 : Int64))])) (X148.ldc2Long hx hown (mvT hZ (ww hw 55 rfl)) (g := (mkF m 381 #[sI p1, sJ q2, sS, sJ q3, sS, sJ q4, sS, sJ q5, sS, sI n1, sI n2, sI t3, sI tr, sJ s1, sS, sJ g2, sS, sJ g3, sS, sR ct, sJ lw, sS, sJ s2, sS, sJ s3, sS, sJ act, sS, sI n1, sI n2, sI 1, sI 3, sI 1, sI (n1 + n2), sI (maxF (n1 + n2) ((2 : Int32) * n1)), sU, sU] [(.long (8 : Int64))])) rfl (hb hby at_381)) ?_
          refine Go.st (fun _ k => XS.iload X148.here hx rfl (hb hby at_384) rfl k) ?_
          refine Go.st (fun _ k => XS.i2l X148.here hx rfl (hb hby at_386) rfl k) ?_
          refine Go.st (fun _ k => XS.lmul X148.here hx rfl (hb hby at_387) rfl k) ?_
          refine Go.st (fun _ k => XS.ladd X148.here hx rfl (hb hby at_388) rfl k) ?_
          refine Go.st (fun _ k => XS.lstore X148.here hx rfl (hb hby at_389) rfl (l' := #[sI p1, sJ q2, sS, sJ q3, sS, sJ q4, sS, sJ q5, sS, sI n1, sI n2, sI t3, sI tr, sJ s1, sS, sJ g2, sS, sJ g3, sS, sR ct, sJ lw, sS, sJ s2, sS, sJ s3, sS, sJ act, sS, sI n1, sI n2, sI 1, sI 3, sI 1, sI (n1 + n2), sI (maxF (n1 + n2) ((2 : Int32) * n1)), sJ ((8 : Int64) + ((16 : Int64) * ((n1 + n2).toInt64))), sS]) rfl k) ?_
          refine Go.st (fun _ k => XS.goto X148.here hx rfl (pc0 := 391) (pc' := 414) rfl (hb hby at_391) (by decide) (by decide) k) ?_
          refine Go.st (S' := T148.setTop (mkF m 416 #[sI p1, sJ q2, sS, sJ q3, sS, sJ q4, sS, sJ q5, sS, sI n1, sI n2, sI t3, sI tr, sJ s1, sS, sJ g2, sS, sJ g3, sS, sR ct, sJ lw, sS, sJ s2, sS, sJ s3, sS, sJ act, sS, sI n1, sI n2, sI 1, sI 3, sI 1, sI (n1 + n2), sI (maxF (n1 + n2) ((2 : Int32) * n1)), sJ ((8 : Int64) + ((16 : Int64) * ((n1 + n2).toInt64))), sS] [(.long act)])) (fun _ k => XS.lload X148.here hx rfl (hb hby at_414) rfl k) ?_
          refine Go.st (S' := T148.setTop (mkF m 418 #[sI p1, sJ q2, sS, sJ q3, sS, sJ q4, sS, sJ q5, sS, sI n1, sI n2, sI t3, sI tr, sJ s1, sS, sJ g2, sS, sJ g3, sS, sR ct, sJ lw, sS, sJ s2, sS, sJ s3, sS, sJ act, sS, sI n1, sI n2, sI 1, sI 3, sI 1, sI (n1 + n2), sI (maxF (n1 + n2) ((2 : Int32) * n1)), sJ ((8 : Int64) + ((16 : Int64) * ((n1 + n2).toInt64))), sS] [(.long ((8 : Int64) + ((16 : Int64) * ((n1 + n2).toInt64)))), (.long act)])) (fun _ k => XS.lload X148.here hx rfl (hb hby at_416) rfl k) ?_
          refine Go.st (S' := T148.setTop (mkF m 419 #[sI p1, sJ q2, sS, sJ q3, sS, sJ q4, sS, sJ q5, sS, sI n1, sI n2, sI t3, sI tr, sJ s1, sS, sJ g2, sS, sJ g3, sS, sR ct, sJ lw, sS, sJ s2, sS, sJ s3, sS, sJ act, sS, sI n1, sI n2, sI 1, sI 3, sI 1, sI (n1 + n2), sI (maxF (n1 + n2) ((2 : Int32) * n1)), sJ ((8 : Int64) + ((16 : Int64) * ((n1 + n2).toInt64))), sS] [(.int (lcmpW act ((8 : Int64) + ((16 : Int64) * ((n1 + n2).toInt64)))))])) (fun _ k => XS.lcmp X148.here hx rfl (hb hby at_418) rfl k) ?_
          refine Go.st (fun _ k => XS.ifNo X148.here hx rfl (hb hby at_419) rfl (own_Leq (by rw [hact]; simp only [expF, curF, ocF, olF, hc197, hc209, hc236, hc371_1, if_true, if_false] <;> first | rfl | decide)).2 k) ?_
          refine Go.st (fun _ k => XS.iconst X148.here hx rfl (hb hby at_422) k) ?_
          refine Go.st (S' := T148.setTop (mkF m 427 #[sI p1, sJ q2, sS, sJ q3, sS, sJ q4, sS, sJ q5, sS, sI n1, sI n2, sI t3, sI tr, sJ s1, sS, sJ g2, sS, sJ g3, sS, sR ct, sJ lw, sS, sJ s2, sS, sJ s3, sS, sJ act, sS, sI n1, sI n2, sI 1, sI 3, sI 1, sI (n1 + n2), sI (maxF (n1 + n2) ((2 : Int32) * n1)), sJ ((8 : Int64) + ((16 : Int64) * ((n1 + n2).toInt64))), sS] [(.int (1 : Int32))])) (fun _ k => XS.goto X148.here hx rfl (pc0 := 423) (pc' := 427) rfl (hb hby at_423) (by decide) (by decide) k) ?_
          exact own_retN X148 hx hlk hret (by simp) (hb hby at_427) eq148 ⟨rfl, N148⟩ (by decide) (by decide)
    · refine Go.st (fun _ k => XS.ifYes Xj.here hx rfl (pc0 := 209) (pc' := 234) rfl (hb hby at_209) rfl ((if0 _ _).trans (flt hc209).2.2.2) (by decide) (by decide) k) ?_
      refine Go.st (S' := Tj.setTop (mkF m 236 #[sI p1, sJ q2, sS, sJ q3, sS, sJ q4, sS, sJ q5, sS, sI n1, sI n2, sI t3, sI tr, sJ s1, sS, sJ g2, sS, sJ g3, sS, sR ct, sJ lw, sS, sJ s2, sS, sJ s3, sS, sJ act, sS, sI n1, sI 0, sI 0, sI 1, sU, sU, sU, sU, sU] [(.int t3)])) (fun _ k => XS.iload Xj.here hx rfl (hb hby at_234) rfl k) ?_
      by_cases hc236_1 : t3 = (0 : Int32)
      · refine Go.st (fun _ k => XS.ifYes Xj.here hx rfl (pc0 := 236) (pc' := 271) rfl (hb hby at_236) rfl ((if0 _ _).trans (teq hc236_1).1) (by decide) (by decide) k) ?_
        refine Go.st (S' := Tj.setTop (mkF m 273 #[sI p1, sJ q2, sS, sJ q3, sS, sJ q4, sS, sJ q5, sS, sI n1, sI n2, sI t3, sI tr, sJ s1, sS, sJ g2, sS, sJ g3, sS, sR ct, sJ lw, sS, sJ s2, sS, sJ s3, sS, sJ act, sS, sI n1, sI 0, sI 0, sI 1, sU, sU, sU, sU, sU] [(.int (1 : Int32))])) (fun _ k => XS.iload Xj.here hx rfl (hb hby at_271) rfl k) ?_
        refine Go.st (fun _ k => XS.ifYes Xj.here hx rfl (pc0 := 273) (pc' := 280) rfl (hb hby at_273) rfl ((if0 _ _).trans (feq (by decide)).2) (by decide) (by decide) k) ?_
        refine Go.st (fun _ k => XS.iload Xj.here hx rfl (hb hby at_280) rfl k) ?_
        refine Go.st (S' := Tj.setTop (mkF m 283 #[sI p1, sJ q2, sS, sJ q3, sS, sJ q4, sS, sJ q5, sS, sI n1, sI n2, sI t3, sI tr, sJ s1, sS, sJ g2, sS, sJ g3, sS, sR ct, sJ lw, sS, sJ s2, sS, sJ s3, sS, sJ act, sS, sI n1, sI 0, sI 0, sI 1, sU, sU, sU, sU, sU] [(.int (1 : Int32)), (.int (1 : Int32))])) (fun _ k => XS.iconst Xj.here hx rfl (hb hby at_282) k) ?_
        refine Go.st (fun _ k => XS.icmpNo Xj.here hx rfl (hb hby at_283) rfl (teq (by decide)).2 k) ?_
        refine Go.st (fun _ k => XS.iload Xj.here hx rfl (hb hby at_286) rfl k) ?_
        refine Go.st (fun _ k => XS.goto Xj.here hx rfl (pc0 := 288) (pc' := 304) rfl (hb hby at_288) (by decide) (by decide) k) ?_
        refine Go.st (fun _ k => XS.istore Xj.here hx rfl (hb hby at_304) rfl (l' := #[sI p1, sJ q2, sS, sJ q3, sS, sJ q4, sS, sJ q5, sS, sI n1, sI n2, sI t3, sI tr, sJ s1, sS, sJ g2, sS, sJ g3, sS, sR ct, sJ lw, sS, sJ s2, sS, sJ s3, sS, sJ act, sS, sI n1, sI 0, sI 0, sI 1, sI n1, sU, sU, sU, sU]) rfl k) ?_
        refine Go.st (fun _ k => XS.iload Xj.here hx rfl (hb hby at_306) rfl k) ?_
        refine Go.st (S' := Tj.setTop (mkF m 309 #[sI p1, sJ q2, sS, sJ q3, sS, sJ q4, sS, sJ q5, sS, sI n1, sI n2, sI t3, sI tr, sJ s1, sS, sJ g2, sS, sJ g3, sS, sR ct, sJ lw, sS, sJ s2, sS, sJ s3, sS, sJ act, sS, sI n1, sI 0, sI 0, sI 1, sI n1, sU, sU, sU, sU] [(.int (1 : Int32)), (.int (1 : Int32))])) (fun _ k => XS.iconst Xj.here hx rfl (hb hby at_308) k) ?_
        refine Go.st (fun _ k => XS.icmpNo Xj.here hx rfl (hb hby at_309) rfl (flt (by decide)).2.2.1 k) ?_
        refine Go.st (fun _ k => XS.iconst Xj.here hx rfl (hb hby at_312) k) ?_
        refine Go.st (fun _ k => XS.goto Xj.here hx rfl (pc0 := 313) (pc' := 332) rfl (hb hby at_313) (by decide) (by decide) k) ?_
        refine Go.st (fun _ k => XS.istore Xj.here hx rfl (hb hby at_332) rfl (l' := #[sI p1, sJ q2, sS, sJ q3, sS, sJ q4, sS, sJ q5, sS, sI n1, sI n2, sI t3, sI tr, sJ s1, sS, sJ g2, sS, sJ g3, sS, sR ct, sJ lw, sS, sJ s2, sS, sJ s3, sS, sJ act, sS, sI n1, sI 0, sI 0, sI 1, sI n1, sI 0, sU, sU, sU]) rfl k) ?_
        refine Go.st (fun _ k => XS.iload Xj.here hx rfl (hb hby at_334) rfl k) ?_
        refine Go.st (S' := Tj.setTop (mkF m 337 #[sI p1, sJ q2, sS, sJ q3, sS, sJ q4, sS, sJ q5, sS, sI n1, sI n2, sI t3, sI tr, sJ s1, sS, sJ g2, sS, sJ g3, sS, sR ct, sJ lw, sS, sJ s2, sS, sJ s3, sS, sJ act, sS, sI n1, sI 0, sI 0, sI 1, sI n1, sI 0, sU, sU, sU] [(.int (1 : Int32)), (.int (1 : Int32))])) (fun _ k => XS.iconst Xj.here hx rfl (hb hby at_336) k) ?_
        refine Go.st (fun _ k => XS.icmpNo Xj.here hx rfl (hb hby at_337) rfl (flt (by decide)).2.2.1 k) ?_
        refine Go.st (fun _ k => XS.iconst Xj.here hx rfl (hb hby at_340) k) ?_
        refine Go.st (fun _ k => XS.goto Xj.here hx rfl (pc0 := 341) (pc' := 367) rfl (hb hby at_341) (by decide) (by decide) k) ?_
        refine Go.st (fun _ k => XS.istore Xj.here hx rfl (hb hby at_367) rfl (l' := #[sI p1, sJ q2, sS, sJ q3, sS, sJ q4, sS, sJ q5, sS, sI n1, sI n2, sI t3, sI tr, sJ s1, sS, sJ g2, sS, sJ g3, sS, sR ct, sJ lw, sS, sJ s2, sS, sJ s3, sS, sJ act, sS, sI n1, sI 0, sI 0, sI 1, sI n1, sI 0, sI 0, sU, sU]) rfl k) ?_
        refine Go.st (S' := Tj.setTop (mkF m 371 #[sI p1, sJ q2, sS, sJ q3, sS, sJ q4, sS, sJ q5, sS, sI n1, sI n2, sI t3, sI tr, sJ s1, sS, sJ g2, sS, sJ g3, sS, sR ct, sJ lw, sS, sJ s2, sS, sJ s3, sS, sJ act, sS, sI n1, sI 0, sI 0, sI 1, sI n1, sI 0, sI 0, sU, sU] [(.int tr)])) (fun _ k => XS.iload Xj.here hx rfl (hb hby at_369) rfl k) ?_
        by_cases hc371_2 : tr = (0 : Int32)
        · refine Go.st (S' := Tj.setTop (mkF m 394 #[sI p1, sJ q2, sS, sJ q3, sS, sJ q4, sS, sJ q5, sS, sI n1, sI n2, sI t3, sI tr, sJ s1, sS, sJ g2, sS, sJ g3, sS, sR ct, sJ lw, sS, sJ s2, sS, sJ s3, sS, sJ act, sS, sI n1, sI 0, sI 0, sI 1, sI n1, sI 0, sI 0, sU, sU] [])) (fun _ k => XS.ifYes Xj.here hx rfl (pc0 := 371) (pc' := 394) rfl (hb hby at_371) rfl ((if0 _ _).trans (teq hc371_2).1) (by decide) (by decide) k) ?_
          refine Go.st (S' := Tj.setTop (mkF m 397 #[sI p1, sJ q2, sS, sJ q3, sS, sJ q4, sS, sJ q5, sS, sI n1, sI n2, sI t3, sI tr, sJ s1, sS, sJ g2, sS, sJ g3, sS, sR ct, sJ lw, sS, sJ s2, sS, sJ s3, sS, sJ act, sS, sI n1, sI 0, sI 0, sI 1, sI n1, sI 0, sI 0, sU, sU] [(.long (8 : Int64))])) (Xj.ldc2Long hx hown (mvT hZ (ww hw 51 rfl)) (g := (mkF m 394 #[sI p1, sJ q2, sS, sJ q3, sS, sJ q4, sS, sJ q5, sS, sI n1, sI n2, sI t3, sI tr, sJ s1, sS, sJ g2, sS, sJ g3, sS, sR ct, sJ lw, sS, sJ s2, sS, sJ s3, sS, sJ act, sS, sI n1, sI 0, sI 0, sI 1, sI n1, sI 0, sI 0, sU, sU] [])) rfl (hb hby at_394)) ?_
          refine Go.st (S' := Tj.setTop (mkF m 399 #[sI p1, sJ q2, sS, sJ q3, sS, sJ q4, sS, sJ q5, sS, sI n1, sI n2, sI t3, sI tr, sJ s1, sS, sJ g2, sS, sJ g3, sS, sR ct, sJ lw, sS, sJ s2, sS, sJ s3, sS, sJ act, sS, sI n1, sI 0, sI 0, sI 1, sI n1, sI 0, sI 0, sU, sU] [(.int n1), (.long (8 : Int64))])) (fun _ k => XS.iload Xj.here hx rfl (hb hby at_397) rfl k) ?_
          obtain ⟨_, T150, L150, X150, ⟨rfl, Nq150, eq150⟩, st150⟩ := own_callS Xj hx hZ hown (ww hw 52 rfl) (ww hw 53 rfl) (ww hw 39 rfl) (ww hw 54 rfl) (by decide) ej (rmRoom l Z a0 hw [] w_NONE k_NONE hS n1 hj Oj) 2 (by decide) (by decide) (by decide) (by decide) (g := (mkF m 399 #[sI p1, sJ q2, sS, sJ q3, sS, sJ q4, sS, sJ q5, sS, sI n1, sI n2, sI t3, sI tr, sJ s1, sS, sJ g2, sS, sJ g3, sS, sR ct, sJ lw, sS, sJ s2, sS, sJ s3, sS, sJ act, sS, sI n1, sI 0, sI 0, sI 1, sI n1, sI 0, sI 0, sU, sU] [(.int n1), (.long (8 : Int64))])) rfl (by rw [hml]; rfl) [(.int n1)] [(.long (8 : Int64))] rfl (lenOf pd_674828 rfl) rfl (by show 2 * 0 + _ ≤ _; exact Nat.le_of_eq rfl) (hb hby at_399)
          have N150 := Fr.app Nj Nq150
          refine Go.st (S' := T150.setTop (mkF m 402 #[sI p1, sJ q2, sS, sJ q3, sS, sJ q4, sS, sJ q5, sS, sI n1, sI n2, sI t3, sI tr, sJ s1, sS, sJ g2, sS, sJ g3, sS, sR ct, sJ lw, sS, sJ s2, sS, sJ s3, sS, sJ act, sS, sI n1, sI 0, sI 0, sI 1, sI n1, sI 0, sI 0, sU, sU] [(.int (roomF n1)), (.long (8 : Int64))])) st150 ?_
          refine Go.st (fun _ k => XS.i2l X150.here hx rfl (hb hby at_402) rfl k) ?_
          refine Go.st (S' := T150.setTop (mkF m 404 #[sI p1, sJ q2, sS, sJ q3, sS, sJ q4, sS, sJ q5, sS, sI n1, sI n2, sI t3, sI tr, sJ s1, sS, sJ g2, sS, sJ g3, sS, sR ct, sJ lw, sS, sJ s2, sS, sJ s3, sS, sJ act, sS, sI n1, sI 0, sI 0, sI 1, sI n1, sI 0, sI 0, sU, sU] [(.long ((8 : Int64) * ((roomF n1).toInt64)))])) (fun _ k => XS.lmul X150.here hx rfl (hb hby at_403) rfl k) ?_
          refine Go.st (S' := T150.setTop (mkF m 407 #[sI p1, sJ q2, sS, sJ q3, sS, sJ q4, sS, sJ q5, sS, sI n1, sI n2, sI t3, sI tr, sJ s1, sS, sJ g2, sS, sJ g3, sS, sR ct, sJ lw, sS, sJ s2, sS, sJ s3, sS, sJ act, sS, sI n1, sI 0, sI 0, sI 1, sI n1, sI 0, sI 0, sU, sU] [(.long (16 : Int64)), (.long ((8 : Int64) * ((roomF n1).toInt64)))])) (X150.ldc2Long hx hown (mvT hZ (ww hw 55 rfl)) (g := (mkF m 404 #[sI p1, sJ q2, sS, sJ q3, sS, sJ q4, sS, sJ q5, sS, sI n1, sI n2, sI t3, sI tr, sJ s1, sS, sJ g2, sS, sJ g3, sS, sR ct, sJ lw, sS, sJ s2, sS, sJ s3, sS, sJ act, sS, sI n1, sI 0, sI 0, sI 1, sI n1, sI 0, sI 0, sU, sU] [(.long ((8 : Int64) * ((roomF n1).toInt64)))])) rfl (hb hby at_404)) ?_
          refine Go.st (fun _ k => XS.iload X150.here hx rfl (hb hby at_407) rfl k) ?_
          refine Go.st (fun _ k => XS.i2l X150.here hx rfl (hb hby at_409) rfl k) ?_
          refine Go.st (fun _ k => XS.lmul X150.here hx rfl (hb hby at_410) rfl k) ?_
          refine Go.st (fun _ k => XS.ladd X150.here hx rfl (hb hby at_411) rfl k) ?_
          refine Go.st (fun _ k => XS.lstore X150.here hx rfl (hb hby at_412) rfl (l' := #[sI p1, sJ q2, sS, sJ q3, sS, sJ q4, sS, sJ q5, sS, sI n1, sI n2, sI t3, sI tr, sJ s1, sS, sJ g2, sS, sJ g3, sS, sR ct, sJ lw, sS, sJ s2, sS, sJ s3, sS, sJ act, sS, sI n1, sI 0, sI 0, sI 1, sI n1, sI 0, sI 0, sJ (((8 : Int64) * ((roomF n1).toInt64)) + (0 : Int64)), sS]) rfl k) ?_
          refine Go.st (fun _ k => XS.lload X150.here hx rfl (hb hby at_414) rfl k) ?_
          refine Go.st (S' := T150.setTop (mkF m 418 #[sI p1, sJ q2, sS, sJ q3, sS, sJ q4, sS, sJ q5, sS, sI n1, sI n2, sI t3, sI tr, sJ s1, sS, sJ g2, sS, sJ g3, sS, sR ct, sJ lw, sS, sJ s2, sS, sJ s3, sS, sJ act, sS, sI n1, sI 0, sI 0, sI 1, sI n1, sI 0, sI 0, sJ (((8 : Int64) * ((roomF n1).toInt64)) + (0 : Int64)), sS] [(.long (((8 : Int64) * ((roomF n1).toInt64)) + (0 : Int64))), (.long act)])) (fun _ k => XS.lload X150.here hx rfl (hb hby at_416) rfl k) ?_
          refine Go.st (S' := T150.setTop (mkF m 419 #[sI p1, sJ q2, sS, sJ q3, sS, sJ q4, sS, sJ q5, sS, sI n1, sI n2, sI t3, sI tr, sJ s1, sS, sJ g2, sS, sJ g3, sS, sR ct, sJ lw, sS, sJ s2, sS, sJ s3, sS, sJ act, sS, sI n1, sI 0, sI 0, sI 1, sI n1, sI 0, sI 0, sJ (((8 : Int64) * ((roomF n1).toInt64)) + (0 : Int64)), sS] [(.int (lcmpW act (((8 : Int64) * ((roomF n1).toInt64)) + (0 : Int64))))])) (fun _ k => XS.lcmp X150.here hx rfl (hb hby at_418) rfl k) ?_
          refine Go.st (fun _ k => XS.ifNo X150.here hx rfl (hb hby at_419) rfl (own_Leq (by rw [hact]; simp only [expF, curF, ocF, olF, hc197, hc209, hc236_1, hc371_2, if_true, if_false] <;> first | rfl | decide)).2 k) ?_
          refine Go.st (fun _ k => XS.iconst X150.here hx rfl (hb hby at_422) k) ?_
          refine Go.st (S' := T150.setTop (mkF m 427 #[sI p1, sJ q2, sS, sJ q3, sS, sJ q4, sS, sJ q5, sS, sI n1, sI n2, sI t3, sI tr, sJ s1, sS, sJ g2, sS, sJ g3, sS, sR ct, sJ lw, sS, sJ s2, sS, sJ s3, sS, sJ act, sS, sI n1, sI 0, sI 0, sI 1, sI n1, sI 0, sI 0, sJ (((8 : Int64) * ((roomF n1).toInt64)) + (0 : Int64)), sS] [(.int (1 : Int32))])) (fun _ k => XS.goto X150.here hx rfl (pc0 := 423) (pc' := 427) rfl (hb hby at_423) (by decide) (by decide) k) ?_
          exact own_retN X150 hx hlk hret (by simp) (hb hby at_427) eq150 ⟨rfl, N150⟩ (by decide) (by decide)
        · refine Go.st (S' := Tj.setTop (mkF m 374 #[sI p1, sJ q2, sS, sJ q3, sS, sJ q4, sS, sJ q5, sS, sI n1, sI n2, sI t3, sI tr, sJ s1, sS, sJ g2, sS, sJ g3, sS, sR ct, sJ lw, sS, sJ s2, sS, sJ s3, sS, sJ act, sS, sI n1, sI 0, sI 0, sI 1, sI n1, sI 0, sI 0, sU, sU] [])) (fun _ k => XS.ifNo Xj.here hx rfl (hb hby at_371) rfl ((if0 _ _).trans (feq hc371_2).1) k) ?_
          refine Go.st (S' := Tj.setTop (mkF m 377 #[sI p1, sJ q2, sS, sJ q3, sS, sJ q4, sS, sJ q5, sS, sI n1, sI n2, sI t3, sI tr, sJ s1, sS, sJ g2, sS, sJ g3, sS, sR ct, sJ lw, sS, sJ s2, sS, sJ s3, sS, sJ act, sS, sI n1, sI 0, sI 0, sI 1, sI n1, sI 0, sI 0, sU, sU] [(.long (8 : Int64))])) (Xj.ldc2Long hx hown (mvT hZ (ww hw 51 rfl)) (g := (mkF m 374 #[sI p1, sJ q2, sS, sJ q3, sS, sJ q4, sS, sJ q5, sS, sI n1, sI n2, sI t3, sI tr, sJ s1, sS, sJ g2, sS, sJ g3, sS, sR ct, sJ lw, sS, sJ s2, sS, sJ s3, sS, sJ act, sS, sI n1, sI 0, sI 0, sI 1, sI n1, sI 0, sI 0, sU, sU] [])) rfl (hb hby at_374)) ?_
          refine Go.st (fun _ k => XS.iload Xj.here hx rfl (hb hby at_377) rfl k) ?_
          refine Go.st (fun _ k => XS.i2l Xj.here hx rfl (hb hby at_379) rfl k) ?_
          refine Go.st (S' := Tj.setTop (mkF m 381 #[sI p1, sJ q2, sS, sJ q3, sS, sJ q4, sS, sJ q5, sS, sI n1, sI n2, sI t3, sI tr, sJ s1, sS, sJ g2, sS, sJ g3, sS, sR ct, sJ lw, sS, sJ s2, sS, sJ s3, sS, sJ act, sS, sI n1, sI 0, sI 0, sI 1, sI n1, sI 0, sI 0, sU, sU] [(.long ((8 : Int64) * (n1.toInt64)))])) (fun _ k => XS.lmul Xj.here hx rfl (hb hby at_380) rfl k) ?_
          refine Go.st (S' := Tj.setTop (mkF m 384 #[sI p1, sJ q2, sS, sJ q3, sS, sJ q4, sS, sJ q5, sS, sI n1, sI n2, sI t3, sI tr, sJ s1, sS, sJ g2, sS, sJ g3, sS, sR ct, sJ lw, sS, sJ s2, sS, sJ s3, sS, sJ act, sS, sI n1, sI 0, sI 0, sI 1, sI n1, sI 0, sI 0, sU, sU] [(.long (16 : Int64)), (.long ((8 : Int64) * (n1.toInt64)))])) (Xj.ldc2Long hx hown (mvT hZ (ww hw 55 rfl)) (g := (mkF m 381 #[sI p1, sJ q2, sS, sJ q3, sS, sJ q4, sS, sJ q5, sS, sI n1, sI n2, sI t3, sI tr, sJ s1, sS, sJ g2, sS, sJ g3, sS, sR ct, sJ lw, sS, sJ s2, sS, sJ s3, sS, sJ act, sS, sI n1, sI 0, sI 0, sI 1, sI n1, sI 0, sI 0, sU, sU] [(.long ((8 : Int64) * (n1.toInt64)))])) rfl (hb hby at_381)) ?_
          refine Go.st (fun _ k => XS.iload Xj.here hx rfl (hb hby at_384) rfl k) ?_
          refine Go.st (fun _ k => XS.i2l Xj.here hx rfl (hb hby at_386) rfl k) ?_
          refine Go.st (fun _ k => XS.lmul Xj.here hx rfl (hb hby at_387) rfl k) ?_
          refine Go.st (fun _ k => XS.ladd Xj.here hx rfl (hb hby at_388) rfl k) ?_
          refine Go.st (fun _ k => XS.lstore Xj.here hx rfl (hb hby at_389) rfl (l' := #[sI p1, sJ q2, sS, sJ q3, sS, sJ q4, sS, sJ q5, sS, sI n1, sI n2, sI t3, sI tr, sJ s1, sS, sJ g2, sS, sJ g3, sS, sR ct, sJ lw, sS, sJ s2, sS, sJ s3, sS, sJ act, sS, sI n1, sI 0, sI 0, sI 1, sI n1, sI 0, sI 0, sJ (((8 : Int64) * (n1.toInt64)) + (0 : Int64)), sS]) rfl k) ?_
          refine Go.st (fun _ k => XS.goto Xj.here hx rfl (pc0 := 391) (pc' := 414) rfl (hb hby at_391) (by decide) (by decide) k) ?_
          refine Go.st (S' := Tj.setTop (mkF m 416 #[sI p1, sJ q2, sS, sJ q3, sS, sJ q4, sS, sJ q5, sS, sI n1, sI n2, sI t3, sI tr, sJ s1, sS, sJ g2, sS, sJ g3, sS, sR ct, sJ lw, sS, sJ s2, sS, sJ s3, sS, sJ act, sS, sI n1, sI 0, sI 0, sI 1, sI n1, sI 0, sI 0, sJ (((8 : Int64) * (n1.toInt64)) + (0 : Int64)), sS] [(.long act)])) (fun _ k => XS.lload Xj.here hx rfl (hb hby at_414) rfl k) ?_
          refine Go.st (S' := Tj.setTop (mkF m 418 #[sI p1, sJ q2, sS, sJ q3, sS, sJ q4, sS, sJ q5, sS, sI n1, sI n2, sI t3, sI tr, sJ s1, sS, sJ g2, sS, sJ g3, sS, sR ct, sJ lw, sS, sJ s2, sS, sJ s3, sS, sJ act, sS, sI n1, sI 0, sI 0, sI 1, sI n1, sI 0, sI 0, sJ (((8 : Int64) * (n1.toInt64)) + (0 : Int64)), sS] [(.long (((8 : Int64) * (n1.toInt64)) + (0 : Int64))), (.long act)])) (fun _ k => XS.lload Xj.here hx rfl (hb hby at_416) rfl k) ?_
          refine Go.st (S' := Tj.setTop (mkF m 419 #[sI p1, sJ q2, sS, sJ q3, sS, sJ q4, sS, sJ q5, sS, sI n1, sI n2, sI t3, sI tr, sJ s1, sS, sJ g2, sS, sJ g3, sS, sR ct, sJ lw, sS, sJ s2, sS, sJ s3, sS, sJ act, sS, sI n1, sI 0, sI 0, sI 1, sI n1, sI 0, sI 0, sJ (((8 : Int64) * (n1.toInt64)) + (0 : Int64)), sS] [(.int (lcmpW act (((8 : Int64) * (n1.toInt64)) + (0 : Int64))))])) (fun _ k => XS.lcmp Xj.here hx rfl (hb hby at_418) rfl k) ?_
          refine Go.st (fun _ k => XS.ifNo Xj.here hx rfl (hb hby at_419) rfl (own_Leq (by rw [hact]; simp only [expF, curF, ocF, olF, hc197, hc209, hc236_1, hc371_2, if_true, if_false] <;> first | rfl | decide)).2 k) ?_
          refine Go.st (fun _ k => XS.iconst Xj.here hx rfl (hb hby at_422) k) ?_
          refine Go.st (S' := Tj.setTop (mkF m 427 #[sI p1, sJ q2, sS, sJ q3, sS, sJ q4, sS, sJ q5, sS, sI n1, sI n2, sI t3, sI tr, sJ s1, sS, sJ g2, sS, sJ g3, sS, sR ct, sJ lw, sS, sJ s2, sS, sJ s3, sS, sJ act, sS, sI n1, sI 0, sI 0, sI 1, sI n1, sI 0, sI 0, sJ (((8 : Int64) * (n1.toInt64)) + (0 : Int64)), sS] [(.int (1 : Int32))])) (fun _ k => XS.goto Xj.here hx rfl (pc0 := 423) (pc' := 427) rfl (hb hby at_423) (by decide) (by decide) k) ?_
          exact own_retN Xj hx hlk hret (by simp) (hb hby at_427) ej ⟨rfl, Nj⟩ (by decide) (by decide)
      · refine Go.st (fun _ k => XS.ifNo Xj.here hx rfl (hb hby at_236) rfl ((if0 _ _).trans (feq hc236_1).1) k) ?_
        refine Go.st (S' := Tj.setTop (mkF m 241 #[sI p1, sJ q2, sS, sJ q3, sS, sJ q4, sS, sJ q5, sS, sI n1, sI n2, sI t3, sI tr, sJ s1, sS, sJ g2, sS, sJ g3, sS, sR ct, sJ lw, sS, sJ s2, sS, sJ s3, sS, sJ act, sS, sI n1, sI 0, sI 0, sI 1, sU, sU, sU, sU, sU] [(.int (1 : Int32))])) (fun _ k => XS.iload Xj.here hx rfl (hb hby at_239) rfl k) ?_
        refine Go.st (fun _ k => XS.ifYes Xj.here hx rfl (pc0 := 241) (pc' := 250) rfl (hb hby at_241) rfl ((if0 _ _).trans (feq (by decide)).2) (by decide) (by decide) k) ?_
        refine Go.st (fun _ k => XS.iload Xj.here hx rfl (hb hby at_250) rfl k) ?_
        refine Go.st (S' := Tj.setTop (mkF m 253 #[sI p1, sJ q2, sS, sJ q3, sS, sJ q4, sS, sJ q5, sS, sI n1, sI n2, sI t3, sI tr, sJ s1, sS, sJ g2, sS, sJ g3, sS, sR ct, sJ lw, sS, sJ s2, sS, sJ s3, sS, sJ act, sS, sI n1, sI 0, sI 0, sI 1, sU, sU, sU, sU, sU] [(.int (1 : Int32)), (.int (1 : Int32))])) (fun _ k => XS.iconst Xj.here hx rfl (hb hby at_252) k) ?_
        refine Go.st (fun _ k => XS.icmpNo Xj.here hx rfl (hb hby at_253) rfl (teq (by decide)).2 k) ?_
        refine Go.st (fun _ k => XS.iconst Xj.here hx rfl (hb hby at_256) k) ?_
        refine Go.st (fun _ k => XS.istore Xj.here hx rfl (hb hby at_257) rfl (l' := #[sI p1, sJ q2, sS, sJ q3, sS, sJ q4, sS, sJ q5, sS, sI n1, sI n2, sI t3, sI tr, sJ s1, sS, sJ g2, sS, sJ g3, sS, sR ct, sJ lw, sS, sJ s2, sS, sJ s3, sS, sJ act, sS, sI n1, sI 1, sI 0, sI 1, sU, sU, sU, sU, sU]) rfl k) ?_
        refine Go.st (fun _ k => XS.goto Xj.here hx rfl (pc0 := 259) (pc' := 265) rfl (hb hby at_259) (by decide) (by decide) k) ?_
        refine Go.st (fun _ k => XS.iload Xj.here hx rfl (hb hby at_265) rfl k) ?_
        refine Go.st (fun _ k => XS.iconst Xj.here hx rfl (hb hby at_267) k) ?_
        refine Go.st (S' := Tj.setTop (mkF m 269 #[sI p1, sJ q2, sS, sJ q3, sS, sJ q4, sS, sJ q5, sS, sI n1, sI n2, sI t3, sI tr, sJ s1, sS, sJ g2, sS, sJ g3, sS, sR ct, sJ lw, sS, sJ s2, sS, sJ s3, sS, sJ act, sS, sI n1, sI 1, sI 0, sI 1, sU, sU, sU, sU, sU] [(.int (2 : Int32))])) (fun _ k => XS.iadd Xj.here hx rfl (hb hby at_268) rfl k) ?_
        refine Go.st (fun _ k => XS.istore Xj.here hx rfl (hb hby at_269) rfl (l' := #[sI p1, sJ q2, sS, sJ q3, sS, sJ q4, sS, sJ q5, sS, sI n1, sI n2, sI t3, sI tr, sJ s1, sS, sJ g2, sS, sJ g3, sS, sR ct, sJ lw, sS, sJ s2, sS, sJ s3, sS, sJ act, sS, sI n1, sI 1, sI 0, sI 2, sU, sU, sU, sU, sU]) rfl k) ?_
        refine Go.st (S' := Tj.setTop (mkF m 273 #[sI p1, sJ q2, sS, sJ q3, sS, sJ q4, sS, sJ q5, sS, sI n1, sI n2, sI t3, sI tr, sJ s1, sS, sJ g2, sS, sJ g3, sS, sR ct, sJ lw, sS, sJ s2, sS, sJ s3, sS, sJ act, sS, sI n1, sI 1, sI 0, sI 2, sU, sU, sU, sU, sU] [(.int (2 : Int32))])) (fun _ k => XS.iload Xj.here hx rfl (hb hby at_271) rfl k) ?_
        refine Go.st (fun _ k => XS.ifYes Xj.here hx rfl (pc0 := 273) (pc' := 280) rfl (hb hby at_273) rfl ((if0 _ _).trans (feq (by decide)).2) (by decide) (by decide) k) ?_
        refine Go.st (fun _ k => XS.iload Xj.here hx rfl (hb hby at_280) rfl k) ?_
        refine Go.st (S' := Tj.setTop (mkF m 283 #[sI p1, sJ q2, sS, sJ q3, sS, sJ q4, sS, sJ q5, sS, sI n1, sI n2, sI t3, sI tr, sJ s1, sS, sJ g2, sS, sJ g3, sS, sR ct, sJ lw, sS, sJ s2, sS, sJ s3, sS, sJ act, sS, sI n1, sI 1, sI 0, sI 2, sU, sU, sU, sU, sU] [(.int (1 : Int32)), (.int (2 : Int32))])) (fun _ k => XS.iconst Xj.here hx rfl (hb hby at_282) k) ?_
        refine Go.st (fun _ k => XS.icmpYes Xj.here hx rfl (pc0 := 283) (pc' := 291) rfl (hb hby at_283) rfl (feq (by decide)).2 (by decide) (by decide) k) ?_
        refine Go.st (fun _ k => XS.iload Xj.here hx rfl (hb hby at_291) rfl k) ?_
        refine Go.st (S' := Tj.setTop (mkF m 294 #[sI p1, sJ q2, sS, sJ q3, sS, sJ q4, sS, sJ q5, sS, sI n1, sI n2, sI t3, sI tr, sJ s1, sS, sJ g2, sS, sJ g3, sS, sR ct, sJ lw, sS, sJ s2, sS, sJ s3, sS, sJ act, sS, sI n1, sI 1, sI 0, sI 2, sU, sU, sU, sU, sU] [(.int (2 : Int32)), (.int (2 : Int32))])) (fun _ k => XS.iconst Xj.here hx rfl (hb hby at_293) k) ?_
        refine Go.st (fun _ k => XS.icmpNo Xj.here hx rfl (hb hby at_294) rfl (teq (by decide)).2 k) ?_
        refine Go.st (fun _ k => XS.iload Xj.here hx rfl (hb hby at_297) rfl k) ?_
        refine Go.st (fun _ k => XS.goto Xj.here hx rfl (pc0 := 299) (pc' := 304) rfl (hb hby at_299) (by decide) (by decide) k) ?_
        refine Go.st (fun _ k => XS.istore Xj.here hx rfl (hb hby at_304) rfl (l' := #[sI p1, sJ q2, sS, sJ q3, sS, sJ q4, sS, sJ q5, sS, sI n1, sI n2, sI t3, sI tr, sJ s1, sS, sJ g2, sS, sJ g3, sS, sR ct, sJ lw, sS, sJ s2, sS, sJ s3, sS, sJ act, sS, sI n1, sI 1, sI 0, sI 2, sI 1, sU, sU, sU, sU]) rfl k) ?_
        refine Go.st (fun _ k => XS.iload Xj.here hx rfl (hb hby at_306) rfl k) ?_
        refine Go.st (S' := Tj.setTop (mkF m 309 #[sI p1, sJ q2, sS, sJ q3, sS, sJ q4, sS, sJ q5, sS, sI n1, sI n2, sI t3, sI tr, sJ s1, sS, sJ g2, sS, sJ g3, sS, sR ct, sJ lw, sS, sJ s2, sS, sJ s3, sS, sJ act, sS, sI n1, sI 1, sI 0, sI 2, sI 1, sU, sU, sU, sU] [(.int (1 : Int32)), (.int (2 : Int32))])) (fun _ k => XS.iconst Xj.here hx rfl (hb hby at_308) k) ?_
        refine Go.st (fun _ k => XS.icmpYes Xj.here hx rfl (pc0 := 309) (pc' := 316) rfl (hb hby at_309) rfl (tlt (by decide)).2.2.1 (by decide) (by decide) k) ?_
        refine Go.st (fun _ k => XS.iload Xj.here hx rfl (hb hby at_316) rfl k) ?_
        refine Go.st (S' := Tj.setTop (mkF m 319 #[sI p1, sJ q2, sS, sJ q3, sS, sJ q4, sS, sJ q5, sS, sI n1, sI n2, sI t3, sI tr, sJ s1, sS, sJ g2, sS, sJ g3, sS, sR ct, sJ lw, sS, sJ s2, sS, sJ s3, sS, sJ act, sS, sI n1, sI 1, sI 0, sI 2, sI 1, sU, sU, sU, sU] [(.int (2 : Int32)), (.int (2 : Int32))])) (fun _ k => XS.iconst Xj.here hx rfl (hb hby at_318) k) ?_
        refine Go.st (fun _ k => XS.icmpNo Xj.here hx rfl (hb hby at_319) rfl (teq (by decide)).2 k) ?_
        refine Go.st (fun _ k => XS.iload Xj.here hx rfl (hb hby at_322) rfl k) ?_
        refine Go.st (fun _ k => XS.goto Xj.here hx rfl (pc0 := 324) (pc' := 332) rfl (hb hby at_324) (by decide) (by decide) k) ?_
        refine Go.st (fun _ k => XS.istore Xj.here hx rfl (hb hby at_332) rfl (l' := #[sI p1, sJ q2, sS, sJ q3, sS, sJ q4, sS, sJ q5, sS, sI n1, sI n2, sI t3, sI tr, sJ s1, sS, sJ g2, sS, sJ g3, sS, sR ct, sJ lw, sS, sJ s2, sS, sJ s3, sS, sJ act, sS, sI n1, sI 1, sI 0, sI 2, sI 1, sI n1, sU, sU, sU]) rfl k) ?_
        refine Go.st (fun _ k => XS.iload Xj.here hx rfl (hb hby at_334) rfl k) ?_
        refine Go.st (S' := Tj.setTop (mkF m 337 #[sI p1, sJ q2, sS, sJ q3, sS, sJ q4, sS, sJ q5, sS, sI n1, sI n2, sI t3, sI tr, sJ s1, sS, sJ g2, sS, sJ g3, sS, sR ct, sJ lw, sS, sJ s2, sS, sJ s3, sS, sJ act, sS, sI n1, sI 1, sI 0, sI 2, sI 1, sI n1, sU, sU, sU] [(.int (1 : Int32)), (.int (2 : Int32))])) (fun _ k => XS.iconst Xj.here hx rfl (hb hby at_336) k) ?_
        refine Go.st (fun _ k => XS.icmpYes Xj.here hx rfl (pc0 := 337) (pc' := 344) rfl (hb hby at_337) rfl (tlt (by decide)).2.2.1 (by decide) (by decide) k) ?_
        refine Go.st (fun _ k => XS.iload Xj.here hx rfl (hb hby at_344) rfl k) ?_
        refine Go.st (S' := Tj.setTop (mkF m 347 #[sI p1, sJ q2, sS, sJ q3, sS, sJ q4, sS, sJ q5, sS, sI n1, sI n2, sI t3, sI tr, sJ s1, sS, sJ g2, sS, sJ g3, sS, sR ct, sJ lw, sS, sJ s2, sS, sJ s3, sS, sJ act, sS, sI n1, sI 1, sI 0, sI 2, sI 1, sI n1, sU, sU, sU] [(.int (2 : Int32)), (.int (2 : Int32))])) (fun _ k => XS.iconst Xj.here hx rfl (hb hby at_346) k) ?_
        refine Go.st (fun _ k => XS.icmpNo Xj.here hx rfl (hb hby at_347) rfl (teq (by decide)).2 k) ?_
        refine Go.st (fun _ k => XS.iload Xj.here hx rfl (hb hby at_350) rfl k) ?_
        refine Go.st (fun _ k => XS.goto Xj.here hx rfl (pc0 := 352) (pc' := 367) rfl (hb hby at_352) (by decide) (by decide) k) ?_
        refine Go.st (fun _ k => XS.istore Xj.here hx rfl (hb hby at_367) rfl (l' := #[sI p1, sJ q2, sS, sJ q3, sS, sJ q4, sS, sJ q5, sS, sI n1, sI n2, sI t3, sI tr, sJ s1, sS, sJ g2, sS, sJ g3, sS, sR ct, sJ lw, sS, sJ s2, sS, sJ s3, sS, sJ act, sS, sI n1, sI 1, sI 0, sI 2, sI 1, sI n1, sI n1, sU, sU]) rfl k) ?_
        refine Go.st (S' := Tj.setTop (mkF m 371 #[sI p1, sJ q2, sS, sJ q3, sS, sJ q4, sS, sJ q5, sS, sI n1, sI n2, sI t3, sI tr, sJ s1, sS, sJ g2, sS, sJ g3, sS, sR ct, sJ lw, sS, sJ s2, sS, sJ s3, sS, sJ act, sS, sI n1, sI 1, sI 0, sI 2, sI 1, sI n1, sI n1, sU, sU] [(.int tr)])) (fun _ k => XS.iload Xj.here hx rfl (hb hby at_369) rfl k) ?_
        by_cases hc371_3 : tr = (0 : Int32)
        · refine Go.st (S' := Tj.setTop (mkF m 394 #[sI p1, sJ q2, sS, sJ q3, sS, sJ q4, sS, sJ q5, sS, sI n1, sI n2, sI t3, sI tr, sJ s1, sS, sJ g2, sS, sJ g3, sS, sR ct, sJ lw, sS, sJ s2, sS, sJ s3, sS, sJ act, sS, sI n1, sI 1, sI 0, sI 2, sI 1, sI n1, sI n1, sU, sU] [])) (fun _ k => XS.ifYes Xj.here hx rfl (pc0 := 371) (pc' := 394) rfl (hb hby at_371) rfl ((if0 _ _).trans (teq hc371_3).1) (by decide) (by decide) k) ?_
          refine Go.st (S' := Tj.setTop (mkF m 397 #[sI p1, sJ q2, sS, sJ q3, sS, sJ q4, sS, sJ q5, sS, sI n1, sI n2, sI t3, sI tr, sJ s1, sS, sJ g2, sS, sJ g3, sS, sR ct, sJ lw, sS, sJ s2, sS, sJ s3, sS, sJ act, sS, sI n1, sI 1, sI 0, sI 2, sI 1, sI n1, sI n1, sU, sU] [(.long (8 : Int64))])) (Xj.ldc2Long hx hown (mvT hZ (ww hw 51 rfl)) (g := (mkF m 394 #[sI p1, sJ q2, sS, sJ q3, sS, sJ q4, sS, sJ q5, sS, sI n1, sI n2, sI t3, sI tr, sJ s1, sS, sJ g2, sS, sJ g3, sS, sR ct, sJ lw, sS, sJ s2, sS, sJ s3, sS, sJ act, sS, sI n1, sI 1, sI 0, sI 2, sI 1, sI n1, sI n1, sU, sU] [])) rfl (hb hby at_394)) ?_
          refine Go.st (S' := Tj.setTop (mkF m 399 #[sI p1, sJ q2, sS, sJ q3, sS, sJ q4, sS, sJ q5, sS, sI n1, sI n2, sI t3, sI tr, sJ s1, sS, sJ g2, sS, sJ g3, sS, sR ct, sJ lw, sS, sJ s2, sS, sJ s3, sS, sJ act, sS, sI n1, sI 1, sI 0, sI 2, sI 1, sI n1, sI n1, sU, sU] [(.int (1 : Int32)), (.long (8 : Int64))])) (fun _ k => XS.iload Xj.here hx rfl (hb hby at_397) rfl k) ?_
          obtain ⟨_, T151, L151, X151, ⟨rfl, Nq151, eq151⟩, st151⟩ := own_callS Xj hx hZ hown (ww hw 52 rfl) (ww hw 53 rfl) (ww hw 39 rfl) (ww hw 54 rfl) (by decide) ej (rmRoom l Z a0 hw [] w_NONE k_NONE hS (1 : Int32) hj Oj) 2 (by decide) (by decide) (by decide) (by decide) (g := (mkF m 399 #[sI p1, sJ q2, sS, sJ q3, sS, sJ q4, sS, sJ q5, sS, sI n1, sI n2, sI t3, sI tr, sJ s1, sS, sJ g2, sS, sJ g3, sS, sR ct, sJ lw, sS, sJ s2, sS, sJ s3, sS, sJ act, sS, sI n1, sI 1, sI 0, sI 2, sI 1, sI n1, sI n1, sU, sU] [(.int (1 : Int32)), (.long (8 : Int64))])) rfl (by rw [hml]; rfl) [(.int (1 : Int32))] [(.long (8 : Int64))] rfl (lenOf pd_674828 rfl) rfl (by show 2 * 0 + _ ≤ _; exact Nat.le_of_eq rfl) (hb hby at_399)
          have N151 := Fr.app Nj Nq151
          refine Go.st (S' := T151.setTop (mkF m 402 #[sI p1, sJ q2, sS, sJ q3, sS, sJ q4, sS, sJ q5, sS, sI n1, sI n2, sI t3, sI tr, sJ s1, sS, sJ g2, sS, sJ g3, sS, sR ct, sJ lw, sS, sJ s2, sS, sJ s3, sS, sJ act, sS, sI n1, sI 1, sI 0, sI 2, sI 1, sI n1, sI n1, sU, sU] [(.int (roomF (1 : Int32))), (.long (8 : Int64))])) st151 ?_
          refine Go.st (fun _ k => XS.i2l X151.here hx rfl (hb hby at_402) rfl k) ?_
          refine Go.st (S' := T151.setTop (mkF m 404 #[sI p1, sJ q2, sS, sJ q3, sS, sJ q4, sS, sJ q5, sS, sI n1, sI n2, sI t3, sI tr, sJ s1, sS, sJ g2, sS, sJ g3, sS, sR ct, sJ lw, sS, sJ s2, sS, sJ s3, sS, sJ act, sS, sI n1, sI 1, sI 0, sI 2, sI 1, sI n1, sI n1, sU, sU] [(.long ((8 : Int64) * ((roomF (1 : Int32)).toInt64)))])) (fun _ k => XS.lmul X151.here hx rfl (hb hby at_403) rfl k) ?_
          refine Go.st (S' := T151.setTop (mkF m 407 #[sI p1, sJ q2, sS, sJ q3, sS, sJ q4, sS, sJ q5, sS, sI n1, sI n2, sI t3, sI tr, sJ s1, sS, sJ g2, sS, sJ g3, sS, sR ct, sJ lw, sS, sJ s2, sS, sJ s3, sS, sJ act, sS, sI n1, sI 1, sI 0, sI 2, sI 1, sI n1, sI n1, sU, sU] [(.long (16 : Int64)), (.long ((8 : Int64) * ((roomF (1 : Int32)).toInt64)))])) (X151.ldc2Long hx hown (mvT hZ (ww hw 55 rfl)) (g := (mkF m 404 #[sI p1, sJ q2, sS, sJ q3, sS, sJ q4, sS, sJ q5, sS, sI n1, sI n2, sI t3, sI tr, sJ s1, sS, sJ g2, sS, sJ g3, sS, sR ct, sJ lw, sS, sJ s2, sS, sJ s3, sS, sJ act, sS, sI n1, sI 1, sI 0, sI 2, sI 1, sI n1, sI n1, sU, sU] [(.long ((8 : Int64) * ((roomF (1 : Int32)).toInt64)))])) rfl (hb hby at_404)) ?_
          refine Go.st (fun _ k => XS.iload X151.here hx rfl (hb hby at_407) rfl k) ?_
          refine Go.st (fun _ k => XS.i2l X151.here hx rfl (hb hby at_409) rfl k) ?_
          refine Go.st (fun _ k => XS.lmul X151.here hx rfl (hb hby at_410) rfl k) ?_
          refine Go.st (fun _ k => XS.ladd X151.here hx rfl (hb hby at_411) rfl k) ?_
          refine Go.st (fun _ k => XS.lstore X151.here hx rfl (hb hby at_412) rfl (l' := #[sI p1, sJ q2, sS, sJ q3, sS, sJ q4, sS, sJ q5, sS, sI n1, sI n2, sI t3, sI tr, sJ s1, sS, sJ g2, sS, sJ g3, sS, sR ct, sJ lw, sS, sJ s2, sS, sJ s3, sS, sJ act, sS, sI n1, sI 1, sI 0, sI 2, sI 1, sI n1, sI n1, sJ (((8 : Int64) * ((roomF (1 : Int32)).toInt64)) + ((16 : Int64) * (n1.toInt64))), sS]) rfl k) ?_
          refine Go.st (fun _ k => XS.lload X151.here hx rfl (hb hby at_414) rfl k) ?_
          refine Go.st (S' := T151.setTop (mkF m 418 #[sI p1, sJ q2, sS, sJ q3, sS, sJ q4, sS, sJ q5, sS, sI n1, sI n2, sI t3, sI tr, sJ s1, sS, sJ g2, sS, sJ g3, sS, sR ct, sJ lw, sS, sJ s2, sS, sJ s3, sS, sJ act, sS, sI n1, sI 1, sI 0, sI 2, sI 1, sI n1, sI n1, sJ (((8 : Int64) * ((roomF (1 : Int32)).toInt64)) + ((16 : Int64) * (n1.toInt64))), sS] [(.long (((8 : Int64) * ((roomF (1 : Int32)).toInt64)) + ((16 : Int64) * (n1.toInt64)))), (.long act)])) (fun _ k => XS.lload X151.here hx rfl (hb hby at_416) rfl k) ?_
          refine Go.st (S' := T151.setTop (mkF m 419 #[sI p1, sJ q2, sS, sJ q3, sS, sJ q4, sS, sJ q5, sS, sI n1, sI n2, sI t3, sI tr, sJ s1, sS, sJ g2, sS, sJ g3, sS, sR ct, sJ lw, sS, sJ s2, sS, sJ s3, sS, sJ act, sS, sI n1, sI 1, sI 0, sI 2, sI 1, sI n1, sI n1, sJ (((8 : Int64) * ((roomF (1 : Int32)).toInt64)) + ((16 : Int64) * (n1.toInt64))), sS] [(.int (lcmpW act (((8 : Int64) * ((roomF (1 : Int32)).toInt64)) + ((16 : Int64) * (n1.toInt64)))))])) (fun _ k => XS.lcmp X151.here hx rfl (hb hby at_418) rfl k) ?_
          refine Go.st (fun _ k => XS.ifNo X151.here hx rfl (hb hby at_419) rfl (own_Leq (by rw [hact]; simp only [expF, curF, ocF, olF, hc197, hc209, hc236_1, hc371_3, if_true, if_false] <;> first | rfl | decide)).2 k) ?_
          refine Go.st (fun _ k => XS.iconst X151.here hx rfl (hb hby at_422) k) ?_
          refine Go.st (S' := T151.setTop (mkF m 427 #[sI p1, sJ q2, sS, sJ q3, sS, sJ q4, sS, sJ q5, sS, sI n1, sI n2, sI t3, sI tr, sJ s1, sS, sJ g2, sS, sJ g3, sS, sR ct, sJ lw, sS, sJ s2, sS, sJ s3, sS, sJ act, sS, sI n1, sI 1, sI 0, sI 2, sI 1, sI n1, sI n1, sJ (((8 : Int64) * ((roomF (1 : Int32)).toInt64)) + ((16 : Int64) * (n1.toInt64))), sS] [(.int (1 : Int32))])) (fun _ k => XS.goto X151.here hx rfl (pc0 := 423) (pc' := 427) rfl (hb hby at_423) (by decide) (by decide) k) ?_
          exact own_retN X151 hx hlk hret (by simp) (hb hby at_427) eq151 ⟨rfl, N151⟩ (by decide) (by decide)
        · refine Go.st (S' := Tj.setTop (mkF m 374 #[sI p1, sJ q2, sS, sJ q3, sS, sJ q4, sS, sJ q5, sS, sI n1, sI n2, sI t3, sI tr, sJ s1, sS, sJ g2, sS, sJ g3, sS, sR ct, sJ lw, sS, sJ s2, sS, sJ s3, sS, sJ act, sS, sI n1, sI 1, sI 0, sI 2, sI 1, sI n1, sI n1, sU, sU] [])) (fun _ k => XS.ifNo Xj.here hx rfl (hb hby at_371) rfl ((if0 _ _).trans (feq hc371_3).1) k) ?_
          refine Go.st (S' := Tj.setTop (mkF m 377 #[sI p1, sJ q2, sS, sJ q3, sS, sJ q4, sS, sJ q5, sS, sI n1, sI n2, sI t3, sI tr, sJ s1, sS, sJ g2, sS, sJ g3, sS, sR ct, sJ lw, sS, sJ s2, sS, sJ s3, sS, sJ act, sS, sI n1, sI 1, sI 0, sI 2, sI 1, sI n1, sI n1, sU, sU] [(.long (8 : Int64))])) (Xj.ldc2Long hx hown (mvT hZ (ww hw 51 rfl)) (g := (mkF m 374 #[sI p1, sJ q2, sS, sJ q3, sS, sJ q4, sS, sJ q5, sS, sI n1, sI n2, sI t3, sI tr, sJ s1, sS, sJ g2, sS, sJ g3, sS, sR ct, sJ lw, sS, sJ s2, sS, sJ s3, sS, sJ act, sS, sI n1, sI 1, sI 0, sI 2, sI 1, sI n1, sI n1, sU, sU] [])) rfl (hb hby at_374)) ?_
          refine Go.st (fun _ k => XS.iload Xj.here hx rfl (hb hby at_377) rfl k) ?_
          refine Go.st (fun _ k => XS.i2l Xj.here hx rfl (hb hby at_379) rfl k) ?_
          refine Go.st (S' := Tj.setTop (mkF m 381 #[sI p1, sJ q2, sS, sJ q3, sS, sJ q4, sS, sJ q5, sS, sI n1, sI n2, sI t3, sI tr, sJ s1, sS, sJ g2, sS, sJ g3, sS, sR ct, sJ lw, sS, sJ s2, sS, sJ s3, sS, sJ act, sS, sI n1, sI 1, sI 0, sI 2, sI 1, sI n1, sI n1, sU, sU] [(.long (8 : Int64))])) (fun _ k => XS.lmul Xj.here hx rfl (hb hby at_380) rfl k) ?_
          refine Go.st (S' := Tj.setTop (mkF m 384 #[sI p1, sJ q2, sS, sJ q3, sS, sJ q4, sS, sJ q5, sS, sI n1, sI n2, sI t3, sI tr, sJ s1, sS, sJ g2, sS, sJ g3, sS, sR ct, sJ lw, sS, sJ s2, sS, sJ s3, sS, sJ act, sS, sI n1, sI 1, sI 0, sI 2, sI 1, sI n1, sI n1, sU, sU] [(.long (16 : Int64)), (.long (8 : Int64))])) (Xj.ldc2Long hx hown (mvT hZ (ww hw 55 rfl)) (g := (mkF m 381 #[sI p1, sJ q2, sS, sJ q3, sS, sJ q4, sS, sJ q5, sS, sI n1, sI n2, sI t3, sI tr, sJ s1, sS, sJ g2, sS, sJ g3, sS, sR ct, sJ lw, sS, sJ s2, sS, sJ s3, sS, sJ act, sS, sI n1, sI 1, sI 0, sI 2, sI 1, sI n1, sI n1, sU, sU] [(.long (8 : Int64))])) rfl (hb hby at_381)) ?_
          refine Go.st (fun _ k => XS.iload Xj.here hx rfl (hb hby at_384) rfl k) ?_
          refine Go.st (fun _ k => XS.i2l Xj.here hx rfl (hb hby at_386) rfl k) ?_
          refine Go.st (fun _ k => XS.lmul Xj.here hx rfl (hb hby at_387) rfl k) ?_
          refine Go.st (fun _ k => XS.ladd Xj.here hx rfl (hb hby at_388) rfl k) ?_
          refine Go.st (fun _ k => XS.lstore Xj.here hx rfl (hb hby at_389) rfl (l' := #[sI p1, sJ q2, sS, sJ q3, sS, sJ q4, sS, sJ q5, sS, sI n1, sI n2, sI t3, sI tr, sJ s1, sS, sJ g2, sS, sJ g3, sS, sR ct, sJ lw, sS, sJ s2, sS, sJ s3, sS, sJ act, sS, sI n1, sI 1, sI 0, sI 2, sI 1, sI n1, sI n1, sJ ((8 : Int64) + ((16 : Int64) * (n1.toInt64))), sS]) rfl k) ?_
          refine Go.st (fun _ k => XS.goto Xj.here hx rfl (pc0 := 391) (pc' := 414) rfl (hb hby at_391) (by decide) (by decide) k) ?_
          refine Go.st (S' := Tj.setTop (mkF m 416 #[sI p1, sJ q2, sS, sJ q3, sS, sJ q4, sS, sJ q5, sS, sI n1, sI n2, sI t3, sI tr, sJ s1, sS, sJ g2, sS, sJ g3, sS, sR ct, sJ lw, sS, sJ s2, sS, sJ s3, sS, sJ act, sS, sI n1, sI 1, sI 0, sI 2, sI 1, sI n1, sI n1, sJ ((8 : Int64) + ((16 : Int64) * (n1.toInt64))), sS] [(.long act)])) (fun _ k => XS.lload Xj.here hx rfl (hb hby at_414) rfl k) ?_
          refine Go.st (S' := Tj.setTop (mkF m 418 #[sI p1, sJ q2, sS, sJ q3, sS, sJ q4, sS, sJ q5, sS, sI n1, sI n2, sI t3, sI tr, sJ s1, sS, sJ g2, sS, sJ g3, sS, sR ct, sJ lw, sS, sJ s2, sS, sJ s3, sS, sJ act, sS, sI n1, sI 1, sI 0, sI 2, sI 1, sI n1, sI n1, sJ ((8 : Int64) + ((16 : Int64) * (n1.toInt64))), sS] [(.long ((8 : Int64) + ((16 : Int64) * (n1.toInt64)))), (.long act)])) (fun _ k => XS.lload Xj.here hx rfl (hb hby at_416) rfl k) ?_
          refine Go.st (S' := Tj.setTop (mkF m 419 #[sI p1, sJ q2, sS, sJ q3, sS, sJ q4, sS, sJ q5, sS, sI n1, sI n2, sI t3, sI tr, sJ s1, sS, sJ g2, sS, sJ g3, sS, sR ct, sJ lw, sS, sJ s2, sS, sJ s3, sS, sJ act, sS, sI n1, sI 1, sI 0, sI 2, sI 1, sI n1, sI n1, sJ ((8 : Int64) + ((16 : Int64) * (n1.toInt64))), sS] [(.int (lcmpW act ((8 : Int64) + ((16 : Int64) * (n1.toInt64)))))])) (fun _ k => XS.lcmp Xj.here hx rfl (hb hby at_418) rfl k) ?_
          refine Go.st (fun _ k => XS.ifNo Xj.here hx rfl (hb hby at_419) rfl (own_Leq (by rw [hact]; simp only [expF, curF, ocF, olF, hc197, hc209, hc236_1, hc371_3, if_true, if_false] <;> first | rfl | decide)).2 k) ?_
          refine Go.st (fun _ k => XS.iconst Xj.here hx rfl (hb hby at_422) k) ?_
          refine Go.st (S' := Tj.setTop (mkF m 427 #[sI p1, sJ q2, sS, sJ q3, sS, sJ q4, sS, sJ q5, sS, sI n1, sI n2, sI t3, sI tr, sJ s1, sS, sJ g2, sS, sJ g3, sS, sR ct, sJ lw, sS, sJ s2, sS, sJ s3, sS, sJ act, sS, sI n1, sI 1, sI 0, sI 2, sI 1, sI n1, sI n1, sJ ((8 : Int64) + ((16 : Int64) * (n1.toInt64))), sS] [(.int (1 : Int32))])) (fun _ k => XS.goto Xj.here hx rfl (pc0 := 423) (pc' := 427) rfl (hb hby at_423) (by decide) (by decide) k) ?_
          exact own_retN Xj hx hlk hret (by simp) (hb hby at_427) ej ⟨rfl, Nj⟩ (by decide) (by decide)
  · refine Go.st (fun _ k => XS.ifYes Xj.here hx rfl (pc0 := 197) (pc' := 207) rfl (hb hby at_197) rfl ((if0 _ _).trans (flt hc197).2.2.2) (by decide) (by decide) k) ?_
    refine Go.st (S' := Tj.setTop (mkF m 209 #[sI p1, sJ q2, sS, sJ q3, sS, sJ q4, sS, sJ q5, sS, sI n1, sI n2, sI t3, sI tr, sJ s1, sS, sJ g2, sS, sJ g3, sS, sR ct, sJ lw, sS, sJ s2, sS, sJ s3, sS, sJ act, sS, sI 0, sI 0, sI 0, sI 0, sU, sU, sU, sU, sU] [(.int n2)])) (fun _ k => XS.iload Xj.here hx rfl (hb hby at_207) rfl k) ?_
    by_cases hc209_1 : (0 : Int32) < n2
    · refine Go.st (fun _ k => XS.ifNo Xj.here hx rfl (hb hby at_209) rfl ((if0 _ _).trans (tlt hc209_1).2.2.2) k) ?_
      refine Go.st (S' := Tj.setTop (mkF m 214 #[sI p1, sJ q2, sS, sJ q3, sS, sJ q4, sS, sJ q5, sS, sI n1, sI n2, sI t3, sI tr, sJ s1, sS, sJ g2, sS, sJ g3, sS, sR ct, sJ lw, sS, sJ s2, sS, sJ s3, sS, sJ act, sS, sI 0, sI 0, sI 0, sI 0, sU, sU, sU, sU, sU] [(.int (0 : Int32))])) (fun _ k => XS.iload Xj.here hx rfl (hb hby at_212) rfl k) ?_
      refine Go.st (fun _ k => XS.ifNo Xj.here hx rfl (hb hby at_214) rfl ((if0 _ _).trans (teq (by decide)).2) k) ?_
      refine Go.st (fun _ k => XS.iload Xj.here hx rfl (hb hby at_217) rfl k) ?_
      refine Go.st (fun _ k => XS.istore Xj.here hx rfl (hb hby at_219) rfl (l' := #[sI p1, sJ q2, sS, sJ q3, sS, sJ q4, sS, sJ q5, sS, sI n1, sI n2, sI t3, sI tr, sJ s1, sS, sJ g2, sS, sJ g3, sS, sR ct, sJ lw, sS, sJ s2, sS, sJ s3, sS, sJ act, sS, sI n2, sI 0, sI 0, sI 0, sU, sU, sU, sU, sU]) rfl k) ?_
      refine Go.st (fun _ k => XS.goto Xj.here hx rfl (pc0 := 221) (pc' := 228) rfl (hb hby at_221) (by decide) (by decide) k) ?_
      refine Go.st (fun _ k => XS.iload Xj.here hx rfl (hb hby at_228) rfl k) ?_
      refine Go.st (fun _ k => XS.iconst Xj.here hx rfl (hb hby at_230) k) ?_
      refine Go.st (S' := Tj.setTop (mkF m 232 #[sI p1, sJ q2, sS, sJ q3, sS, sJ q4, sS, sJ q5, sS, sI n1, sI n2, sI t3, sI tr, sJ s1, sS, sJ g2, sS, sJ g3, sS, sR ct, sJ lw, sS, sJ s2, sS, sJ s3, sS, sJ act, sS, sI n2, sI 0, sI 0, sI 0, sU, sU, sU, sU, sU] [(.int (1 : Int32))])) (fun _ k => XS.iadd Xj.here hx rfl (hb hby at_231) rfl k) ?_
      refine Go.st (fun _ k => XS.istore Xj.here hx rfl (hb hby at_232) rfl (l' := #[sI p1, sJ q2, sS, sJ q3, sS, sJ q4, sS, sJ q5, sS, sI n1, sI n2, sI t3, sI tr, sJ s1, sS, sJ g2, sS, sJ g3, sS, sR ct, sJ lw, sS, sJ s2, sS, sJ s3, sS, sJ act, sS, sI n2, sI 0, sI 0, sI 1, sU, sU, sU, sU, sU]) rfl k) ?_
      refine Go.st (S' := Tj.setTop (mkF m 236 #[sI p1, sJ q2, sS, sJ q3, sS, sJ q4, sS, sJ q5, sS, sI n1, sI n2, sI t3, sI tr, sJ s1, sS, sJ g2, sS, sJ g3, sS, sR ct, sJ lw, sS, sJ s2, sS, sJ s3, sS, sJ act, sS, sI n2, sI 0, sI 0, sI 1, sU, sU, sU, sU, sU] [(.int t3)])) (fun _ k => XS.iload Xj.here hx rfl (hb hby at_234) rfl k) ?_
      by_cases hc236_2 : t3 = (0 : Int32)
      · refine Go.st (fun _ k => XS.ifYes Xj.here hx rfl (pc0 := 236) (pc' := 271) rfl (hb hby at_236) rfl ((if0 _ _).trans (teq hc236_2).1) (by decide) (by decide) k) ?_
        refine Go.st (S' := Tj.setTop (mkF m 273 #[sI p1, sJ q2, sS, sJ q3, sS, sJ q4, sS, sJ q5, sS, sI n1, sI n2, sI t3, sI tr, sJ s1, sS, sJ g2, sS, sJ g3, sS, sR ct, sJ lw, sS, sJ s2, sS, sJ s3, sS, sJ act, sS, sI n2, sI 0, sI 0, sI 1, sU, sU, sU, sU, sU] [(.int (1 : Int32))])) (fun _ k => XS.iload Xj.here hx rfl (hb hby at_271) rfl k) ?_
        refine Go.st (fun _ k => XS.ifYes Xj.here hx rfl (pc0 := 273) (pc' := 280) rfl (hb hby at_273) rfl ((if0 _ _).trans (feq (by decide)).2) (by decide) (by decide) k) ?_
        refine Go.st (fun _ k => XS.iload Xj.here hx rfl (hb hby at_280) rfl k) ?_
        refine Go.st (S' := Tj.setTop (mkF m 283 #[sI p1, sJ q2, sS, sJ q3, sS, sJ q4, sS, sJ q5, sS, sI n1, sI n2, sI t3, sI tr, sJ s1, sS, sJ g2, sS, sJ g3, sS, sR ct, sJ lw, sS, sJ s2, sS, sJ s3, sS, sJ act, sS, sI n2, sI 0, sI 0, sI 1, sU, sU, sU, sU, sU] [(.int (1 : Int32)), (.int (1 : Int32))])) (fun _ k => XS.iconst Xj.here hx rfl (hb hby at_282) k) ?_
        refine Go.st (fun _ k => XS.icmpNo Xj.here hx rfl (hb hby at_283) rfl (teq (by decide)).2 k) ?_
        refine Go.st (fun _ k => XS.iload Xj.here hx rfl (hb hby at_286) rfl k) ?_
        refine Go.st (fun _ k => XS.goto Xj.here hx rfl (pc0 := 288) (pc' := 304) rfl (hb hby at_288) (by decide) (by decide) k) ?_
        refine Go.st (fun _ k => XS.istore Xj.here hx rfl (hb hby at_304) rfl (l' := #[sI p1, sJ q2, sS, sJ q3, sS, sJ q4, sS, sJ q5, sS, sI n1, sI n2, sI t3, sI tr, sJ s1, sS, sJ g2, sS, sJ g3, sS, sR ct, sJ lw, sS, sJ s2, sS, sJ s3, sS, sJ act, sS, sI n2, sI 0, sI 0, sI 1, sI n2, sU, sU, sU, sU]) rfl k) ?_
        refine Go.st (fun _ k => XS.iload Xj.here hx rfl (hb hby at_306) rfl k) ?_
        refine Go.st (S' := Tj.setTop (mkF m 309 #[sI p1, sJ q2, sS, sJ q3, sS, sJ q4, sS, sJ q5, sS, sI n1, sI n2, sI t3, sI tr, sJ s1, sS, sJ g2, sS, sJ g3, sS, sR ct, sJ lw, sS, sJ s2, sS, sJ s3, sS, sJ act, sS, sI n2, sI 0, sI 0, sI 1, sI n2, sU, sU, sU, sU] [(.int (1 : Int32)), (.int (1 : Int32))])) (fun _ k => XS.iconst Xj.here hx rfl (hb hby at_308) k) ?_
        refine Go.st (fun _ k => XS.icmpNo Xj.here hx rfl (hb hby at_309) rfl (flt (by decide)).2.2.1 k) ?_
        refine Go.st (fun _ k => XS.iconst Xj.here hx rfl (hb hby at_312) k) ?_
        refine Go.st (fun _ k => XS.goto Xj.here hx rfl (pc0 := 313) (pc' := 332) rfl (hb hby at_313) (by decide) (by decide) k) ?_
        refine Go.st (fun _ k => XS.istore Xj.here hx rfl (hb hby at_332) rfl (l' := #[sI p1, sJ q2, sS, sJ q3, sS, sJ q4, sS, sJ q5, sS, sI n1, sI n2, sI t3, sI tr, sJ s1, sS, sJ g2, sS, sJ g3, sS, sR ct, sJ lw, sS, sJ s2, sS, sJ s3, sS, sJ act, sS, sI n2, sI 0, sI 0, sI 1, sI n2, sI 0, sU, sU, sU]) rfl k) ?_
        refine Go.st (fun _ k => XS.iload Xj.here hx rfl (hb hby at_334) rfl k) ?_
        refine Go.st (S' := Tj.setTop (mkF m 337 #[sI p1, sJ q2, sS, sJ q3, sS, sJ q4, sS, sJ q5, sS, sI n1, sI n2, sI t3, sI tr, sJ s1, sS, sJ g2, sS, sJ g3, sS, sR ct, sJ lw, sS, sJ s2, sS, sJ s3, sS, sJ act, sS, sI n2, sI 0, sI 0, sI 1, sI n2, sI 0, sU, sU, sU] [(.int (1 : Int32)), (.int (1 : Int32))])) (fun _ k => XS.iconst Xj.here hx rfl (hb hby at_336) k) ?_
        refine Go.st (fun _ k => XS.icmpNo Xj.here hx rfl (hb hby at_337) rfl (flt (by decide)).2.2.1 k) ?_
        refine Go.st (fun _ k => XS.iconst Xj.here hx rfl (hb hby at_340) k) ?_
        refine Go.st (fun _ k => XS.goto Xj.here hx rfl (pc0 := 341) (pc' := 367) rfl (hb hby at_341) (by decide) (by decide) k) ?_
        refine Go.st (fun _ k => XS.istore Xj.here hx rfl (hb hby at_367) rfl (l' := #[sI p1, sJ q2, sS, sJ q3, sS, sJ q4, sS, sJ q5, sS, sI n1, sI n2, sI t3, sI tr, sJ s1, sS, sJ g2, sS, sJ g3, sS, sR ct, sJ lw, sS, sJ s2, sS, sJ s3, sS, sJ act, sS, sI n2, sI 0, sI 0, sI 1, sI n2, sI 0, sI 0, sU, sU]) rfl k) ?_
        refine Go.st (S' := Tj.setTop (mkF m 371 #[sI p1, sJ q2, sS, sJ q3, sS, sJ q4, sS, sJ q5, sS, sI n1, sI n2, sI t3, sI tr, sJ s1, sS, sJ g2, sS, sJ g3, sS, sR ct, sJ lw, sS, sJ s2, sS, sJ s3, sS, sJ act, sS, sI n2, sI 0, sI 0, sI 1, sI n2, sI 0, sI 0, sU, sU] [(.int tr)])) (fun _ k => XS.iload Xj.here hx rfl (hb hby at_369) rfl k) ?_
        by_cases hc371_4 : tr = (0 : Int32)
        · refine Go.st (S' := Tj.setTop (mkF m 394 #[sI p1, sJ q2, sS, sJ q3, sS, sJ q4, sS, sJ q5, sS, sI n1, sI n2, sI t3, sI tr, sJ s1, sS, sJ g2, sS, sJ g3, sS, sR ct, sJ lw, sS, sJ s2, sS, sJ s3, sS, sJ act, sS, sI n2, sI 0, sI 0, sI 1, sI n2, sI 0, sI 0, sU, sU] [])) (fun _ k => XS.ifYes Xj.here hx rfl (pc0 := 371) (pc' := 394) rfl (hb hby at_371) rfl ((if0 _ _).trans (teq hc371_4).1) (by decide) (by decide) k) ?_
          refine Go.st (S' := Tj.setTop (mkF m 397 #[sI p1, sJ q2, sS, sJ q3, sS, sJ q4, sS, sJ q5, sS, sI n1, sI n2, sI t3, sI tr, sJ s1, sS, sJ g2, sS, sJ g3, sS, sR ct, sJ lw, sS, sJ s2, sS, sJ s3, sS, sJ act, sS, sI n2, sI 0, sI 0, sI 1, sI n2, sI 0, sI 0, sU, sU] [(.long (8 : Int64))])) (Xj.ldc2Long hx hown (mvT hZ (ww hw 51 rfl)) (g := (mkF m 394 #[sI p1, sJ q2, sS, sJ q3, sS, sJ q4, sS, sJ q5, sS, sI n1, sI n2, sI t3, sI tr, sJ s1, sS, sJ g2, sS, sJ g3, sS, sR ct, sJ lw, sS, sJ s2, sS, sJ s3, sS, sJ act, sS, sI n2, sI 0, sI 0, sI 1, sI n2, sI 0, sI 0, sU, sU] [])) rfl (hb hby at_394)) ?_
          refine Go.st (S' := Tj.setTop (mkF m 399 #[sI p1, sJ q2, sS, sJ q3, sS, sJ q4, sS, sJ q5, sS, sI n1, sI n2, sI t3, sI tr, sJ s1, sS, sJ g2, sS, sJ g3, sS, sR ct, sJ lw, sS, sJ s2, sS, sJ s3, sS, sJ act, sS, sI n2, sI 0, sI 0, sI 1, sI n2, sI 0, sI 0, sU, sU] [(.int n2), (.long (8 : Int64))])) (fun _ k => XS.iload Xj.here hx rfl (hb hby at_397) rfl k) ?_
          obtain ⟨_, T152, L152, X152, ⟨rfl, Nq152, eq152⟩, st152⟩ := own_callS Xj hx hZ hown (ww hw 52 rfl) (ww hw 53 rfl) (ww hw 39 rfl) (ww hw 54 rfl) (by decide) ej (rmRoom l Z a0 hw [] w_NONE k_NONE hS n2 hj Oj) 2 (by decide) (by decide) (by decide) (by decide) (g := (mkF m 399 #[sI p1, sJ q2, sS, sJ q3, sS, sJ q4, sS, sJ q5, sS, sI n1, sI n2, sI t3, sI tr, sJ s1, sS, sJ g2, sS, sJ g3, sS, sR ct, sJ lw, sS, sJ s2, sS, sJ s3, sS, sJ act, sS, sI n2, sI 0, sI 0, sI 1, sI n2, sI 0, sI 0, sU, sU] [(.int n2), (.long (8 : Int64))])) rfl (by rw [hml]; rfl) [(.int n2)] [(.long (8 : Int64))] rfl (lenOf pd_674828 rfl) rfl (by show 2 * 0 + _ ≤ _; exact Nat.le_of_eq rfl) (hb hby at_399)
          have N152 := Fr.app Nj Nq152
          refine Go.st (S' := T152.setTop (mkF m 402 #[sI p1, sJ q2, sS, sJ q3, sS, sJ q4, sS, sJ q5, sS, sI n1, sI n2, sI t3, sI tr, sJ s1, sS, sJ g2, sS, sJ g3, sS, sR ct, sJ lw, sS, sJ s2, sS, sJ s3, sS, sJ act, sS, sI n2, sI 0, sI 0, sI 1, sI n2, sI 0, sI 0, sU, sU] [(.int (roomF n2)), (.long (8 : Int64))])) st152 ?_
          refine Go.st (fun _ k => XS.i2l X152.here hx rfl (hb hby at_402) rfl k) ?_
          refine Go.st (S' := T152.setTop (mkF m 404 #[sI p1, sJ q2, sS, sJ q3, sS, sJ q4, sS, sJ q5, sS, sI n1, sI n2, sI t3, sI tr, sJ s1, sS, sJ g2, sS, sJ g3, sS, sR ct, sJ lw, sS, sJ s2, sS, sJ s3, sS, sJ act, sS, sI n2, sI 0, sI 0, sI 1, sI n2, sI 0, sI 0, sU, sU] [(.long ((8 : Int64) * ((roomF n2).toInt64)))])) (fun _ k => XS.lmul X152.here hx rfl (hb hby at_403) rfl k) ?_
          refine Go.st (S' := T152.setTop (mkF m 407 #[sI p1, sJ q2, sS, sJ q3, sS, sJ q4, sS, sJ q5, sS, sI n1, sI n2, sI t3, sI tr, sJ s1, sS, sJ g2, sS, sJ g3, sS, sR ct, sJ lw, sS, sJ s2, sS, sJ s3, sS, sJ act, sS, sI n2, sI 0, sI 0, sI 1, sI n2, sI 0, sI 0, sU, sU] [(.long (16 : Int64)), (.long ((8 : Int64) * ((roomF n2).toInt64)))])) (X152.ldc2Long hx hown (mvT hZ (ww hw 55 rfl)) (g := (mkF m 404 #[sI p1, sJ q2, sS, sJ q3, sS, sJ q4, sS, sJ q5, sS, sI n1, sI n2, sI t3, sI tr, sJ s1, sS, sJ g2, sS, sJ g3, sS, sR ct, sJ lw, sS, sJ s2, sS, sJ s3, sS, sJ act, sS, sI n2, sI 0, sI 0, sI 1, sI n2, sI 0, sI 0, sU, sU] [(.long ((8 : Int64) * ((roomF n2).toInt64)))])) rfl (hb hby at_404)) ?_
          refine Go.st (fun _ k => XS.iload X152.here hx rfl (hb hby at_407) rfl k) ?_
          refine Go.st (fun _ k => XS.i2l X152.here hx rfl (hb hby at_409) rfl k) ?_
          refine Go.st (fun _ k => XS.lmul X152.here hx rfl (hb hby at_410) rfl k) ?_
          refine Go.st (fun _ k => XS.ladd X152.here hx rfl (hb hby at_411) rfl k) ?_
          refine Go.st (fun _ k => XS.lstore X152.here hx rfl (hb hby at_412) rfl (l' := #[sI p1, sJ q2, sS, sJ q3, sS, sJ q4, sS, sJ q5, sS, sI n1, sI n2, sI t3, sI tr, sJ s1, sS, sJ g2, sS, sJ g3, sS, sR ct, sJ lw, sS, sJ s2, sS, sJ s3, sS, sJ act, sS, sI n2, sI 0, sI 0, sI 1, sI n2, sI 0, sI 0, sJ (((8 : Int64) * ((roomF n2).toInt64)) + (0 : Int64)), sS]) rfl k) ?_
          refine Go.st (fun _ k => XS.lload X152.here hx rfl (hb hby at_414) rfl k) ?_
          refine Go.st (S' := T152.setTop (mkF m 418 #[sI p1, sJ q2, sS, sJ q3, sS, sJ q4, sS, sJ q5, sS, sI n1, sI n2, sI t3, sI tr, sJ s1, sS, sJ g2, sS, sJ g3, sS, sR ct, sJ lw, sS, sJ s2, sS, sJ s3, sS, sJ act, sS, sI n2, sI 0, sI 0, sI 1, sI n2, sI 0, sI 0, sJ (((8 : Int64) * ((roomF n2).toInt64)) + (0 : Int64)), sS] [(.long (((8 : Int64) * ((roomF n2).toInt64)) + (0 : Int64))), (.long act)])) (fun _ k => XS.lload X152.here hx rfl (hb hby at_416) rfl k) ?_
          refine Go.st (S' := T152.setTop (mkF m 419 #[sI p1, sJ q2, sS, sJ q3, sS, sJ q4, sS, sJ q5, sS, sI n1, sI n2, sI t3, sI tr, sJ s1, sS, sJ g2, sS, sJ g3, sS, sR ct, sJ lw, sS, sJ s2, sS, sJ s3, sS, sJ act, sS, sI n2, sI 0, sI 0, sI 1, sI n2, sI 0, sI 0, sJ (((8 : Int64) * ((roomF n2).toInt64)) + (0 : Int64)), sS] [(.int (lcmpW act (((8 : Int64) * ((roomF n2).toInt64)) + (0 : Int64))))])) (fun _ k => XS.lcmp X152.here hx rfl (hb hby at_418) rfl k) ?_
          refine Go.st (fun _ k => XS.ifNo X152.here hx rfl (hb hby at_419) rfl (own_Leq (by rw [hact]; simp only [expF, curF, ocF, olF, hc197, hc209_1, hc236_2, hc371_4, if_true, if_false] <;> first | rfl | decide)).2 k) ?_
          refine Go.st (fun _ k => XS.iconst X152.here hx rfl (hb hby at_422) k) ?_
          refine Go.st (S' := T152.setTop (mkF m 427 #[sI p1, sJ q2, sS, sJ q3, sS, sJ q4, sS, sJ q5, sS, sI n1, sI n2, sI t3, sI tr, sJ s1, sS, sJ g2, sS, sJ g3, sS, sR ct, sJ lw, sS, sJ s2, sS, sJ s3, sS, sJ act, sS, sI n2, sI 0, sI 0, sI 1, sI n2, sI 0, sI 0, sJ (((8 : Int64) * ((roomF n2).toInt64)) + (0 : Int64)), sS] [(.int (1 : Int32))])) (fun _ k => XS.goto X152.here hx rfl (pc0 := 423) (pc' := 427) rfl (hb hby at_423) (by decide) (by decide) k) ?_
          exact own_retN X152 hx hlk hret (by simp) (hb hby at_427) eq152 ⟨rfl, N152⟩ (by decide) (by decide)
        · refine Go.st (S' := Tj.setTop (mkF m 374 #[sI p1, sJ q2, sS, sJ q3, sS, sJ q4, sS, sJ q5, sS, sI n1, sI n2, sI t3, sI tr, sJ s1, sS, sJ g2, sS, sJ g3, sS, sR ct, sJ lw, sS, sJ s2, sS, sJ s3, sS, sJ act, sS, sI n2, sI 0, sI 0, sI 1, sI n2, sI 0, sI 0, sU, sU] [])) (fun _ k => XS.ifNo Xj.here hx rfl (hb hby at_371) rfl ((if0 _ _).trans (feq hc371_4).1) k) ?_
          refine Go.st (S' := Tj.setTop (mkF m 377 #[sI p1, sJ q2, sS, sJ q3, sS, sJ q4, sS, sJ q5, sS, sI n1, sI n2, sI t3, sI tr, sJ s1, sS, sJ g2, sS, sJ g3, sS, sR ct, sJ lw, sS, sJ s2, sS, sJ s3, sS, sJ act, sS, sI n2, sI 0, sI 0, sI 1, sI n2, sI 0, sI 0, sU, sU] [(.long (8 : Int64))])) (Xj.ldc2Long hx hown (mvT hZ (ww hw 51 rfl)) (g := (mkF m 374 #[sI p1, sJ q2, sS, sJ q3, sS, sJ q4, sS, sJ q5, sS, sI n1, sI n2, sI t3, sI tr, sJ s1, sS, sJ g2, sS, sJ g3, sS, sR ct, sJ lw, sS, sJ s2, sS, sJ s3, sS, sJ act, sS, sI n2, sI 0, sI 0, sI 1, sI n2, sI 0, sI 0, sU, sU] [])) rfl (hb hby at_374)) ?_
          refine Go.st (fun _ k => XS.iload Xj.here hx rfl (hb hby at_377) rfl k) ?_
          refine Go.st (fun _ k => XS.i2l Xj.here hx rfl (hb hby at_379) rfl k) ?_
          refine Go.st (S' := Tj.setTop (mkF m 381 #[sI p1, sJ q2, sS, sJ q3, sS, sJ q4, sS, sJ q5, sS, sI n1, sI n2, sI t3, sI tr, sJ s1, sS, sJ g2, sS, sJ g3, sS, sR ct, sJ lw, sS, sJ s2, sS, sJ s3, sS, sJ act, sS, sI n2, sI 0, sI 0, sI 1, sI n2, sI 0, sI 0, sU, sU] [(.long ((8 : Int64) * (n2.toInt64)))])) (fun _ k => XS.lmul Xj.here hx rfl (hb hby at_380) rfl k) ?_
          refine Go.st (S' := Tj.setTop (mkF m 384 #[sI p1, sJ q2, sS, sJ q3, sS, sJ q4, sS, sJ q5, sS, sI n1, sI n2, sI t3, sI tr, sJ s1, sS, sJ g2, sS, sJ g3, sS, sR ct, sJ lw, sS, sJ s2, sS, sJ s3, sS, sJ act, sS, sI n2, sI 0, sI 0, sI 1, sI n2, sI 0, sI 0, sU, sU] [(.long (16 : Int64)), (.long ((8 : Int64) * (n2.toInt64)))])) (Xj.ldc2Long hx hown (mvT hZ (ww hw 55 rfl)) (g := (mkF m 381 #[sI p1, sJ q2, sS, sJ q3, sS, sJ q4, sS, sJ q5, sS, sI n1, sI n2, sI t3, sI tr, sJ s1, sS, sJ g2, sS, sJ g3, sS, sR ct, sJ lw, sS, sJ s2, sS, sJ s3, sS, sJ act, sS, sI n2, sI 0, sI 0, sI 1, sI n2, sI 0, sI 0, sU, sU] [(.long ((8 : Int64) * (n2.toInt64)))])) rfl (hb hby at_381)) ?_
          refine Go.st (fun _ k => XS.iload Xj.here hx rfl (hb hby at_384) rfl k) ?_
          refine Go.st (fun _ k => XS.i2l Xj.here hx rfl (hb hby at_386) rfl k) ?_
          refine Go.st (fun _ k => XS.lmul Xj.here hx rfl (hb hby at_387) rfl k) ?_
          refine Go.st (fun _ k => XS.ladd Xj.here hx rfl (hb hby at_388) rfl k) ?_
          refine Go.st (fun _ k => XS.lstore Xj.here hx rfl (hb hby at_389) rfl (l' := #[sI p1, sJ q2, sS, sJ q3, sS, sJ q4, sS, sJ q5, sS, sI n1, sI n2, sI t3, sI tr, sJ s1, sS, sJ g2, sS, sJ g3, sS, sR ct, sJ lw, sS, sJ s2, sS, sJ s3, sS, sJ act, sS, sI n2, sI 0, sI 0, sI 1, sI n2, sI 0, sI 0, sJ (((8 : Int64) * (n2.toInt64)) + (0 : Int64)), sS]) rfl k) ?_
          refine Go.st (fun _ k => XS.goto Xj.here hx rfl (pc0 := 391) (pc' := 414) rfl (hb hby at_391) (by decide) (by decide) k) ?_
          refine Go.st (S' := Tj.setTop (mkF m 416 #[sI p1, sJ q2, sS, sJ q3, sS, sJ q4, sS, sJ q5, sS, sI n1, sI n2, sI t3, sI tr, sJ s1, sS, sJ g2, sS, sJ g3, sS, sR ct, sJ lw, sS, sJ s2, sS, sJ s3, sS, sJ act, sS, sI n2, sI 0, sI 0, sI 1, sI n2, sI 0, sI 0, sJ (((8 : Int64) * (n2.toInt64)) + (0 : Int64)), sS] [(.long act)])) (fun _ k => XS.lload Xj.here hx rfl (hb hby at_414) rfl k) ?_
          refine Go.st (S' := Tj.setTop (mkF m 418 #[sI p1, sJ q2, sS, sJ q3, sS, sJ q4, sS, sJ q5, sS, sI n1, sI n2, sI t3, sI tr, sJ s1, sS, sJ g2, sS, sJ g3, sS, sR ct, sJ lw, sS, sJ s2, sS, sJ s3, sS, sJ act, sS, sI n2, sI 0, sI 0, sI 1, sI n2, sI 0, sI 0, sJ (((8 : Int64) * (n2.toInt64)) + (0 : Int64)), sS] [(.long (((8 : Int64) * (n2.toInt64)) + (0 : Int64))), (.long act)])) (fun _ k => XS.lload Xj.here hx rfl (hb hby at_416) rfl k) ?_
          refine Go.st (S' := Tj.setTop (mkF m 419 #[sI p1, sJ q2, sS, sJ q3, sS, sJ q4, sS, sJ q5, sS, sI n1, sI n2, sI t3, sI tr, sJ s1, sS, sJ g2, sS, sJ g3, sS, sR ct, sJ lw, sS, sJ s2, sS, sJ s3, sS, sJ act, sS, sI n2, sI 0, sI 0, sI 1, sI n2, sI 0, sI 0, sJ (((8 : Int64) * (n2.toInt64)) + (0 : Int64)), sS] [(.int (lcmpW act (((8 : Int64) * (n2.toInt64)) + (0 : Int64))))])) (fun _ k => XS.lcmp Xj.here hx rfl (hb hby at_418) rfl k) ?_
          refine Go.st (fun _ k => XS.ifNo Xj.here hx rfl (hb hby at_419) rfl (own_Leq (by rw [hact]; simp only [expF, curF, ocF, olF, hc197, hc209_1, hc236_2, hc371_4, if_true, if_false] <;> first | rfl | decide)).2 k) ?_
          refine Go.st (fun _ k => XS.iconst Xj.here hx rfl (hb hby at_422) k) ?_
          refine Go.st (S' := Tj.setTop (mkF m 427 #[sI p1, sJ q2, sS, sJ q3, sS, sJ q4, sS, sJ q5, sS, sI n1, sI n2, sI t3, sI tr, sJ s1, sS, sJ g2, sS, sJ g3, sS, sR ct, sJ lw, sS, sJ s2, sS, sJ s3, sS, sJ act, sS, sI n2, sI 0, sI 0, sI 1, sI n2, sI 0, sI 0, sJ (((8 : Int64) * (n2.toInt64)) + (0 : Int64)), sS] [(.int (1 : Int32))])) (fun _ k => XS.goto Xj.here hx rfl (pc0 := 423) (pc' := 427) rfl (hb hby at_423) (by decide) (by decide) k) ?_
          exact own_retN Xj hx hlk hret (by simp) (hb hby at_427) ej ⟨rfl, Nj⟩ (by decide) (by decide)
      · refine Go.st (fun _ k => XS.ifNo Xj.here hx rfl (hb hby at_236) rfl ((if0 _ _).trans (feq hc236_2).1) k) ?_
        refine Go.st (S' := Tj.setTop (mkF m 241 #[sI p1, sJ q2, sS, sJ q3, sS, sJ q4, sS, sJ q5, sS, sI n1, sI n2, sI t3, sI tr, sJ s1, sS, sJ g2, sS, sJ g3, sS, sR ct, sJ lw, sS, sJ s2, sS, sJ s3, sS, sJ act, sS, sI n2, sI 0, sI 0, sI 1, sU, sU, sU, sU, sU] [(.int (1 : Int32))])) (fun _ k => XS.iload Xj.here hx rfl (hb hby at_239) rfl k) ?_
        refine Go.st (fun _ k => XS.ifYes Xj.here hx rfl (pc0 := 241) (pc' := 250) rfl (hb hby at_241) rfl ((if0 _ _).trans (feq (by decide)).2) (by decide) (by decide) k) ?_
        refine Go.st (fun _ k => XS.iload Xj.here hx rfl (hb hby at_250) rfl k) ?_
        refine Go.st (S' := Tj.setTop (mkF m 253 #[sI p1, sJ q2, sS, sJ q3, sS, sJ q4, sS, sJ q5, sS, sI n1, sI n2, sI t3, sI tr, sJ s1, sS, sJ g2, sS, sJ g3, sS, sR ct, sJ lw, sS, sJ s2, sS, sJ s3, sS, sJ act, sS, sI n2, sI 0, sI 0, sI 1, sU, sU, sU, sU, sU] [(.int (1 : Int32)), (.int (1 : Int32))])) (fun _ k => XS.iconst Xj.here hx rfl (hb hby at_252) k) ?_
        refine Go.st (fun _ k => XS.icmpNo Xj.here hx rfl (hb hby at_253) rfl (teq (by decide)).2 k) ?_
        refine Go.st (fun _ k => XS.iconst Xj.here hx rfl (hb hby at_256) k) ?_
        refine Go.st (fun _ k => XS.istore Xj.here hx rfl (hb hby at_257) rfl (l' := #[sI p1, sJ q2, sS, sJ q3, sS, sJ q4, sS, sJ q5, sS, sI n1, sI n2, sI t3, sI tr, sJ s1, sS, sJ g2, sS, sJ g3, sS, sR ct, sJ lw, sS, sJ s2, sS, sJ s3, sS, sJ act, sS, sI n2, sI 1, sI 0, sI 1, sU, sU, sU, sU, sU]) rfl k) ?_
        refine Go.st (fun _ k => XS.goto Xj.here hx rfl (pc0 := 259) (pc' := 265) rfl (hb hby at_259) (by decide) (by decide) k) ?_
        refine Go.st (fun _ k => XS.iload Xj.here hx rfl (hb hby at_265) rfl k) ?_
        refine Go.st (fun _ k => XS.iconst Xj.here hx rfl (hb hby at_267) k) ?_
        refine Go.st (S' := Tj.setTop (mkF m 269 #[sI p1, sJ q2, sS, sJ q3, sS, sJ q4, sS, sJ q5, sS, sI n1, sI n2, sI t3, sI tr, sJ s1, sS, sJ g2, sS, sJ g3, sS, sR ct, sJ lw, sS, sJ s2, sS, sJ s3, sS, sJ act, sS, sI n2, sI 1, sI 0, sI 1, sU, sU, sU, sU, sU] [(.int (2 : Int32))])) (fun _ k => XS.iadd Xj.here hx rfl (hb hby at_268) rfl k) ?_
        refine Go.st (fun _ k => XS.istore Xj.here hx rfl (hb hby at_269) rfl (l' := #[sI p1, sJ q2, sS, sJ q3, sS, sJ q4, sS, sJ q5, sS, sI n1, sI n2, sI t3, sI tr, sJ s1, sS, sJ g2, sS, sJ g3, sS, sR ct, sJ lw, sS, sJ s2, sS, sJ s3, sS, sJ act, sS, sI n2, sI 1, sI 0, sI 2, sU, sU, sU, sU, sU]) rfl k) ?_
        refine Go.st (S' := Tj.setTop (mkF m 273 #[sI p1, sJ q2, sS, sJ q3, sS, sJ q4, sS, sJ q5, sS, sI n1, sI n2, sI t3, sI tr, sJ s1, sS, sJ g2, sS, sJ g3, sS, sR ct, sJ lw, sS, sJ s2, sS, sJ s3, sS, sJ act, sS, sI n2, sI 1, sI 0, sI 2, sU, sU, sU, sU, sU] [(.int (2 : Int32))])) (fun _ k => XS.iload Xj.here hx rfl (hb hby at_271) rfl k) ?_
        refine Go.st (fun _ k => XS.ifYes Xj.here hx rfl (pc0 := 273) (pc' := 280) rfl (hb hby at_273) rfl ((if0 _ _).trans (feq (by decide)).2) (by decide) (by decide) k) ?_
        refine Go.st (fun _ k => XS.iload Xj.here hx rfl (hb hby at_280) rfl k) ?_
        refine Go.st (S' := Tj.setTop (mkF m 283 #[sI p1, sJ q2, sS, sJ q3, sS, sJ q4, sS, sJ q5, sS, sI n1, sI n2, sI t3, sI tr, sJ s1, sS, sJ g2, sS, sJ g3, sS, sR ct, sJ lw, sS, sJ s2, sS, sJ s3, sS, sJ act, sS, sI n2, sI 1, sI 0, sI 2, sU, sU, sU, sU, sU] [(.int (1 : Int32)), (.int (2 : Int32))])) (fun _ k => XS.iconst Xj.here hx rfl (hb hby at_282) k) ?_
        refine Go.st (fun _ k => XS.icmpYes Xj.here hx rfl (pc0 := 283) (pc' := 291) rfl (hb hby at_283) rfl (feq (by decide)).2 (by decide) (by decide) k) ?_
        refine Go.st (fun _ k => XS.iload Xj.here hx rfl (hb hby at_291) rfl k) ?_
        refine Go.st (S' := Tj.setTop (mkF m 294 #[sI p1, sJ q2, sS, sJ q3, sS, sJ q4, sS, sJ q5, sS, sI n1, sI n2, sI t3, sI tr, sJ s1, sS, sJ g2, sS, sJ g3, sS, sR ct, sJ lw, sS, sJ s2, sS, sJ s3, sS, sJ act, sS, sI n2, sI 1, sI 0, sI 2, sU, sU, sU, sU, sU] [(.int (2 : Int32)), (.int (2 : Int32))])) (fun _ k => XS.iconst Xj.here hx rfl (hb hby at_293) k) ?_
        refine Go.st (fun _ k => XS.icmpNo Xj.here hx rfl (hb hby at_294) rfl (teq (by decide)).2 k) ?_
        refine Go.st (fun _ k => XS.iload Xj.here hx rfl (hb hby at_297) rfl k) ?_
        refine Go.st (fun _ k => XS.goto Xj.here hx rfl (pc0 := 299) (pc' := 304) rfl (hb hby at_299) (by decide) (by decide) k) ?_
        refine Go.st (fun _ k => XS.istore Xj.here hx rfl (hb hby at_304) rfl (l' := #[sI p1, sJ q2, sS, sJ q3, sS, sJ q4, sS, sJ q5, sS, sI n1, sI n2, sI t3, sI tr, sJ s1, sS, sJ g2, sS, sJ g3, sS, sR ct, sJ lw, sS, sJ s2, sS, sJ s3, sS, sJ act, sS, sI n2, sI 1, sI 0, sI 2, sI 1, sU, sU, sU, sU]) rfl k) ?_
        refine Go.st (fun _ k => XS.iload Xj.here hx rfl (hb hby at_306) rfl k) ?_
        refine Go.st (S' := Tj.setTop (mkF m 309 #[sI p1, sJ q2, sS, sJ q3, sS, sJ q4, sS, sJ q5, sS, sI n1, sI n2, sI t3, sI tr, sJ s1, sS, sJ g2, sS, sJ g3, sS, sR ct, sJ lw, sS, sJ s2, sS, sJ s3, sS, sJ act, sS, sI n2, sI 1, sI 0, sI 2, sI 1, sU, sU, sU, sU] [(.int (1 : Int32)), (.int (2 : Int32))])) (fun _ k => XS.iconst Xj.here hx rfl (hb hby at_308) k) ?_
        refine Go.st (fun _ k => XS.icmpYes Xj.here hx rfl (pc0 := 309) (pc' := 316) rfl (hb hby at_309) rfl (tlt (by decide)).2.2.1 (by decide) (by decide) k) ?_
        refine Go.st (fun _ k => XS.iload Xj.here hx rfl (hb hby at_316) rfl k) ?_
        refine Go.st (S' := Tj.setTop (mkF m 319 #[sI p1, sJ q2, sS, sJ q3, sS, sJ q4, sS, sJ q5, sS, sI n1, sI n2, sI t3, sI tr, sJ s1, sS, sJ g2, sS, sJ g3, sS, sR ct, sJ lw, sS, sJ s2, sS, sJ s3, sS, sJ act, sS, sI n2, sI 1, sI 0, sI 2, sI 1, sU, sU, sU, sU] [(.int (2 : Int32)), (.int (2 : Int32))])) (fun _ k => XS.iconst Xj.here hx rfl (hb hby at_318) k) ?_
        refine Go.st (fun _ k => XS.icmpNo Xj.here hx rfl (hb hby at_319) rfl (teq (by decide)).2 k) ?_
        refine Go.st (fun _ k => XS.iload Xj.here hx rfl (hb hby at_322) rfl k) ?_
        refine Go.st (fun _ k => XS.goto Xj.here hx rfl (pc0 := 324) (pc' := 332) rfl (hb hby at_324) (by decide) (by decide) k) ?_
        refine Go.st (fun _ k => XS.istore Xj.here hx rfl (hb hby at_332) rfl (l' := #[sI p1, sJ q2, sS, sJ q3, sS, sJ q4, sS, sJ q5, sS, sI n1, sI n2, sI t3, sI tr, sJ s1, sS, sJ g2, sS, sJ g3, sS, sR ct, sJ lw, sS, sJ s2, sS, sJ s3, sS, sJ act, sS, sI n2, sI 1, sI 0, sI 2, sI 1, sI n2, sU, sU, sU]) rfl k) ?_
        refine Go.st (fun _ k => XS.iload Xj.here hx rfl (hb hby at_334) rfl k) ?_
        refine Go.st (S' := Tj.setTop (mkF m 337 #[sI p1, sJ q2, sS, sJ q3, sS, sJ q4, sS, sJ q5, sS, sI n1, sI n2, sI t3, sI tr, sJ s1, sS, sJ g2, sS, sJ g3, sS, sR ct, sJ lw, sS, sJ s2, sS, sJ s3, sS, sJ act, sS, sI n2, sI 1, sI 0, sI 2, sI 1, sI n2, sU, sU, sU] [(.int (1 : Int32)), (.int (2 : Int32))])) (fun _ k => XS.iconst Xj.here hx rfl (hb hby at_336) k) ?_
        refine Go.st (fun _ k => XS.icmpYes Xj.here hx rfl (pc0 := 337) (pc' := 344) rfl (hb hby at_337) rfl (tlt (by decide)).2.2.1 (by decide) (by decide) k) ?_
        refine Go.st (fun _ k => XS.iload Xj.here hx rfl (hb hby at_344) rfl k) ?_
        refine Go.st (S' := Tj.setTop (mkF m 347 #[sI p1, sJ q2, sS, sJ q3, sS, sJ q4, sS, sJ q5, sS, sI n1, sI n2, sI t3, sI tr, sJ s1, sS, sJ g2, sS, sJ g3, sS, sR ct, sJ lw, sS, sJ s2, sS, sJ s3, sS, sJ act, sS, sI n2, sI 1, sI 0, sI 2, sI 1, sI n2, sU, sU, sU] [(.int (2 : Int32)), (.int (2 : Int32))])) (fun _ k => XS.iconst Xj.here hx rfl (hb hby at_346) k) ?_
        refine Go.st (fun _ k => XS.icmpNo Xj.here hx rfl (hb hby at_347) rfl (teq (by decide)).2 k) ?_
        refine Go.st (fun _ k => XS.iload Xj.here hx rfl (hb hby at_350) rfl k) ?_
        refine Go.st (fun _ k => XS.goto Xj.here hx rfl (pc0 := 352) (pc' := 367) rfl (hb hby at_352) (by decide) (by decide) k) ?_
        refine Go.st (fun _ k => XS.istore Xj.here hx rfl (hb hby at_367) rfl (l' := #[sI p1, sJ q2, sS, sJ q3, sS, sJ q4, sS, sJ q5, sS, sI n1, sI n2, sI t3, sI tr, sJ s1, sS, sJ g2, sS, sJ g3, sS, sR ct, sJ lw, sS, sJ s2, sS, sJ s3, sS, sJ act, sS, sI n2, sI 1, sI 0, sI 2, sI 1, sI n2, sI n2, sU, sU]) rfl k) ?_
        refine Go.st (S' := Tj.setTop (mkF m 371 #[sI p1, sJ q2, sS, sJ q3, sS, sJ q4, sS, sJ q5, sS, sI n1, sI n2, sI t3, sI tr, sJ s1, sS, sJ g2, sS, sJ g3, sS, sR ct, sJ lw, sS, sJ s2, sS, sJ s3, sS, sJ act, sS, sI n2, sI 1, sI 0, sI 2, sI 1, sI n2, sI n2, sU, sU] [(.int tr)])) (fun _ k => XS.iload Xj.here hx rfl (hb hby at_369) rfl k) ?_
        by_cases hc371_5 : tr = (0 : Int32)
        · refine Go.st (S' := Tj.setTop (mkF m 394 #[sI p1, sJ q2, sS, sJ q3, sS, sJ q4, sS, sJ q5, sS, sI n1, sI n2, sI t3, sI tr, sJ s1, sS, sJ g2, sS, sJ g3, sS, sR ct, sJ lw, sS, sJ s2, sS, sJ s3, sS, sJ act, sS, sI n2, sI 1, sI 0, sI 2, sI 1, sI n2, sI n2, sU, sU] [])) (fun _ k => XS.ifYes Xj.here hx rfl (pc0 := 371) (pc' := 394) rfl (hb hby at_371) rfl ((if0 _ _).trans (teq hc371_5).1) (by decide) (by decide) k) ?_
          refine Go.st (S' := Tj.setTop (mkF m 397 #[sI p1, sJ q2, sS, sJ q3, sS, sJ q4, sS, sJ q5, sS, sI n1, sI n2, sI t3, sI tr, sJ s1, sS, sJ g2, sS, sJ g3, sS, sR ct, sJ lw, sS, sJ s2, sS, sJ s3, sS, sJ act, sS, sI n2, sI 1, sI 0, sI 2, sI 1, sI n2, sI n2, sU, sU] [(.long (8 : Int64))])) (Xj.ldc2Long hx hown (mvT hZ (ww hw 51 rfl)) (g := (mkF m 394 #[sI p1, sJ q2, sS, sJ q3, sS, sJ q4, sS, sJ q5, sS, sI n1, sI n2, sI t3, sI tr, sJ s1, sS, sJ g2, sS, sJ g3, sS, sR ct, sJ lw, sS, sJ s2, sS, sJ s3, sS, sJ act, sS, sI n2, sI 1, sI 0, sI 2, sI 1, sI n2, sI n2, sU, sU] [])) rfl (hb hby at_394)) ?_
          refine Go.st (S' := Tj.setTop (mkF m 399 #[sI p1, sJ q2, sS, sJ q3, sS, sJ q4, sS, sJ q5, sS, sI n1, sI n2, sI t3, sI tr, sJ s1, sS, sJ g2, sS, sJ g3, sS, sR ct, sJ lw, sS, sJ s2, sS, sJ s3, sS, sJ act, sS, sI n2, sI 1, sI 0, sI 2, sI 1, sI n2, sI n2, sU, sU] [(.int (1 : Int32)), (.long (8 : Int64))])) (fun _ k => XS.iload Xj.here hx rfl (hb hby at_397) rfl k) ?_
          obtain ⟨_, T153, L153, X153, ⟨rfl, Nq153, eq153⟩, st153⟩ := own_callS Xj hx hZ hown (ww hw 52 rfl) (ww hw 53 rfl) (ww hw 39 rfl) (ww hw 54 rfl) (by decide) ej (rmRoom l Z a0 hw [] w_NONE k_NONE hS (1 : Int32) hj Oj) 2 (by decide) (by decide) (by decide) (by decide) (g := (mkF m 399 #[sI p1, sJ q2, sS, sJ q3, sS, sJ q4, sS, sJ q5, sS, sI n1, sI n2, sI t3, sI tr, sJ s1, sS, sJ g2, sS, sJ g3, sS, sR ct, sJ lw, sS, sJ s2, sS, sJ s3, sS, sJ act, sS, sI n2, sI 1, sI 0, sI 2, sI 1, sI n2, sI n2, sU, sU] [(.int (1 : Int32)), (.long (8 : Int64))])) rfl (by rw [hml]; rfl) [(.int (1 : Int32))] [(.long (8 : Int64))] rfl (lenOf pd_674828 rfl) rfl (by show 2 * 0 + _ ≤ _; exact Nat.le_of_eq rfl) (hb hby at_399)
          have N153 := Fr.app Nj Nq153
          refine Go.st (S' := T153.setTop (mkF m 402 #[sI p1, sJ q2, sS, sJ q3, sS, sJ q4, sS, sJ q5, sS, sI n1, sI n2, sI t3, sI tr, sJ s1, sS, sJ g2, sS, sJ g3, sS, sR ct, sJ lw, sS, sJ s2, sS, sJ s3, sS, sJ act, sS, sI n2, sI 1, sI 0, sI 2, sI 1, sI n2, sI n2, sU, sU] [(.int (roomF (1 : Int32))), (.long (8 : Int64))])) st153 ?_
          refine Go.st (fun _ k => XS.i2l X153.here hx rfl (hb hby at_402) rfl k) ?_
          refine Go.st (S' := T153.setTop (mkF m 404 #[sI p1, sJ q2, sS, sJ q3, sS, sJ q4, sS, sJ q5, sS, sI n1, sI n2, sI t3, sI tr, sJ s1, sS, sJ g2, sS, sJ g3, sS, sR ct, sJ lw, sS, sJ s2, sS, sJ s3, sS, sJ act, sS, sI n2, sI 1, sI 0, sI 2, sI 1, sI n2, sI n2, sU, sU] [(.long ((8 : Int64) * ((roomF (1 : Int32)).toInt64)))])) (fun _ k => XS.lmul X153.here hx rfl (hb hby at_403) rfl k) ?_
          refine Go.st (S' := T153.setTop (mkF m 407 #[sI p1, sJ q2, sS, sJ q3, sS, sJ q4, sS, sJ q5, sS, sI n1, sI n2, sI t3, sI tr, sJ s1, sS, sJ g2, sS, sJ g3, sS, sR ct, sJ lw, sS, sJ s2, sS, sJ s3, sS, sJ act, sS, sI n2, sI 1, sI 0, sI 2, sI 1, sI n2, sI n2, sU, sU] [(.long (16 : Int64)), (.long ((8 : Int64) * ((roomF (1 : Int32)).toInt64)))])) (X153.ldc2Long hx hown (mvT hZ (ww hw 55 rfl)) (g := (mkF m 404 #[sI p1, sJ q2, sS, sJ q3, sS, sJ q4, sS, sJ q5, sS, sI n1, sI n2, sI t3, sI tr, sJ s1, sS, sJ g2, sS, sJ g3, sS, sR ct, sJ lw, sS, sJ s2, sS, sJ s3, sS, sJ act, sS, sI n2, sI 1, sI 0, sI 2, sI 1, sI n2, sI n2, sU, sU] [(.long ((8 : Int64) * ((roomF (1 : Int32)).toInt64)))])) rfl (hb hby at_404)) ?_
          refine Go.st (fun _ k => XS.iload X153.here hx rfl (hb hby at_407) rfl k) ?_
          refine Go.st (fun _ k => XS.i2l X153.here hx rfl (hb hby at_409) rfl k) ?_
          refine Go.st (fun _ k => XS.lmul X153.here hx rfl (hb hby at_410) rfl k) ?_
          refine Go.st (fun _ k => XS.ladd X153.here hx rfl (hb hby at_411) rfl k) ?_
          refine Go.st (fun _ k => XS.lstore X153.here hx rfl (hb hby at_412) rfl (l' := #[sI p1, sJ q2, sS, sJ q3, sS, sJ q4, sS, sJ q5, sS, sI n1, sI n2, sI t3, sI tr, sJ s1, sS, sJ g2, sS, sJ g3, sS, sR ct, sJ lw, sS, sJ s2, sS, sJ s3, sS, sJ act, sS, sI n2, sI 1, sI 0, sI 2, sI 1, sI n2, sI n2, sJ (((8 : Int64) * ((roomF (1 : Int32)).toInt64)) + ((16 : Int64) * (n2.toInt64))), sS]) rfl k) ?_
          refine Go.st (fun _ k => XS.lload X153.here hx rfl (hb hby at_414) rfl k) ?_
          refine Go.st (S' := T153.setTop (mkF m 418 #[sI p1, sJ q2, sS, sJ q3, sS, sJ q4, sS, sJ q5, sS, sI n1, sI n2, sI t3, sI tr, sJ s1, sS, sJ g2, sS, sJ g3, sS, sR ct, sJ lw, sS, sJ s2, sS, sJ s3, sS, sJ act, sS, sI n2, sI 1, sI 0, sI 2, sI 1, sI n2, sI n2, sJ (((8 : Int64) * ((roomF (1 : Int32)).toInt64)) + ((16 : Int64) * (n2.toInt64))), sS] [(.long (((8 : Int64) * ((roomF (1 : Int32)).toInt64)) + ((16 : Int64) * (n2.toInt64)))), (.long act)])) (fun _ k => XS.lload X153.here hx rfl (hb hby at_416) rfl k) ?_
          refine Go.st (S' := T153.setTop (mkF m 419 #[sI p1, sJ q2, sS, sJ q3, sS, sJ q4, sS, sJ q5, sS, sI n1, sI n2, sI t3, sI tr, sJ s1, sS, sJ g2, sS, sJ g3, sS, sR ct, sJ lw, sS, sJ s2, sS, sJ s3, sS, sJ act, sS, sI n2, sI 1, sI 0, sI 2, sI 1, sI n2, sI n2, sJ (((8 : Int64) * ((roomF (1 : Int32)).toInt64)) + ((16 : Int64) * (n2.toInt64))), sS] [(.int (lcmpW act (((8 : Int64) * ((roomF (1 : Int32)).toInt64)) + ((16 : Int64) * (n2.toInt64)))))])) (fun _ k => XS.lcmp X153.here hx rfl (hb hby at_418) rfl k) ?_
          refine Go.st (fun _ k => XS.ifNo X153.here hx rfl (hb hby at_419) rfl (own_Leq (by rw [hact]; simp only [expF, curF, ocF, olF, hc197, hc209_1, hc236_2, hc371_5, if_true, if_false] <;> first | rfl | decide)).2 k) ?_
          refine Go.st (fun _ k => XS.iconst X153.here hx rfl (hb hby at_422) k) ?_
          refine Go.st (S' := T153.setTop (mkF m 427 #[sI p1, sJ q2, sS, sJ q3, sS, sJ q4, sS, sJ q5, sS, sI n1, sI n2, sI t3, sI tr, sJ s1, sS, sJ g2, sS, sJ g3, sS, sR ct, sJ lw, sS, sJ s2, sS, sJ s3, sS, sJ act, sS, sI n2, sI 1, sI 0, sI 2, sI 1, sI n2, sI n2, sJ (((8 : Int64) * ((roomF (1 : Int32)).toInt64)) + ((16 : Int64) * (n2.toInt64))), sS] [(.int (1 : Int32))])) (fun _ k => XS.goto X153.here hx rfl (pc0 := 423) (pc' := 427) rfl (hb hby at_423) (by decide) (by decide) k) ?_
          exact own_retN X153 hx hlk hret (by simp) (hb hby at_427) eq153 ⟨rfl, N153⟩ (by decide) (by decide)
        · refine Go.st (S' := Tj.setTop (mkF m 374 #[sI p1, sJ q2, sS, sJ q3, sS, sJ q4, sS, sJ q5, sS, sI n1, sI n2, sI t3, sI tr, sJ s1, sS, sJ g2, sS, sJ g3, sS, sR ct, sJ lw, sS, sJ s2, sS, sJ s3, sS, sJ act, sS, sI n2, sI 1, sI 0, sI 2, sI 1, sI n2, sI n2, sU, sU] [])) (fun _ k => XS.ifNo Xj.here hx rfl (hb hby at_371) rfl ((if0 _ _).trans (feq hc371_5).1) k) ?_
          refine Go.st (S' := Tj.setTop (mkF m 377 #[sI p1, sJ q2, sS, sJ q3, sS, sJ q4, sS, sJ q5, sS, sI n1, sI n2, sI t3, sI tr, sJ s1, sS, sJ g2, sS, sJ g3, sS, sR ct, sJ lw, sS, sJ s2, sS, sJ s3, sS, sJ act, sS, sI n2, sI 1, sI 0, sI 2, sI 1, sI n2, sI n2, sU, sU] [(.long (8 : Int64))])) (Xj.ldc2Long hx hown (mvT hZ (ww hw 51 rfl)) (g := (mkF m 374 #[sI p1, sJ q2, sS, sJ q3, sS, sJ q4, sS, sJ q5, sS, sI n1, sI n2, sI t3, sI tr, sJ s1, sS, sJ g2, sS, sJ g3, sS, sR ct, sJ lw, sS, sJ s2, sS, sJ s3, sS, sJ act, sS, sI n2, sI 1, sI 0, sI 2, sI 1, sI n2, sI n2, sU, sU] [])) rfl (hb hby at_374)) ?_
          refine Go.st (fun _ k => XS.iload Xj.here hx rfl (hb hby at_377) rfl k) ?_
          refine Go.st (fun _ k => XS.i2l Xj.here hx rfl (hb hby at_379) rfl k) ?_
          refine Go.st (S' := Tj.setTop (mkF m 381 #[sI p1, sJ q2, sS, sJ q3, sS, sJ q4, sS, sJ q5, sS, sI n1, sI n2, sI t3, sI tr, sJ s1, sS, sJ g2, sS, sJ g3, sS, sR ct, sJ lw, sS, sJ s2, sS, sJ s3, sS, sJ act, sS, sI n2, sI 1, sI 0, sI 2, sI 1, sI n2, sI n2, sU, sU] [(.long (8 : Int64))])) (fun _ k => XS.lmul Xj.here hx rfl (hb hby at_380) rfl k) ?_
          refine Go.st (S' := Tj.setTop (mkF m 384 #[sI p1, sJ q2, sS, sJ q3, sS, sJ q4, sS, sJ q5, sS, sI n1, sI n2, sI t3, sI tr, sJ s1, sS, sJ g2, sS, sJ g3, sS, sR ct, sJ lw, sS, sJ s2, sS, sJ s3, sS, sJ act, sS, sI n2, sI 1, sI 0, sI 2, sI 1, sI n2, sI n2, sU, sU] [(.long (16 : Int64)), (.long (8 : Int64))])) (Xj.ldc2Long hx hown (mvT hZ (ww hw 55 rfl)) (g := (mkF m 381 #[sI p1, sJ q2, sS, sJ q3, sS, sJ q4, sS, sJ q5, sS, sI n1, sI n2, sI t3, sI tr, sJ s1, sS, sJ g2, sS, sJ g3, sS, sR ct, sJ lw, sS, sJ s2, sS, sJ s3, sS, sJ act, sS, sI n2, sI 1, sI 0, sI 2, sI 1, sI n2, sI n2, sU, sU] [(.long (8 : Int64))])) rfl (hb hby at_381)) ?_
          refine Go.st (fun _ k => XS.iload Xj.here hx rfl (hb hby at_384) rfl k) ?_
          refine Go.st (fun _ k => XS.i2l Xj.here hx rfl (hb hby at_386) rfl k) ?_
          refine Go.st (fun _ k => XS.lmul Xj.here hx rfl (hb hby at_387) rfl k) ?_
          refine Go.st (fun _ k => XS.ladd Xj.here hx rfl (hb hby at_388) rfl k) ?_
          refine Go.st (fun _ k => XS.lstore Xj.here hx rfl (hb hby at_389) rfl (l' := #[sI p1, sJ q2, sS, sJ q3, sS, sJ q4, sS, sJ q5, sS, sI n1, sI n2, sI t3, sI tr, sJ s1, sS, sJ g2, sS, sJ g3, sS, sR ct, sJ lw, sS, sJ s2, sS, sJ s3, sS, sJ act, sS, sI n2, sI 1, sI 0, sI 2, sI 1, sI n2, sI n2, sJ ((8 : Int64) + ((16 : Int64) * (n2.toInt64))), sS]) rfl k) ?_
          refine Go.st (fun _ k => XS.goto Xj.here hx rfl (pc0 := 391) (pc' := 414) rfl (hb hby at_391) (by decide) (by decide) k) ?_
          refine Go.st (S' := Tj.setTop (mkF m 416 #[sI p1, sJ q2, sS, sJ q3, sS, sJ q4, sS, sJ q5, sS, sI n1, sI n2, sI t3, sI tr, sJ s1, sS, sJ g2, sS, sJ g3, sS, sR ct, sJ lw, sS, sJ s2, sS, sJ s3, sS, sJ act, sS, sI n2, sI 1, sI 0, sI 2, sI 1, sI n2, sI n2, sJ ((8 : Int64) + ((16 : Int64) * (n2.toInt64))), sS] [(.long act)])) (fun _ k => XS.lload Xj.here hx rfl (hb hby at_414) rfl k) ?_
          refine Go.st (S' := Tj.setTop (mkF m 418 #[sI p1, sJ q2, sS, sJ q3, sS, sJ q4, sS, sJ q5, sS, sI n1, sI n2, sI t3, sI tr, sJ s1, sS, sJ g2, sS, sJ g3, sS, sR ct, sJ lw, sS, sJ s2, sS, sJ s3, sS, sJ act, sS, sI n2, sI 1, sI 0, sI 2, sI 1, sI n2, sI n2, sJ ((8 : Int64) + ((16 : Int64) * (n2.toInt64))), sS] [(.long ((8 : Int64) + ((16 : Int64) * (n2.toInt64)))), (.long act)])) (fun _ k => XS.lload Xj.here hx rfl (hb hby at_416) rfl k) ?_
          refine Go.st (S' := Tj.setTop (mkF m 419 #[sI p1, sJ q2, sS, sJ q3, sS, sJ q4, sS, sJ q5, sS, sI n1, sI n2, sI t3, sI tr, sJ s1, sS, sJ g2, sS, sJ g3, sS, sR ct, sJ lw, sS, sJ s2, sS, sJ s3, sS, sJ act, sS, sI n2, sI 1, sI 0, sI 2, sI 1, sI n2, sI n2, sJ ((8 : Int64) + ((16 : Int64) * (n2.toInt64))), sS] [(.int (lcmpW act ((8 : Int64) + ((16 : Int64) * (n2.toInt64)))))])) (fun _ k => XS.lcmp Xj.here hx rfl (hb hby at_418) rfl k) ?_
          refine Go.st (fun _ k => XS.ifNo Xj.here hx rfl (hb hby at_419) rfl (own_Leq (by rw [hact]; simp only [expF, curF, ocF, olF, hc197, hc209_1, hc236_2, hc371_5, if_true, if_false] <;> first | rfl | decide)).2 k) ?_
          refine Go.st (fun _ k => XS.iconst Xj.here hx rfl (hb hby at_422) k) ?_
          refine Go.st (S' := Tj.setTop (mkF m 427 #[sI p1, sJ q2, sS, sJ q3, sS, sJ q4, sS, sJ q5, sS, sI n1, sI n2, sI t3, sI tr, sJ s1, sS, sJ g2, sS, sJ g3, sS, sR ct, sJ lw, sS, sJ s2, sS, sJ s3, sS, sJ act, sS, sI n2, sI 1, sI 0, sI 2, sI 1, sI n2, sI n2, sJ ((8 : Int64) + ((16 : Int64) * (n2.toInt64))), sS] [(.int (1 : Int32))])) (fun _ k => XS.goto Xj.here hx rfl (pc0 := 423) (pc' := 427) rfl (hb hby at_423) (by decide) (by decide) k) ?_
          exact own_retN Xj hx hlk hret (by simp) (hb hby at_427) ej ⟨rfl, Nj⟩ (by decide) (by decide)
    · refine Go.st (fun _ k => XS.ifYes Xj.here hx rfl (pc0 := 209) (pc' := 234) rfl (hb hby at_209) rfl ((if0 _ _).trans (flt hc209_1).2.2.2) (by decide) (by decide) k) ?_
      refine Go.st (S' := Tj.setTop (mkF m 236 #[sI p1, sJ q2, sS, sJ q3, sS, sJ q4, sS, sJ q5, sS, sI n1, sI n2, sI t3, sI tr, sJ s1, sS, sJ g2, sS, sJ g3, sS, sR ct, sJ lw, sS, sJ s2, sS, sJ s3, sS, sJ act, sS, sI 0, sI 0, sI 0, sI 0, sU, sU, sU, sU, sU] [(.int t3)])) (fun _ k => XS.iload Xj.here hx rfl (hb hby at_234) rfl k) ?_
      by_cases hc236_3 : t3 = (0 : Int32)
      · refine Go.st (fun _ k => XS.ifYes Xj.here hx rfl (pc0 := 236) (pc' := 271) rfl (hb hby at_236) rfl ((if0 _ _).trans (teq hc236_3).1) (by decide) (by decide) k) ?_
        refine Go.st (S' := Tj.setTop (mkF m 273 #[sI p1, sJ q2, sS, sJ q3, sS, sJ q4, sS, sJ q5, sS, sI n1, sI n2, sI t3, sI tr, sJ s1, sS, sJ g2, sS, sJ g3, sS, sR ct, sJ lw, sS, sJ s2, sS, sJ s3, sS, sJ act, sS, sI 0, sI 0, sI 0, sI 0, sU, sU, sU, sU, sU] [(.int (0 : Int32))])) (fun _ k => XS.iload Xj.here hx rfl (hb hby at_271) rfl k) ?_
        refine Go.st (fun _ k => XS.ifNo Xj.here hx rfl (hb hby at_273) rfl ((if0 _ _).trans (teq (by decide)).2) k) ?_
        refine Go.st (fun _ k => XS.iconst Xj.here hx rfl (hb hby at_276) k) ?_
        refine Go.st (fun _ k => XS.goto Xj.here hx rfl (pc0 := 277) (pc' := 304) rfl (hb hby at_277) (by decide) (by decide) k) ?_
        refine Go.st (fun _ k => XS.istore Xj.here hx rfl (hb hby at_304) rfl (l' := #[sI p1, sJ q2, sS, sJ q3, sS, sJ q4, sS, sJ q5, sS, sI n1, sI n2, sI t3, sI tr, sJ s1, sS, sJ g2, sS, sJ g3, sS, sR ct, sJ lw, sS, sJ s2, sS, sJ s3, sS, sJ act, sS, sI 0, sI 0, sI 0, sI 0, sI 0, sU, sU, sU, sU]) rfl k) ?_
        refine Go.st (fun _ k => XS.iload Xj.here hx rfl (hb hby at_306) rfl k) ?_
        refine Go.st (S' := Tj.setTop (mkF m 309 #[sI p1, sJ q2, sS, sJ q3, sS, sJ q4, sS, sJ q5, sS, sI n1, sI n2, sI t3, sI tr, sJ s1, sS, sJ g2, sS, sJ g3, sS, sR ct, sJ lw, sS, sJ s2, sS, sJ s3, sS, sJ act, sS, sI 0, sI 0, sI 0, sI 0, sI 0, sU, sU, sU, sU] [(.int (1 : Int32)), (.int (0 : Int32))])) (fun _ k => XS.iconst Xj.here hx rfl (hb hby at_308) k) ?_
        refine Go.st (fun _ k => XS.icmpNo Xj.here hx rfl (hb hby at_309) rfl (flt (by decide)).2.2.1 k) ?_
        refine Go.st (fun _ k => XS.iconst Xj.here hx rfl (hb hby at_312) k) ?_
        refine Go.st (fun _ k => XS.goto Xj.here hx rfl (pc0 := 313) (pc' := 332) rfl (hb hby at_313) (by decide) (by decide) k) ?_
        refine Go.st (fun _ k => XS.istore Xj.here hx rfl (hb hby at_332) rfl (l' := #[sI p1, sJ q2, sS, sJ q3, sS, sJ q4, sS, sJ q5, sS, sI n1, sI n2, sI t3, sI tr, sJ s1, sS, sJ g2, sS, sJ g3, sS, sR ct, sJ lw, sS, sJ s2, sS, sJ s3, sS, sJ act, sS, sI 0, sI 0, sI 0, sI 0, sI 0, sI 0, sU, sU, sU]) rfl k) ?_
        refine Go.st (fun _ k => XS.iload Xj.here hx rfl (hb hby at_334) rfl k) ?_
        refine Go.st (S' := Tj.setTop (mkF m 337 #[sI p1, sJ q2, sS, sJ q3, sS, sJ q4, sS, sJ q5, sS, sI n1, sI n2, sI t3, sI tr, sJ s1, sS, sJ g2, sS, sJ g3, sS, sR ct, sJ lw, sS, sJ s2, sS, sJ s3, sS, sJ act, sS, sI 0, sI 0, sI 0, sI 0, sI 0, sI 0, sU, sU, sU] [(.int (1 : Int32)), (.int (0 : Int32))])) (fun _ k => XS.iconst Xj.here hx rfl (hb hby at_336) k) ?_
        refine Go.st (fun _ k => XS.icmpNo Xj.here hx rfl (hb hby at_337) rfl (flt (by decide)).2.2.1 k) ?_
        refine Go.st (fun _ k => XS.iconst Xj.here hx rfl (hb hby at_340) k) ?_
        refine Go.st (fun _ k => XS.goto Xj.here hx rfl (pc0 := 341) (pc' := 367) rfl (hb hby at_341) (by decide) (by decide) k) ?_
        refine Go.st (fun _ k => XS.istore Xj.here hx rfl (hb hby at_367) rfl (l' := #[sI p1, sJ q2, sS, sJ q3, sS, sJ q4, sS, sJ q5, sS, sI n1, sI n2, sI t3, sI tr, sJ s1, sS, sJ g2, sS, sJ g3, sS, sR ct, sJ lw, sS, sJ s2, sS, sJ s3, sS, sJ act, sS, sI 0, sI 0, sI 0, sI 0, sI 0, sI 0, sI 0, sU, sU]) rfl k) ?_
        refine Go.st (S' := Tj.setTop (mkF m 371 #[sI p1, sJ q2, sS, sJ q3, sS, sJ q4, sS, sJ q5, sS, sI n1, sI n2, sI t3, sI tr, sJ s1, sS, sJ g2, sS, sJ g3, sS, sR ct, sJ lw, sS, sJ s2, sS, sJ s3, sS, sJ act, sS, sI 0, sI 0, sI 0, sI 0, sI 0, sI 0, sI 0, sU, sU] [(.int tr)])) (fun _ k => XS.iload Xj.here hx rfl (hb hby at_369) rfl k) ?_
        by_cases hc371_6 : tr = (0 : Int32)
        · refine Go.st (S' := Tj.setTop (mkF m 394 #[sI p1, sJ q2, sS, sJ q3, sS, sJ q4, sS, sJ q5, sS, sI n1, sI n2, sI t3, sI tr, sJ s1, sS, sJ g2, sS, sJ g3, sS, sR ct, sJ lw, sS, sJ s2, sS, sJ s3, sS, sJ act, sS, sI 0, sI 0, sI 0, sI 0, sI 0, sI 0, sI 0, sU, sU] [])) (fun _ k => XS.ifYes Xj.here hx rfl (pc0 := 371) (pc' := 394) rfl (hb hby at_371) rfl ((if0 _ _).trans (teq hc371_6).1) (by decide) (by decide) k) ?_
          refine Go.st (S' := Tj.setTop (mkF m 397 #[sI p1, sJ q2, sS, sJ q3, sS, sJ q4, sS, sJ q5, sS, sI n1, sI n2, sI t3, sI tr, sJ s1, sS, sJ g2, sS, sJ g3, sS, sR ct, sJ lw, sS, sJ s2, sS, sJ s3, sS, sJ act, sS, sI 0, sI 0, sI 0, sI 0, sI 0, sI 0, sI 0, sU, sU] [(.long (8 : Int64))])) (Xj.ldc2Long hx hown (mvT hZ (ww hw 51 rfl)) (g := (mkF m 394 #[sI p1, sJ q2, sS, sJ q3, sS, sJ q4, sS, sJ q5, sS, sI n1, sI n2, sI t3, sI tr, sJ s1, sS, sJ g2, sS, sJ g3, sS, sR ct, sJ lw, sS, sJ s2, sS, sJ s3, sS, sJ act, sS, sI 0, sI 0, sI 0, sI 0, sI 0, sI 0, sI 0, sU, sU] [])) rfl (hb hby at_394)) ?_
          refine Go.st (S' := Tj.setTop (mkF m 399 #[sI p1, sJ q2, sS, sJ q3, sS, sJ q4, sS, sJ q5, sS, sI n1, sI n2, sI t3, sI tr, sJ s1, sS, sJ g2, sS, sJ g3, sS, sR ct, sJ lw, sS, sJ s2, sS, sJ s3, sS, sJ act, sS, sI 0, sI 0, sI 0, sI 0, sI 0, sI 0, sI 0, sU, sU] [(.int (0 : Int32)), (.long (8 : Int64))])) (fun _ k => XS.iload Xj.here hx rfl (hb hby at_397) rfl k) ?_
          obtain ⟨_, T154, L154, X154, ⟨rfl, Nq154, eq154⟩, st154⟩ := own_callS Xj hx hZ hown (ww hw 52 rfl) (ww hw 53 rfl) (ww hw 39 rfl) (ww hw 54 rfl) (by decide) ej (rmRoom l Z a0 hw [] w_NONE k_NONE hS (0 : Int32) hj Oj) 2 (by decide) (by decide) (by decide) (by decide) (g := (mkF m 399 #[sI p1, sJ q2, sS, sJ q3, sS, sJ q4, sS, sJ q5, sS, sI n1, sI n2, sI t3, sI tr, sJ s1, sS, sJ g2, sS, sJ g3, sS, sR ct, sJ lw, sS, sJ s2, sS, sJ s3, sS, sJ act, sS, sI 0, sI 0, sI 0, sI 0, sI 0, sI 0, sI 0, sU, sU] [(.int (0 : Int32)), (.long (8 : Int64))])) rfl (by rw [hml]; rfl) [(.int (0 : Int32))] [(.long (8 : Int64))] rfl (lenOf pd_674828 rfl) rfl (by show 2 * 0 + _ ≤ _; exact Nat.le_of_eq rfl) (hb hby at_399)
          have N154 := Fr.app Nj Nq154
          refine Go.st (S' := T154.setTop (mkF m 402 #[sI p1, sJ q2, sS, sJ q3, sS, sJ q4, sS, sJ q5, sS, sI n1, sI n2, sI t3, sI tr, sJ s1, sS, sJ g2, sS, sJ g3, sS, sR ct, sJ lw, sS, sJ s2, sS, sJ s3, sS, sJ act, sS, sI 0, sI 0, sI 0, sI 0, sI 0, sI 0, sI 0, sU, sU] [(.int (roomF (0 : Int32))), (.long (8 : Int64))])) st154 ?_
          refine Go.st (fun _ k => XS.i2l X154.here hx rfl (hb hby at_402) rfl k) ?_
          refine Go.st (S' := T154.setTop (mkF m 404 #[sI p1, sJ q2, sS, sJ q3, sS, sJ q4, sS, sJ q5, sS, sI n1, sI n2, sI t3, sI tr, sJ s1, sS, sJ g2, sS, sJ g3, sS, sR ct, sJ lw, sS, sJ s2, sS, sJ s3, sS, sJ act, sS, sI 0, sI 0, sI 0, sI 0, sI 0, sI 0, sI 0, sU, sU] [(.long ((8 : Int64) * ((roomF (0 : Int32)).toInt64)))])) (fun _ k => XS.lmul X154.here hx rfl (hb hby at_403) rfl k) ?_
          refine Go.st (S' := T154.setTop (mkF m 407 #[sI p1, sJ q2, sS, sJ q3, sS, sJ q4, sS, sJ q5, sS, sI n1, sI n2, sI t3, sI tr, sJ s1, sS, sJ g2, sS, sJ g3, sS, sR ct, sJ lw, sS, sJ s2, sS, sJ s3, sS, sJ act, sS, sI 0, sI 0, sI 0, sI 0, sI 0, sI 0, sI 0, sU, sU] [(.long (16 : Int64)), (.long ((8 : Int64) * ((roomF (0 : Int32)).toInt64)))])) (X154.ldc2Long hx hown (mvT hZ (ww hw 55 rfl)) (g := (mkF m 404 #[sI p1, sJ q2, sS, sJ q3, sS, sJ q4, sS, sJ q5, sS, sI n1, sI n2, sI t3, sI tr, sJ s1, sS, sJ g2, sS, sJ g3, sS, sR ct, sJ lw, sS, sJ s2, sS, sJ s3, sS, sJ act, sS, sI 0, sI 0, sI 0, sI 0, sI 0, sI 0, sI 0, sU, sU] [(.long ((8 : Int64) * ((roomF (0 : Int32)).toInt64)))])) rfl (hb hby at_404)) ?_
          refine Go.st (fun _ k => XS.iload X154.here hx rfl (hb hby at_407) rfl k) ?_
          refine Go.st (fun _ k => XS.i2l X154.here hx rfl (hb hby at_409) rfl k) ?_
          refine Go.st (fun _ k => XS.lmul X154.here hx rfl (hb hby at_410) rfl k) ?_
          refine Go.st (fun _ k => XS.ladd X154.here hx rfl (hb hby at_411) rfl k) ?_
          refine Go.st (fun _ k => XS.lstore X154.here hx rfl (hb hby at_412) rfl (l' := #[sI p1, sJ q2, sS, sJ q3, sS, sJ q4, sS, sJ q5, sS, sI n1, sI n2, sI t3, sI tr, sJ s1, sS, sJ g2, sS, sJ g3, sS, sR ct, sJ lw, sS, sJ s2, sS, sJ s3, sS, sJ act, sS, sI 0, sI 0, sI 0, sI 0, sI 0, sI 0, sI 0, sJ (((8 : Int64) * ((roomF (0 : Int32)).toInt64)) + (0 : Int64)), sS]) rfl k) ?_
          refine Go.st (fun _ k => XS.lload X154.here hx rfl (hb hby at_414) rfl k) ?_
          refine Go.st (S' := T154.setTop (mkF m 418 #[sI p1, sJ q2, sS, sJ q3, sS, sJ q4, sS, sJ q5, sS, sI n1, sI n2, sI t3, sI tr, sJ s1, sS, sJ g2, sS, sJ g3, sS, sR ct, sJ lw, sS, sJ s2, sS, sJ s3, sS, sJ act, sS, sI 0, sI 0, sI 0, sI 0, sI 0, sI 0, sI 0, sJ (((8 : Int64) * ((roomF (0 : Int32)).toInt64)) + (0 : Int64)), sS] [(.long (((8 : Int64) * ((roomF (0 : Int32)).toInt64)) + (0 : Int64))), (.long act)])) (fun _ k => XS.lload X154.here hx rfl (hb hby at_416) rfl k) ?_
          refine Go.st (S' := T154.setTop (mkF m 419 #[sI p1, sJ q2, sS, sJ q3, sS, sJ q4, sS, sJ q5, sS, sI n1, sI n2, sI t3, sI tr, sJ s1, sS, sJ g2, sS, sJ g3, sS, sR ct, sJ lw, sS, sJ s2, sS, sJ s3, sS, sJ act, sS, sI 0, sI 0, sI 0, sI 0, sI 0, sI 0, sI 0, sJ (((8 : Int64) * ((roomF (0 : Int32)).toInt64)) + (0 : Int64)), sS] [(.int (lcmpW act (((8 : Int64) * ((roomF (0 : Int32)).toInt64)) + (0 : Int64))))])) (fun _ k => XS.lcmp X154.here hx rfl (hb hby at_418) rfl k) ?_
          refine Go.st (fun _ k => XS.ifNo X154.here hx rfl (hb hby at_419) rfl (own_Leq (by rw [hact]; simp only [expF, curF, ocF, olF, hc197, hc209_1, hc236_3, hc371_6, if_true, if_false] <;> first | rfl | decide)).2 k) ?_
          refine Go.st (fun _ k => XS.iconst X154.here hx rfl (hb hby at_422) k) ?_
          refine Go.st (S' := T154.setTop (mkF m 427 #[sI p1, sJ q2, sS, sJ q3, sS, sJ q4, sS, sJ q5, sS, sI n1, sI n2, sI t3, sI tr, sJ s1, sS, sJ g2, sS, sJ g3, sS, sR ct, sJ lw, sS, sJ s2, sS, sJ s3, sS, sJ act, sS, sI 0, sI 0, sI 0, sI 0, sI 0, sI 0, sI 0, sJ (((8 : Int64) * ((roomF (0 : Int32)).toInt64)) + (0 : Int64)), sS] [(.int (1 : Int32))])) (fun _ k => XS.goto X154.here hx rfl (pc0 := 423) (pc' := 427) rfl (hb hby at_423) (by decide) (by decide) k) ?_
          exact own_retN X154 hx hlk hret (by simp) (hb hby at_427) eq154 ⟨rfl, N154⟩ (by decide) (by decide)
        · refine Go.st (S' := Tj.setTop (mkF m 374 #[sI p1, sJ q2, sS, sJ q3, sS, sJ q4, sS, sJ q5, sS, sI n1, sI n2, sI t3, sI tr, sJ s1, sS, sJ g2, sS, sJ g3, sS, sR ct, sJ lw, sS, sJ s2, sS, sJ s3, sS, sJ act, sS, sI 0, sI 0, sI 0, sI 0, sI 0, sI 0, sI 0, sU, sU] [])) (fun _ k => XS.ifNo Xj.here hx rfl (hb hby at_371) rfl ((if0 _ _).trans (feq hc371_6).1) k) ?_
          refine Go.st (S' := Tj.setTop (mkF m 377 #[sI p1, sJ q2, sS, sJ q3, sS, sJ q4, sS, sJ q5, sS, sI n1, sI n2, sI t3, sI tr, sJ s1, sS, sJ g2, sS, sJ g3, sS, sR ct, sJ lw, sS, sJ s2, sS, sJ s3, sS, sJ act, sS, sI 0, sI 0, sI 0, sI 0, sI 0, sI 0, sI 0, sU, sU] [(.long (8 : Int64))])) (Xj.ldc2Long hx hown (mvT hZ (ww hw 51 rfl)) (g := (mkF m 374 #[sI p1, sJ q2, sS, sJ q3, sS, sJ q4, sS, sJ q5, sS, sI n1, sI n2, sI t3, sI tr, sJ s1, sS, sJ g2, sS, sJ g3, sS, sR ct, sJ lw, sS, sJ s2, sS, sJ s3, sS, sJ act, sS, sI 0, sI 0, sI 0, sI 0, sI 0, sI 0, sI 0, sU, sU] [])) rfl (hb hby at_374)) ?_
          refine Go.st (fun _ k => XS.iload Xj.here hx rfl (hb hby at_377) rfl k) ?_
          refine Go.st (fun _ k => XS.i2l Xj.here hx rfl (hb hby at_379) rfl k) ?_
          refine Go.st (S' := Tj.setTop (mkF m 381 #[sI p1, sJ q2, sS, sJ q3, sS, sJ q4, sS, sJ q5, sS, sI n1, sI n2, sI t3, sI tr, sJ s1, sS, sJ g2, sS, sJ g3, sS, sR ct, sJ lw, sS, sJ s2, sS, sJ s3, sS, sJ act, sS, sI 0, sI 0, sI 0, sI 0, sI 0, sI 0, sI 0, sU, sU] [(.long (0 : Int64))])) (fun _ k => XS.lmul Xj.here hx rfl (hb hby at_380) rfl k) ?_
          refine Go.st (S' := Tj.setTop (mkF m 384 #[sI p1, sJ q2, sS, sJ q3, sS, sJ q4, sS, sJ q5, sS, sI n1, sI n2, sI t3, sI tr, sJ s1, sS, sJ g2, sS, sJ g3, sS, sR ct, sJ lw, sS, sJ s2, sS, sJ s3, sS, sJ act, sS, sI 0, sI 0, sI 0, sI 0, sI 0, sI 0, sI 0, sU, sU] [(.long (16 : Int64)), (.long (0 : Int64))])) (Xj.ldc2Long hx hown (mvT hZ (ww hw 55 rfl)) (g := (mkF m 381 #[sI p1, sJ q2, sS, sJ q3, sS, sJ q4, sS, sJ q5, sS, sI n1, sI n2, sI t3, sI tr, sJ s1, sS, sJ g2, sS, sJ g3, sS, sR ct, sJ lw, sS, sJ s2, sS, sJ s3, sS, sJ act, sS, sI 0, sI 0, sI 0, sI 0, sI 0, sI 0, sI 0, sU, sU] [(.long (0 : Int64))])) rfl (hb hby at_381)) ?_
          refine Go.st (fun _ k => XS.iload Xj.here hx rfl (hb hby at_384) rfl k) ?_
          refine Go.st (fun _ k => XS.i2l Xj.here hx rfl (hb hby at_386) rfl k) ?_
          refine Go.st (fun _ k => XS.lmul Xj.here hx rfl (hb hby at_387) rfl k) ?_
          refine Go.st (fun _ k => XS.ladd Xj.here hx rfl (hb hby at_388) rfl k) ?_
          refine Go.st (fun _ k => XS.lstore Xj.here hx rfl (hb hby at_389) rfl (l' := #[sI p1, sJ q2, sS, sJ q3, sS, sJ q4, sS, sJ q5, sS, sI n1, sI n2, sI t3, sI tr, sJ s1, sS, sJ g2, sS, sJ g3, sS, sR ct, sJ lw, sS, sJ s2, sS, sJ s3, sS, sJ act, sS, sI 0, sI 0, sI 0, sI 0, sI 0, sI 0, sI 0, sJ 0, sS]) rfl k) ?_
          refine Go.st (fun _ k => XS.goto Xj.here hx rfl (pc0 := 391) (pc' := 414) rfl (hb hby at_391) (by decide) (by decide) k) ?_
          refine Go.st (S' := Tj.setTop (mkF m 416 #[sI p1, sJ q2, sS, sJ q3, sS, sJ q4, sS, sJ q5, sS, sI n1, sI n2, sI t3, sI tr, sJ s1, sS, sJ g2, sS, sJ g3, sS, sR ct, sJ lw, sS, sJ s2, sS, sJ s3, sS, sJ act, sS, sI 0, sI 0, sI 0, sI 0, sI 0, sI 0, sI 0, sJ 0, sS] [(.long act)])) (fun _ k => XS.lload Xj.here hx rfl (hb hby at_414) rfl k) ?_
          refine Go.st (S' := Tj.setTop (mkF m 418 #[sI p1, sJ q2, sS, sJ q3, sS, sJ q4, sS, sJ q5, sS, sI n1, sI n2, sI t3, sI tr, sJ s1, sS, sJ g2, sS, sJ g3, sS, sR ct, sJ lw, sS, sJ s2, sS, sJ s3, sS, sJ act, sS, sI 0, sI 0, sI 0, sI 0, sI 0, sI 0, sI 0, sJ 0, sS] [(.long (0 : Int64)), (.long act)])) (fun _ k => XS.lload Xj.here hx rfl (hb hby at_416) rfl k) ?_
          refine Go.st (S' := Tj.setTop (mkF m 419 #[sI p1, sJ q2, sS, sJ q3, sS, sJ q4, sS, sJ q5, sS, sI n1, sI n2, sI t3, sI tr, sJ s1, sS, sJ g2, sS, sJ g3, sS, sR ct, sJ lw, sS, sJ s2, sS, sJ s3, sS, sJ act, sS, sI 0, sI 0, sI 0, sI 0, sI 0, sI 0, sI 0, sJ 0, sS] [(.int (lcmpW act (0 : Int64)))])) (fun _ k => XS.lcmp Xj.here hx rfl (hb hby at_418) rfl k) ?_
          refine Go.st (fun _ k => XS.ifNo Xj.here hx rfl (hb hby at_419) rfl (own_Leq (by rw [hact]; simp only [expF, curF, ocF, olF, hc197, hc209_1, hc236_3, hc371_6, if_true, if_false] <;> first | rfl | decide)).2 k) ?_
          refine Go.st (fun _ k => XS.iconst Xj.here hx rfl (hb hby at_422) k) ?_
          refine Go.st (S' := Tj.setTop (mkF m 427 #[sI p1, sJ q2, sS, sJ q3, sS, sJ q4, sS, sJ q5, sS, sI n1, sI n2, sI t3, sI tr, sJ s1, sS, sJ g2, sS, sJ g3, sS, sR ct, sJ lw, sS, sJ s2, sS, sJ s3, sS, sJ act, sS, sI 0, sI 0, sI 0, sI 0, sI 0, sI 0, sI 0, sJ 0, sS] [(.int (1 : Int32))])) (fun _ k => XS.goto Xj.here hx rfl (pc0 := 423) (pc' := 427) rfl (hb hby at_423) (by decide) (by decide) k) ?_
          exact own_retN Xj hx hlk hret (by simp) (hb hby at_427) ej ⟨rfl, Nj⟩ (by decide) (by decide)
      · refine Go.st (fun _ k => XS.ifNo Xj.here hx rfl (hb hby at_236) rfl ((if0 _ _).trans (feq hc236_3).1) k) ?_
        refine Go.st (S' := Tj.setTop (mkF m 241 #[sI p1, sJ q2, sS, sJ q3, sS, sJ q4, sS, sJ q5, sS, sI n1, sI n2, sI t3, sI tr, sJ s1, sS, sJ g2, sS, sJ g3, sS, sR ct, sJ lw, sS, sJ s2, sS, sJ s3, sS, sJ act, sS, sI 0, sI 0, sI 0, sI 0, sU, sU, sU, sU, sU] [(.int (0 : Int32))])) (fun _ k => XS.iload Xj.here hx rfl (hb hby at_239) rfl k) ?_
        refine Go.st (fun _ k => XS.ifNo Xj.here hx rfl (hb hby at_241) rfl ((if0 _ _).trans (teq (by decide)).2) k) ?_
        refine Go.st (fun _ k => XS.iconst Xj.here hx rfl (hb hby at_244) k) ?_
        refine Go.st (fun _ k => XS.istore Xj.here hx rfl (hb hby at_245) rfl (l' := #[sI p1, sJ q2, sS, sJ q3, sS, sJ q4, sS, sJ q5, sS, sI n1, sI n2, sI t3, sI tr, sJ s1, sS, sJ g2, sS, sJ g3, sS, sR ct, sJ lw, sS, sJ s2, sS, sJ s3, sS, sJ act, sS, sI 1, sI 0, sI 0, sI 0, sU, sU, sU, sU, sU]) rfl k) ?_
        refine Go.st (fun _ k => XS.goto Xj.here hx rfl (pc0 := 247) (pc' := 265) rfl (hb hby at_247) (by decide) (by decide) k) ?_
        refine Go.st (fun _ k => XS.iload Xj.here hx rfl (hb hby at_265) rfl k) ?_
        refine Go.st (fun _ k => XS.iconst Xj.here hx rfl (hb hby at_267) k) ?_
        refine Go.st (S' := Tj.setTop (mkF m 269 #[sI p1, sJ q2, sS, sJ q3, sS, sJ q4, sS, sJ q5, sS, sI n1, sI n2, sI t3, sI tr, sJ s1, sS, sJ g2, sS, sJ g3, sS, sR ct, sJ lw, sS, sJ s2, sS, sJ s3, sS, sJ act, sS, sI 1, sI 0, sI 0, sI 0, sU, sU, sU, sU, sU] [(.int (1 : Int32))])) (fun _ k => XS.iadd Xj.here hx rfl (hb hby at_268) rfl k) ?_
        refine Go.st (fun _ k => XS.istore Xj.here hx rfl (hb hby at_269) rfl (l' := #[sI p1, sJ q2, sS, sJ q3, sS, sJ q4, sS, sJ q5, sS, sI n1, sI n2, sI t3, sI tr, sJ s1, sS, sJ g2, sS, sJ g3, sS, sR ct, sJ lw, sS, sJ s2, sS, sJ s3, sS, sJ act, sS, sI 1, sI 0, sI 0, sI 1, sU, sU, sU, sU, sU]) rfl k) ?_
        refine Go.st (S' := Tj.setTop (mkF m 273 #[sI p1, sJ q2, sS, sJ q3, sS, sJ q4, sS, sJ q5, sS, sI n1, sI n2, sI t3, sI tr, sJ s1, sS, sJ g2, sS, sJ g3, sS, sR ct, sJ lw, sS, sJ s2, sS, sJ s3, sS, sJ act, sS, sI 1, sI 0, sI 0, sI 1, sU, sU, sU, sU, sU] [(.int (1 : Int32))])) (fun _ k => XS.iload Xj.here hx rfl (hb hby at_271) rfl k) ?_
        refine Go.st (fun _ k => XS.ifYes Xj.here hx rfl (pc0 := 273) (pc' := 280) rfl (hb hby at_273) rfl ((if0 _ _).trans (feq (by decide)).2) (by decide) (by decide) k) ?_
        refine Go.st (fun _ k => XS.iload Xj.here hx rfl (hb hby at_280) rfl k) ?_
        refine Go.st (S' := Tj.setTop (mkF m 283 #[sI p1, sJ q2, sS, sJ q3, sS, sJ q4, sS, sJ q5, sS, sI n1, sI n2, sI t3, sI tr, sJ s1, sS, sJ g2, sS, sJ g3, sS, sR ct, sJ lw, sS, sJ s2, sS, sJ s3, sS, sJ act, sS, sI 1, sI 0, sI 0, sI 1, sU, sU, sU, sU, sU] [(.int (1 : Int32)), (.int (1 : Int32))])) (fun _ k => XS.iconst Xj.here hx rfl (hb hby at_282) k) ?_
        refine Go.st (fun _ k => XS.icmpNo Xj.here hx rfl (hb hby at_283) rfl (teq (by decide)).2 k) ?_
        refine Go.st (fun _ k => XS.iload Xj.here hx rfl (hb hby at_286) rfl k) ?_
        refine Go.st (fun _ k => XS.goto Xj.here hx rfl (pc0 := 288) (pc' := 304) rfl (hb hby at_288) (by decide) (by decide) k) ?_
        refine Go.st (fun _ k => XS.istore Xj.here hx rfl (hb hby at_304) rfl (l' := #[sI p1, sJ q2, sS, sJ q3, sS, sJ q4, sS, sJ q5, sS, sI n1, sI n2, sI t3, sI tr, sJ s1, sS, sJ g2, sS, sJ g3, sS, sR ct, sJ lw, sS, sJ s2, sS, sJ s3, sS, sJ act, sS, sI 1, sI 0, sI 0, sI 1, sI 1, sU, sU, sU, sU]) rfl k) ?_
        refine Go.st (fun _ k => XS.iload Xj.here hx rfl (hb hby at_306) rfl k) ?_
        refine Go.st (S' := Tj.setTop (mkF m 309 #[sI p1, sJ q2, sS, sJ q3, sS, sJ q4, sS, sJ q5, sS, sI n1, sI n2, sI t3, sI tr, sJ s1, sS, sJ g2, sS, sJ g3, sS, sR ct, sJ lw, sS, sJ s2, sS, sJ s3, sS, sJ act, sS, sI 1, sI 0, sI 0, sI 1, sI 1, sU, sU, sU, sU] [(.int (1 : Int32)), (.int (1 : Int32))])) (fun _ k => XS.iconst Xj.here hx rfl (hb hby at_308) k) ?_
        refine Go.st (fun _ k => XS.icmpNo Xj.here hx rfl (hb hby at_309) rfl (flt (by decide)).2.2.1 k) ?_
        refine Go.st (fun _ k => XS.iconst Xj.here hx rfl (hb hby at_312) k) ?_
        refine Go.st (fun _ k => XS.goto Xj.here hx rfl (pc0 := 313) (pc' := 332) rfl (hb hby at_313) (by decide) (by decide) k) ?_
        refine Go.st (fun _ k => XS.istore Xj.here hx rfl (hb hby at_332) rfl (l' := #[sI p1, sJ q2, sS, sJ q3, sS, sJ q4, sS, sJ q5, sS, sI n1, sI n2, sI t3, sI tr, sJ s1, sS, sJ g2, sS, sJ g3, sS, sR ct, sJ lw, sS, sJ s2, sS, sJ s3, sS, sJ act, sS, sI 1, sI 0, sI 0, sI 1, sI 1, sI 0, sU, sU, sU]) rfl k) ?_
        refine Go.st (fun _ k => XS.iload Xj.here hx rfl (hb hby at_334) rfl k) ?_
        refine Go.st (S' := Tj.setTop (mkF m 337 #[sI p1, sJ q2, sS, sJ q3, sS, sJ q4, sS, sJ q5, sS, sI n1, sI n2, sI t3, sI tr, sJ s1, sS, sJ g2, sS, sJ g3, sS, sR ct, sJ lw, sS, sJ s2, sS, sJ s3, sS, sJ act, sS, sI 1, sI 0, sI 0, sI 1, sI 1, sI 0, sU, sU, sU] [(.int (1 : Int32)), (.int (1 : Int32))])) (fun _ k => XS.iconst Xj.here hx rfl (hb hby at_336) k) ?_
        refine Go.st (fun _ k => XS.icmpNo Xj.here hx rfl (hb hby at_337) rfl (flt (by decide)).2.2.1 k) ?_
        refine Go.st (fun _ k => XS.iconst Xj.here hx rfl (hb hby at_340) k) ?_
        refine Go.st (fun _ k => XS.goto Xj.here hx rfl (pc0 := 341) (pc' := 367) rfl (hb hby at_341) (by decide) (by decide) k) ?_
        refine Go.st (fun _ k => XS.istore Xj.here hx rfl (hb hby at_367) rfl (l' := #[sI p1, sJ q2, sS, sJ q3, sS, sJ q4, sS, sJ q5, sS, sI n1, sI n2, sI t3, sI tr, sJ s1, sS, sJ g2, sS, sJ g3, sS, sR ct, sJ lw, sS, sJ s2, sS, sJ s3, sS, sJ act, sS, sI 1, sI 0, sI 0, sI 1, sI 1, sI 0, sI 0, sU, sU]) rfl k) ?_
        refine Go.st (S' := Tj.setTop (mkF m 371 #[sI p1, sJ q2, sS, sJ q3, sS, sJ q4, sS, sJ q5, sS, sI n1, sI n2, sI t3, sI tr, sJ s1, sS, sJ g2, sS, sJ g3, sS, sR ct, sJ lw, sS, sJ s2, sS, sJ s3, sS, sJ act, sS, sI 1, sI 0, sI 0, sI 1, sI 1, sI 0, sI 0, sU, sU] [(.int tr)])) (fun _ k => XS.iload Xj.here hx rfl (hb hby at_369) rfl k) ?_
        by_cases hc371_7 : tr = (0 : Int32)
        · refine Go.st (S' := Tj.setTop (mkF m 394 #[sI p1, sJ q2, sS, sJ q3, sS, sJ q4, sS, sJ q5, sS, sI n1, sI n2, sI t3, sI tr, sJ s1, sS, sJ g2, sS, sJ g3, sS, sR ct, sJ lw, sS, sJ s2, sS, sJ s3, sS, sJ act, sS, sI 1, sI 0, sI 0, sI 1, sI 1, sI 0, sI 0, sU, sU] [])) (fun _ k => XS.ifYes Xj.here hx rfl (pc0 := 371) (pc' := 394) rfl (hb hby at_371) rfl ((if0 _ _).trans (teq hc371_7).1) (by decide) (by decide) k) ?_
          refine Go.st (S' := Tj.setTop (mkF m 397 #[sI p1, sJ q2, sS, sJ q3, sS, sJ q4, sS, sJ q5, sS, sI n1, sI n2, sI t3, sI tr, sJ s1, sS, sJ g2, sS, sJ g3, sS, sR ct, sJ lw, sS, sJ s2, sS, sJ s3, sS, sJ act, sS, sI 1, sI 0, sI 0, sI 1, sI 1, sI 0, sI 0, sU, sU] [(.long (8 : Int64))])) (Xj.ldc2Long hx hown (mvT hZ (ww hw 51 rfl)) (g := (mkF m 394 #[sI p1, sJ q2, sS, sJ q3, sS, sJ q4, sS, sJ q5, sS, sI n1, sI n2, sI t3, sI tr, sJ s1, sS, sJ g2, sS, sJ g3, sS, sR ct, sJ lw, sS, sJ s2, sS, sJ s3, sS, sJ act, sS, sI 1, sI 0, sI 0, sI 1, sI 1, sI 0, sI 0, sU, sU] [])) rfl (hb hby at_394)) ?_
          refine Go.st (S' := Tj.setTop (mkF m 399 #[sI p1, sJ q2, sS, sJ q3, sS, sJ q4, sS, sJ q5, sS, sI n1, sI n2, sI t3, sI tr, sJ s1, sS, sJ g2, sS, sJ g3, sS, sR ct, sJ lw, sS, sJ s2, sS, sJ s3, sS, sJ act, sS, sI 1, sI 0, sI 0, sI 1, sI 1, sI 0, sI 0, sU, sU] [(.int (1 : Int32)), (.long (8 : Int64))])) (fun _ k => XS.iload Xj.here hx rfl (hb hby at_397) rfl k) ?_
          obtain ⟨_, T155, L155, X155, ⟨rfl, Nq155, eq155⟩, st155⟩ := own_callS Xj hx hZ hown (ww hw 52 rfl) (ww hw 53 rfl) (ww hw 39 rfl) (ww hw 54 rfl) (by decide) ej (rmRoom l Z a0 hw [] w_NONE k_NONE hS (1 : Int32) hj Oj) 2 (by decide) (by decide) (by decide) (by decide) (g := (mkF m 399 #[sI p1, sJ q2, sS, sJ q3, sS, sJ q4, sS, sJ q5, sS, sI n1, sI n2, sI t3, sI tr, sJ s1, sS, sJ g2, sS, sJ g3, sS, sR ct, sJ lw, sS, sJ s2, sS, sJ s3, sS, sJ act, sS, sI 1, sI 0, sI 0, sI 1, sI 1, sI 0, sI 0, sU, sU] [(.int (1 : Int32)), (.long (8 : Int64))])) rfl (by rw [hml]; rfl) [(.int (1 : Int32))] [(.long (8 : Int64))] rfl (lenOf pd_674828 rfl) rfl (by show 2 * 0 + _ ≤ _; exact Nat.le_of_eq rfl) (hb hby at_399)
          have N155 := Fr.app Nj Nq155
          refine Go.st (S' := T155.setTop (mkF m 402 #[sI p1, sJ q2, sS, sJ q3, sS, sJ q4, sS, sJ q5, sS, sI n1, sI n2, sI t3, sI tr, sJ s1, sS, sJ g2, sS, sJ g3, sS, sR ct, sJ lw, sS, sJ s2, sS, sJ s3, sS, sJ act, sS, sI 1, sI 0, sI 0, sI 1, sI 1, sI 0, sI 0, sU, sU] [(.int (roomF (1 : Int32))), (.long (8 : Int64))])) st155 ?_
          refine Go.st (fun _ k => XS.i2l X155.here hx rfl (hb hby at_402) rfl k) ?_
          refine Go.st (S' := T155.setTop (mkF m 404 #[sI p1, sJ q2, sS, sJ q3, sS, sJ q4, sS, sJ q5, sS, sI n1, sI n2, sI t3, sI tr, sJ s1, sS, sJ g2, sS, sJ g3, sS, sR ct, sJ lw, sS, sJ s2, sS, sJ s3, sS, sJ act, sS, sI 1, sI 0, sI 0, sI 1, sI 1, sI 0, sI 0, sU, sU] [(.long ((8 : Int64) * ((roomF (1 : Int32)).toInt64)))])) (fun _ k => XS.lmul X155.here hx rfl (hb hby at_403) rfl k) ?_
          refine Go.st (S' := T155.setTop (mkF m 407 #[sI p1, sJ q2, sS, sJ q3, sS, sJ q4, sS, sJ q5, sS, sI n1, sI n2, sI t3, sI tr, sJ s1, sS, sJ g2, sS, sJ g3, sS, sR ct, sJ lw, sS, sJ s2, sS, sJ s3, sS, sJ act, sS, sI 1, sI 0, sI 0, sI 1, sI 1, sI 0, sI 0, sU, sU] [(.long (16 : Int64)), (.long ((8 : Int64) * ((roomF (1 : Int32)).toInt64)))])) (X155.ldc2Long hx hown (mvT hZ (ww hw 55 rfl)) (g := (mkF m 404 #[sI p1, sJ q2, sS, sJ q3, sS, sJ q4, sS, sJ q5, sS, sI n1, sI n2, sI t3, sI tr, sJ s1, sS, sJ g2, sS, sJ g3, sS, sR ct, sJ lw, sS, sJ s2, sS, sJ s3, sS, sJ act, sS, sI 1, sI 0, sI 0, sI 1, sI 1, sI 0, sI 0, sU, sU] [(.long ((8 : Int64) * ((roomF (1 : Int32)).toInt64)))])) rfl (hb hby at_404)) ?_
          refine Go.st (fun _ k => XS.iload X155.here hx rfl (hb hby at_407) rfl k) ?_
          refine Go.st (fun _ k => XS.i2l X155.here hx rfl (hb hby at_409) rfl k) ?_
          refine Go.st (fun _ k => XS.lmul X155.here hx rfl (hb hby at_410) rfl k) ?_
          refine Go.st (fun _ k => XS.ladd X155.here hx rfl (hb hby at_411) rfl k) ?_
          refine Go.st (fun _ k => XS.lstore X155.here hx rfl (hb hby at_412) rfl (l' := #[sI p1, sJ q2, sS, sJ q3, sS, sJ q4, sS, sJ q5, sS, sI n1, sI n2, sI t3, sI tr, sJ s1, sS, sJ g2, sS, sJ g3, sS, sR ct, sJ lw, sS, sJ s2, sS, sJ s3, sS, sJ act, sS, sI 1, sI 0, sI 0, sI 1, sI 1, sI 0, sI 0, sJ (((8 : Int64) * ((roomF (1 : Int32)).toInt64)) + (0 : Int64)), sS]) rfl k) ?_
          refine Go.st (fun _ k => XS.lload X155.here hx rfl (hb hby at_414) rfl k) ?_
          refine Go.st (S' := T155.setTop (mkF m 418 #[sI p1, sJ q2, sS, sJ q3, sS, sJ q4, sS, sJ q5, sS, sI n1, sI n2, sI t3, sI tr, sJ s1, sS, sJ g2, sS, sJ g3, sS, sR ct, sJ lw, sS, sJ s2, sS, sJ s3, sS, sJ act, sS, sI 1, sI 0, sI 0, sI 1, sI 1, sI 0, sI 0, sJ (((8 : Int64) * ((roomF (1 : Int32)).toInt64)) + (0 : Int64)), sS] [(.long (((8 : Int64) * ((roomF (1 : Int32)).toInt64)) + (0 : Int64))), (.long act)])) (fun _ k => XS.lload X155.here hx rfl (hb hby at_416) rfl k) ?_
          refine Go.st (S' := T155.setTop (mkF m 419 #[sI p1, sJ q2, sS, sJ q3, sS, sJ q4, sS, sJ q5, sS, sI n1, sI n2, sI t3, sI tr, sJ s1, sS, sJ g2, sS, sJ g3, sS, sR ct, sJ lw, sS, sJ s2, sS, sJ s3, sS, sJ act, sS, sI 1, sI 0, sI 0, sI 1, sI 1, sI 0, sI 0, sJ (((8 : Int64) * ((roomF (1 : Int32)).toInt64)) + (0 : Int64)), sS] [(.int (lcmpW act (((8 : Int64) * ((roomF (1 : Int32)).toInt64)) + (0 : Int64))))])) (fun _ k => XS.lcmp X155.here hx rfl (hb hby at_418) rfl k) ?_
          refine Go.st (fun _ k => XS.ifNo X155.here hx rfl (hb hby at_419) rfl (own_Leq (by rw [hact]; simp only [expF, curF, ocF, olF, hc197, hc209_1, hc236_3, hc371_7, if_true, if_false] <;> first | rfl | decide)).2 k) ?_
          refine Go.st (fun _ k => XS.iconst X155.here hx rfl (hb hby at_422) k) ?_
          refine Go.st (S' := T155.setTop (mkF m 427 #[sI p1, sJ q2, sS, sJ q3, sS, sJ q4, sS, sJ q5, sS, sI n1, sI n2, sI t3, sI tr, sJ s1, sS, sJ g2, sS, sJ g3, sS, sR ct, sJ lw, sS, sJ s2, sS, sJ s3, sS, sJ act, sS, sI 1, sI 0, sI 0, sI 1, sI 1, sI 0, sI 0, sJ (((8 : Int64) * ((roomF (1 : Int32)).toInt64)) + (0 : Int64)), sS] [(.int (1 : Int32))])) (fun _ k => XS.goto X155.here hx rfl (pc0 := 423) (pc' := 427) rfl (hb hby at_423) (by decide) (by decide) k) ?_
          exact own_retN X155 hx hlk hret (by simp) (hb hby at_427) eq155 ⟨rfl, N155⟩ (by decide) (by decide)
        · refine Go.st (S' := Tj.setTop (mkF m 374 #[sI p1, sJ q2, sS, sJ q3, sS, sJ q4, sS, sJ q5, sS, sI n1, sI n2, sI t3, sI tr, sJ s1, sS, sJ g2, sS, sJ g3, sS, sR ct, sJ lw, sS, sJ s2, sS, sJ s3, sS, sJ act, sS, sI 1, sI 0, sI 0, sI 1, sI 1, sI 0, sI 0, sU, sU] [])) (fun _ k => XS.ifNo Xj.here hx rfl (hb hby at_371) rfl ((if0 _ _).trans (feq hc371_7).1) k) ?_
          refine Go.st (S' := Tj.setTop (mkF m 377 #[sI p1, sJ q2, sS, sJ q3, sS, sJ q4, sS, sJ q5, sS, sI n1, sI n2, sI t3, sI tr, sJ s1, sS, sJ g2, sS, sJ g3, sS, sR ct, sJ lw, sS, sJ s2, sS, sJ s3, sS, sJ act, sS, sI 1, sI 0, sI 0, sI 1, sI 1, sI 0, sI 0, sU, sU] [(.long (8 : Int64))])) (Xj.ldc2Long hx hown (mvT hZ (ww hw 51 rfl)) (g := (mkF m 374 #[sI p1, sJ q2, sS, sJ q3, sS, sJ q4, sS, sJ q5, sS, sI n1, sI n2, sI t3, sI tr, sJ s1, sS, sJ g2, sS, sJ g3, sS, sR ct, sJ lw, sS, sJ s2, sS, sJ s3, sS, sJ act, sS, sI 1, sI 0, sI 0, sI 1, sI 1, sI 0, sI 0, sU, sU] [])) rfl (hb hby at_374)) ?_
          refine Go.st (fun _ k => XS.iload Xj.here hx rfl (hb hby at_377) rfl k) ?_
          refine Go.st (fun _ k => XS.i2l Xj.here hx rfl (hb hby at_379) rfl k) ?_
          refine Go.st (S' := Tj.setTop (mkF m 381 #[sI p1, sJ q2, sS, sJ q3, sS, sJ q4, sS, sJ q5, sS, sI n1, sI n2, sI t3, sI tr, sJ s1, sS, sJ g2, sS, sJ g3, sS, sR ct, sJ lw, sS, sJ s2, sS, sJ s3, sS, sJ act, sS, sI 1, sI 0, sI 0, sI 1, sI 1, sI 0, sI 0, sU, sU] [(.long (8 : Int64))])) (fun _ k => XS.lmul Xj.here hx rfl (hb hby at_380) rfl k) ?_
          refine Go.st (S' := Tj.setTop (mkF m 384 #[sI p1, sJ q2, sS, sJ q3, sS, sJ q4, sS, sJ q5, sS, sI n1, sI n2, sI t3, sI tr, sJ s1, sS, sJ g2, sS, sJ g3, sS, sR ct, sJ lw, sS, sJ s2, sS, sJ s3, sS, sJ act, sS, sI 1, sI 0, sI 0, sI 1, sI 1, sI 0, sI 0, sU, sU] [(.long (16 : Int64)), (.long (8 : Int64))])) (Xj.ldc2Long hx hown (mvT hZ (ww hw 55 rfl)) (g := (mkF m 381 #[sI p1, sJ q2, sS, sJ q3, sS, sJ q4, sS, sJ q5, sS, sI n1, sI n2, sI t3, sI tr, sJ s1, sS, sJ g2, sS, sJ g3, sS, sR ct, sJ lw, sS, sJ s2, sS, sJ s3, sS, sJ act, sS, sI 1, sI 0, sI 0, sI 1, sI 1, sI 0, sI 0, sU, sU] [(.long (8 : Int64))])) rfl (hb hby at_381)) ?_
          refine Go.st (fun _ k => XS.iload Xj.here hx rfl (hb hby at_384) rfl k) ?_
          refine Go.st (fun _ k => XS.i2l Xj.here hx rfl (hb hby at_386) rfl k) ?_
          refine Go.st (fun _ k => XS.lmul Xj.here hx rfl (hb hby at_387) rfl k) ?_
          refine Go.st (fun _ k => XS.ladd Xj.here hx rfl (hb hby at_388) rfl k) ?_
          refine Go.st (fun _ k => XS.lstore Xj.here hx rfl (hb hby at_389) rfl (l' := #[sI p1, sJ q2, sS, sJ q3, sS, sJ q4, sS, sJ q5, sS, sI n1, sI n2, sI t3, sI tr, sJ s1, sS, sJ g2, sS, sJ g3, sS, sR ct, sJ lw, sS, sJ s2, sS, sJ s3, sS, sJ act, sS, sI 1, sI 0, sI 0, sI 1, sI 1, sI 0, sI 0, sJ 8, sS]) rfl k) ?_
          refine Go.st (fun _ k => XS.goto Xj.here hx rfl (pc0 := 391) (pc' := 414) rfl (hb hby at_391) (by decide) (by decide) k) ?_
          refine Go.st (S' := Tj.setTop (mkF m 416 #[sI p1, sJ q2, sS, sJ q3, sS, sJ q4, sS, sJ q5, sS, sI n1, sI n2, sI t3, sI tr, sJ s1, sS, sJ g2, sS, sJ g3, sS, sR ct, sJ lw, sS, sJ s2, sS, sJ s3, sS, sJ act, sS, sI 1, sI 0, sI 0, sI 1, sI 1, sI 0, sI 0, sJ 8, sS] [(.long act)])) (fun _ k => XS.lload Xj.here hx rfl (hb hby at_414) rfl k) ?_
          refine Go.st (S' := Tj.setTop (mkF m 418 #[sI p1, sJ q2, sS, sJ q3, sS, sJ q4, sS, sJ q5, sS, sI n1, sI n2, sI t3, sI tr, sJ s1, sS, sJ g2, sS, sJ g3, sS, sR ct, sJ lw, sS, sJ s2, sS, sJ s3, sS, sJ act, sS, sI 1, sI 0, sI 0, sI 1, sI 1, sI 0, sI 0, sJ 8, sS] [(.long (8 : Int64)), (.long act)])) (fun _ k => XS.lload Xj.here hx rfl (hb hby at_416) rfl k) ?_
          refine Go.st (S' := Tj.setTop (mkF m 419 #[sI p1, sJ q2, sS, sJ q3, sS, sJ q4, sS, sJ q5, sS, sI n1, sI n2, sI t3, sI tr, sJ s1, sS, sJ g2, sS, sJ g3, sS, sR ct, sJ lw, sS, sJ s2, sS, sJ s3, sS, sJ act, sS, sI 1, sI 0, sI 0, sI 1, sI 1, sI 0, sI 0, sJ 8, sS] [(.int (lcmpW act (8 : Int64)))])) (fun _ k => XS.lcmp Xj.here hx rfl (hb hby at_418) rfl k) ?_
          refine Go.st (fun _ k => XS.ifNo Xj.here hx rfl (hb hby at_419) rfl (own_Leq (by rw [hact]; simp only [expF, curF, ocF, olF, hc197, hc209_1, hc236_3, hc371_7, if_true, if_false] <;> first | rfl | decide)).2 k) ?_
          refine Go.st (fun _ k => XS.iconst Xj.here hx rfl (hb hby at_422) k) ?_
          refine Go.st (S' := Tj.setTop (mkF m 427 #[sI p1, sJ q2, sS, sJ q3, sS, sJ q4, sS, sJ q5, sS, sI n1, sI n2, sI t3, sI tr, sJ s1, sS, sJ g2, sS, sJ g3, sS, sR ct, sJ lw, sS, sJ s2, sS, sJ s3, sS, sJ act, sS, sI 1, sI 0, sI 0, sI 1, sI 1, sI 0, sI 0, sJ 8, sS] [(.int (1 : Int32))])) (fun _ k => XS.goto Xj.here hx rfl (pc0 := 423) (pc' := 427) rfl (hb hby at_423) (by decide) (by decide) k) ?_
          exact own_retN Xj hx hlk hret (by simp) (hb hby at_427) ej ⟨rfl, Nj⟩ (by decide) (by decide)
set_option maxRecDepth 65536 in
set_option maxHeartbeats 400000000 in
theorem rV (l : Launch) (Z : State) (a0 : Array Value) (hw : ∀ d ∈ tables_1, d.before a0 Z = true) (w_NONE : Addr) (k_NONE : ClassId) (hS : SF Z w_NONE k_NONE) (p1 : Int32) (q2 : Int64) (q3 : Int64) (q4 : Int64) (q5 : Int64) (p : Program) (e : Env) (s : State) (m : MethodId) (below : List Frame) (meth : Method) (c : Code) (hC : CX0 p s m meth c Z) (Tj : State) (lj : List Loc) (hj : Heap) (Xj : Stand p l e room_1 s m #[(.int p1), (.long q2), (.long q3), (.long q4), (.long q5)] below meth c Tj lj 26 110) (ej : Tj.heap = hj) (Nj : Fr Z.heap.size lj) (Oj : Ext Z.heap hj) (n1 n2 t3 tr : Int32) (s1 g2 g3 lw s2 s3 : Int64) (ct ly ta ma sa : Addr) (oc ol cn sz : Int32) (fl nw : Int64) (gct : Z.heap.size ≤ ct) (Ect : Exa Z hj ct "com/example/palimpsest/palimpsest/CommitTimes") (Ely : Exa Z hj ly "com/example/palimpsest/palimpsest/CommitTimes$Layout") (ncl : ct ≠ ly) (Fc_layout : Fld Z hj ct "com/example/palimpsest/palimpsest/CommitTimes" "layout" "Lcom/example/palimpsest/palimpsest/CommitTimes$Layout;" (.ref ly)) (Fc_newest : Fld Z hj ct "com/example/palimpsest/palimpsest/CommitTimes" "newest" "J" (.long nw)) (Fl_olderTimestamps : Fld Z hj ly "com/example/palimpsest/palimpsest/CommitTimes$Layout" "olderTimestamps" "[J" (.ref ta)) (Fl_olderTimes : Fld Z hj ly "com/example/palimpsest/palimpsest/CommitTimes$Layout" "olderTimes" "[J" (.ref ma)) (Fl_olderCount : Fld Z hj ly "com/example/palimpsest/palimpsest/CommitTimes$Layout" "olderCount" "I" (.int oc)) (Fl_floor : Fld Z hj ly "com/example/palimpsest/palimpsest/CommitTimes$Layout" "floor" "J" (.long fl)) (Fl_slots : Fld Z hj ly "com/example/palimpsest/palimpsest/CommitTimes$Layout" "slots" "[J" (.ref sa)) (A_ta : AL Z hj ta ol) (A_ma : AL Z hj ma ol) (A_sa : AL Z hj sa sz) (hcn : (nw - fl) + (1 : Int64) = cn.toInt64) (hc0 : 0 ≤ cn.toInt) (hc3 : cn.toInt ≤ 6) (hs0 : 0 ≤ sz.toInt) (hs6 : sz.toInt ≤ 6) (ho0 : 0 ≤ oc.toInt) (ho6 : oc.toInt ≤ 6) (hl0 : 0 ≤ ol.toInt) (hl6 : ol.toInt ≤ 6) (hq4 : tr = 0 ∨ tr = 1) (he0 : ((8 : Int64) * (((sz + ol) + ol).toInt64)) = expF n1 n2 t3 (0 : Int32)) (he1 : ((8 : Int64) * (((cn + oc) + oc).toInt64)) = expF n1 n2 t3 (1 : Int32)) :
    Go p e below (Ret s (fun v h L => v = some (.int 1) ∧ Fr Z.heap.size L) room_1.cells room_1.slots) (Tj.setTop (mkF m 166 #[sI p1, sJ q2, sS, sJ q3, sS, sJ q4, sS, sJ q5, sS, sI n1, sI n2, sI t3, sI tr, sJ s1, sS, sJ g2, sS, sJ g3, sS, sR ct, sJ lw, sS, sJ s2, sS, sJ s3, sS, sU, sU, sU, sU, sU, sU, sU, sU, sU, sU, sU] [])) := by
  obtain ⟨S_NONE, E_NONE, V_NONE⟩ := id hS
  obtain ⟨hx, hby, hml, hown, hnm, hret, hlk, hZ⟩ := id hC
  refine Go.st (S' := Tj.setTop (mkF m 168 #[sI p1, sJ q2, sS, sJ q3, sS, sJ q4, sS, sJ q5, sS, sI n1, sI n2, sI t3, sI tr, sJ s1, sS, sJ g2, sS, sJ g3, sS, sR ct, sJ lw, sS, sJ s2, sS, sJ s3, sS, sU, sU, sU, sU, sU, sU, sU, sU, sU, sU, sU] [(.int tr)])) (fun _ k => XS.iload Xj.here hx rfl (hb hby at_166) rfl k) ?_
  rcases hq4 with rfl | rfl
  · refine Go.st (fun _ k => XS.ifYes Xj.here hx rfl (pc0 := 168) (pc' := 176) rfl (hb hby at_168) rfl ((if0 _ _).trans (teq (by decide)).1) (by decide) (by decide) k) ?_
    refine Go.st (S' := Tj.setTop (mkF m 178 #[sI p1, sJ q2, sS, sJ q3, sS, sJ q4, sS, sJ q5, sS, sI n1, sI n2, sI t3, sI 0, sJ s1, sS, sJ g2, sS, sJ g3, sS, sR ct, sJ lw, sS, sJ s2, sS, sJ s3, sS, sU, sU, sU, sU, sU, sU, sU, sU, sU, sU, sU] [(.ref ct)])) (fun _ k => XS.aload Xj.here hx rfl (hb hby at_176) rfl rfl k) ?_
    obtain ⟨_, T146, L146, X146, ⟨rfl, Nq146, eq146⟩, st146⟩ := own_callV Xj hx hZ hown (ww hw 42 rfl) (ww hw 43 rfl) (notFace_of_selects (args := #[]) (mvT hZ (ww hw 45 rfl))) (ww hw 45 rfl) (ww hw 44 rfl) (ww hw 4 rfl) (ww hw 46 rfl) (by decide) ej Ect (rmHB l Z a0 hw [] w_NONE k_NONE hS ct ly fl oc ol ol sz sa ta ma hj Oj Fc_layout Fl_olderTimestamps Fl_olderTimes Fl_olderCount Fl_floor Fl_slots A_ta A_ma A_sa) 0 (by decide) (by decide) (by decide) (by decide) (g := (mkF m 178 #[sI p1, sJ q2, sS, sJ q3, sS, sJ q4, sS, sJ q5, sS, sI n1, sI n2, sI t3, sI 0, sJ s1, sS, sJ g2, sS, sJ g3, sS, sR ct, sJ lw, sS, sJ s2, sS, sJ s3, sS, sU, sU, sU, sU, sU, sU, sU, sU, sU, sU, sU] [(.ref ct)])) rfl (by rw [hml]; rfl) [] [] rfl (lenOf pd_428474 rfl) rfl (by show 2 * 0 + _ ≤ _; exact Nat.le_of_eq rfl) (hb hby at_178)
    have N146 := Fr.app Nj Nq146
    refine Go.st (S' := T146.setTop (mkF m 181 #[sI p1, sJ q2, sS, sJ q3, sS, sJ q4, sS, sJ q5, sS, sI n1, sI n2, sI t3, sI 0, sJ s1, sS, sJ g2, sS, sJ g3, sS, sR ct, sJ lw, sS, sJ s2, sS, sJ s3, sS, sU, sU, sU, sU, sU, sU, sU, sU, sU, sU, sU] [(.long ((8 : Int64) * (((sz + ol) + ol).toInt64)))])) st146 ?_
    exact rZ l Z a0 hw w_NONE k_NONE hS p1 q2 q3 q4 q5 p e s m below meth c ⟨hx, hby, hml, hown, hnm, hret, hlk, hZ⟩ _ _ _ (X146.mono (by decide) (by decide)) eq146 N146 Oj _ _ _ _ _ _ _ _ _ _ _ _  he0
  · refine Go.st (fun _ k => XS.ifNo Xj.here hx rfl (hb hby at_168) rfl ((if0 _ _).trans (feq (by decide)).1) k) ?_
    refine Go.st (S' := Tj.setTop (mkF m 173 #[sI p1, sJ q2, sS, sJ q3, sS, sJ q4, sS, sJ q5, sS, sI n1, sI n2, sI t3, sI 1, sJ s1, sS, sJ g2, sS, sJ g3, sS, sR ct, sJ lw, sS, sJ s2, sS, sJ s3, sS, sU, sU, sU, sU, sU, sU, sU, sU, sU, sU, sU] [(.ref ct)])) (fun _ k => XS.aload Xj.here hx rfl (hb hby at_171) rfl rfl k) ?_
    obtain ⟨_, T156, L156, X156, ⟨rfl, Nq156, kp156, ly156, ar156, ta156, ma156, sl156, sa156, st_156, sm156, golderTimestamps156, golderTimes156, golderCount156, gfloor156, gslots156, va156, vt156, vm156, flayout156⟩, st156⟩ := own_callV Xj hx hZ hown (ww hw 93 rfl) (ww hw 94 rfl) (notFace_of_selects (args := #[]) (mvT hZ (ww hw 96 rfl))) (ww hw 96 rfl) (ww hw 95 rfl) (ww hw 4 rfl) (ww hw 97 rfl) (by decide) ej Ect (rmTrim l Z a0 hw [] w_NONE k_NONE hS ct ly nw fl oc ol cn sz sa ta ma hcn hc0 hc3 hs0 hs6 ho0 ho6 hl0 hl6 hj Oj gct Ect Ely ncl Fc_layout Fc_newest Fl_olderTimestamps Fl_olderTimes Fl_olderCount Fl_floor Fl_slots A_ta A_ma A_sa) 0 (by decide) (by decide) (by decide) (by decide) (g := (mkF m 173 #[sI p1, sJ q2, sS, sJ q3, sS, sJ q4, sS, sJ q5, sS, sI n1, sI n2, sI t3, sI 1, sJ s1, sS, sJ g2, sS, sJ g3, sS, sR ct, sJ lw, sS, sJ s2, sS, sJ s3, sS, sU, sU, sU, sU, sU, sU, sU, sU, sU, sU, sU] [(.ref ct)])) rfl (by rw [hml]; rfl) [] [] rfl (lenOf pd_428486 rfl) rfl (by show 2 * 0 + _ ≤ _; exact Nat.le_of_eq rfl) (hb hby at_173)
    have N156 := Fr.app Nj Nq156
    have ne_ct_ly156 : ct ≠ ly156 := own_lt_ne' Ect.lt sl156
    have ne_ly_ly156 : ly ≠ ly156 := own_lt_ne' Ely.lt sl156
    have ne_ta_ly156 : ta ≠ ly156 := own_lt_ne' A_ta.lt sl156
    have ne_ma_ly156 : ma ≠ ly156 := own_lt_ne' A_ma.lt sl156
    have ne_sa_ly156 : sa ≠ ly156 := own_lt_ne' A_sa.lt sl156
    have ne_ct_ar156 : ct ≠ ar156 := own_lt_ne' Ect.lt sa156
    have ne_ly_ar156 : ly ≠ ar156 := own_lt_ne' Ely.lt sa156
    have ne_ta_ar156 : ta ≠ ar156 := own_lt_ne' A_ta.lt sa156
    have ne_ma_ar156 : ma ≠ ar156 := own_lt_ne' A_ma.lt sa156
    have ne_sa_ar156 : sa ≠ ar156 := own_lt_ne' A_sa.lt sa156
    have ne_ct_ta156 : ct ≠ ta156 := own_lt_ne' Ect.lt st_156
    have ne_ly_ta156 : ly ≠ ta156 := own_lt_ne' Ely.lt st_156
    have ne_ta_ta156 : ta ≠ ta156 := own_lt_ne' A_ta.lt st_156
    have ne_ma_ta156 : ma ≠ ta156 := own_lt_ne' A_ma.lt st_156
    have ne_sa_ta156 : sa ≠ ta156 := own_lt_ne' A_sa.lt st_156
    have ne_ct_ma156 : ct ≠ ma156 := own_lt_ne' Ect.lt sm156
    have ne_ly_ma156 : ly ≠ ma156 := own_lt_ne' Ely.lt sm156
    have ne_ta_ma156 : ta ≠ ma156 := own_lt_ne' A_ta.lt sm156
    have ne_ma_ma156 : ma ≠ ma156 := own_lt_ne' A_ma.lt sm156
    have ne_sa_ma156 : sa ≠ ma156 := own_lt_ne' A_sa.lt sm156
    have O156 : Ext Z.heap T156.heap := own_Ext.keep Oj kp156 (allS gct all0)
    refine Go.st (S' := T156.setTop (mkF m 176 #[sI p1, sJ q2, sS, sJ q3, sS, sJ q4, sS, sJ q5, sS, sI n1, sI n2, sI t3, sI 1, sJ s1, sS, sJ g2, sS, sJ g3, sS, sR ct, sJ lw, sS, sJ s2, sS, sJ s3, sS, sU, sU, sU, sU, sU, sU, sU, sU, sU, sU, sU] [])) st156 ?_
    refine Go.st (S' := T156.setTop (mkF m 178 #[sI p1, sJ q2, sS, sJ q3, sS, sJ q4, sS, sJ q5, sS, sI n1, sI n2, sI t3, sI 1, sJ s1, sS, sJ g2, sS, sJ g3, sS, sR ct, sJ lw, sS, sJ s2, sS, sJ s3, sS, sU, sU, sU, sU, sU, sU, sU, sU, sU, sU, sU] [(.ref ct)])) (fun _ k => XS.aload X156.here hx rfl (hb hby at_176) rfl rfl k) ?_
    obtain ⟨_, T157, L157, X157, ⟨rfl, Nq157, eq157⟩, st157⟩ := own_callV X156 hx hZ hown (ww hw 42 rfl) (ww hw 43 rfl) (notFace_of_selects (args := #[]) (mvT hZ (ww hw 45 rfl))) (ww hw 45 rfl) (ww hw 44 rfl) (ww hw 4 rfl) (ww hw 46 rfl) (by decide) rfl (Ect.keep kp156) (rmHB l Z a0 hw [] w_NONE k_NONE hS ct ly156 fl oc oc oc cn ar156 ta156 ma156 T156.heap O156 flayout156 golderTimestamps156 golderTimes156 golderCount156 gfloor156 gslots156 vt156 vm156 va156) 0 (by decide) (by decide) (by decide) (by decide) (g := (mkF m 178 #[sI p1, sJ q2, sS, sJ q3, sS, sJ q4, sS, sJ q5, sS, sI n1, sI n2, sI t3, sI 1, sJ s1, sS, sJ g2, sS, sJ g3, sS, sR ct, sJ lw, sS, sJ s2, sS, sJ s3, sS, sU, sU, sU, sU, sU, sU, sU, sU, sU, sU, sU] [(.ref ct)])) rfl (by rw [hml]; rfl) [] [] rfl (lenOf pd_428474 rfl) rfl (by show 2 * 0 + _ ≤ _; exact Nat.le_of_eq rfl) (hb hby at_178)
    have N157 := Fr.app N156 Nq157
    refine Go.st (S' := T157.setTop (mkF m 181 #[sI p1, sJ q2, sS, sJ q3, sS, sJ q4, sS, sJ q5, sS, sI n1, sI n2, sI t3, sI 1, sJ s1, sS, sJ g2, sS, sJ g3, sS, sR ct, sJ lw, sS, sJ s2, sS, sJ s3, sS, sU, sU, sU, sU, sU, sU, sU, sU, sU, sU, sU] [(.long ((8 : Int64) * (((cn + oc) + oc).toInt64)))])) st157 ?_
    exact rZ l Z a0 hw w_NONE k_NONE hS p1 q2 q3 q4 q5 p e s m below meth c ⟨hx, hby, hml, hown, hnm, hret, hlk, hZ⟩ _ _ _ (X157.mono (by decide) (by decide)) eq157 N157 O156 _ _ _ _ _ _ _ _ _ _ _ _  he1
set_option maxRecDepth 65536 in
set_option maxHeartbeats 400000000 in
theorem rT (l : Launch) (Z : State) (a0 : Array Value) (hw : ∀ d ∈ tables_1, d.before a0 Z = true) (w_NONE : Addr) (k_NONE : ClassId) (hS : SF Z w_NONE k_NONE) (p1 : Int32) (q2 : Int64) (q3 : Int64) (q4 : Int64) (q5 : Int64) (p : Program) (e : Env) (s : State) (m : MethodId) (below : List Frame) (meth : Method) (c : Code) (hC : CX0 p s m meth c Z) (Tj : State) (lj : List Loc) (hj : Heap) (Xj : Stand p l e room_1 s m #[(.int p1), (.long q2), (.long q3), (.long q4), (.long q5)] below meth c Tj lj 20 90) (ej : Tj.heap = hj) (Nj : Fr Z.heap.size lj) (Oj : Ext Z.heap hj) (n1 n2 t3 tr : Int32) (s1 g2 g3 s2 s3 : Int64) (ct ly ta ma sa : Addr) (oc ol cn sz : Int32) (fl nw : Int64) (gct : Z.heap.size ≤ ct) (Ect : Exa Z hj ct "com/example/palimpsest/palimpsest/CommitTimes") (Ely : Exa Z hj ly "com/example/palimpsest/palimpsest/CommitTimes$Layout") (ncl : ct ≠ ly) (Fc_layout : Fld Z hj ct "com/example/palimpsest/palimpsest/CommitTimes" "layout" "Lcom/example/palimpsest/palimpsest/CommitTimes$Layout;" (.ref ly)) (Fc_newest : Fld Z hj ct "com/example/palimpsest/palimpsest/CommitTimes" "newest" "J" (.long nw)) (Fl_olderTimestamps : Fld Z hj ly "com/example/palimpsest/palimpsest/CommitTimes$Layout" "olderTimestamps" "[J" (.ref ta)) (Fl_olderTimes : Fld Z hj ly "com/example/palimpsest/palimpsest/CommitTimes$Layout" "olderTimes" "[J" (.ref ma)) (Fl_olderCount : Fld Z hj ly "com/example/palimpsest/palimpsest/CommitTimes$Layout" "olderCount" "I" (.int oc)) (Fl_floor : Fld Z hj ly "com/example/palimpsest/palimpsest/CommitTimes$Layout" "floor" "J" (.long fl)) (Fl_slots : Fld Z hj ly "com/example/palimpsest/palimpsest/CommitTimes$Layout" "slots" "[J" (.ref sa)) (A_ta : AL Z hj ta ol) (A_ma : AL Z hj ma ol) (A_sa : AL Z hj sa sz) (hcn : (nw - fl) + (1 : Int64) = cn.toInt64) (hc1 : 1 ≤ cn.toInt) (hc3 : cn.toInt ≤ 3) (hsz : cn.toInt ≤ sz.toInt) (hs4 : sz.toInt ≤ 4) (ho0 : 0 ≤ oc.toInt) (hoc : oc.toInt ≤ ol.toInt) (hol : ol.toInt ≤ 3) (hgr : ol.toInt < oc.toInt + cn.toInt) (hts : ¬ s3 = (nw + (1 : Int64))) (hq3 : t3 = 0 ∨ t3 = 1) (hq4 : tr = 0 ∨ tr = 1) (he00 : ((8 : Int64) * (((sz + ol) + ol).toInt64)) = expF n1 n2 (0 : Int32) (0 : Int32)) (he01 : ((8 : Int64) * (((cn + oc) + oc).toInt64)) = expF n1 n2 (0 : Int32) (1 : Int32)) (he10 : ((8 : Int64) * ((((1 : Int32) + (maxF (oc + cn) ((2 : Int32) * ol))) + (maxF (oc + cn) ((2 : Int32) * ol))).toInt64)) = expF n1 n2 (1 : Int32) (0 : Int32)) (he11 : ((8 : Int64) * ((((1 : Int32) + (oc + cn)) + (oc + cn)).toInt64)) = expF n1 n2 (1 : Int32) (1 : Int32)) :
    Go p e below (Ret s (fun v h L => v = some (.int 1) ∧ Fr Z.heap.size L) room_1.cells room_1.slots) (Tj.setTop (mkF m 152 #[sI p1, sJ q2, sS, sJ q3, sS, sJ q4, sS, sJ q5, sS, sI n1, sI n2, sI t3, sI tr, sJ s1, sS, sJ g2, sS, sJ g3, sS, sR ct, sJ nw, sS, sJ s2, sS, sJ s3, sS, sU, sU, sU, sU, sU, sU, sU, sU, sU, sU, sU] [])) := by
  obtain ⟨S_NONE, E_NONE, V_NONE⟩ := id hS
  obtain ⟨hx, hby, hml, hown, hnm, hret, hlk, hZ⟩ := id hC
  refine Go.st (S' := Tj.setTop (mkF m 154 #[sI p1, sJ q2, sS, sJ q3, sS, sJ q4, sS, sJ q5, sS, sI n1, sI n2, sI t3, sI tr, sJ s1, sS, sJ g2, sS, sJ g3, sS, sR ct, sJ nw, sS, sJ s2, sS, sJ s3, sS, sU, sU, sU, sU, sU, sU, sU, sU, sU, sU, sU] [(.int t3)])) (fun _ k => XS.iload Xj.here hx rfl (hb hby at_152) rfl k) ?_
  rcases hq3 with rfl | rfl
  · refine Go.st (S' := Tj.setTop (mkF m 166 #[sI p1, sJ q2, sS, sJ q3, sS, sJ q4, sS, sJ q5, sS, sI n1, sI n2, sI 0, sI tr, sJ s1, sS, sJ g2, sS, sJ g3, sS, sR ct, sJ nw, sS, sJ s2, sS, sJ s3, sS, sU, sU, sU, sU, sU, sU, sU, sU, sU, sU, sU] [])) (fun _ k => XS.ifYes Xj.here hx rfl (pc0 := 154) (pc' := 166) rfl (hb hby at_154) rfl ((if0 _ _).trans (teq (by decide)).1) (by decide) (by decide) k) ?_
    exact rV l Z a0 hw w_NONE k_NONE hS p1 q2 q3 q4 q5 p e s m below meth c ⟨hx, hby, hml, hown, hnm, hret, hlk, hZ⟩ _ _ _ (Xj.mono (by decide) (by decide)) ej Nj Oj _ _ _ _ _ _ _ _ _ _ _ _ _ _ _ oc ol cn sz _ _ gct Ect Ely ncl Fc_layout Fc_newest Fl_olderTimestamps Fl_olderTimes Fl_olderCount Fl_floor Fl_slots A_ta A_ma A_sa hcn (by omega) (by omega) (by omega) (by omega) (by omega) (by omega) (by omega) (by omega) hq4 he00 he01
  · refine Go.st (fun _ k => XS.ifNo Xj.here hx rfl (hb hby at_154) rfl ((if0 _ _).trans (feq (by decide)).1) k) ?_
    refine Go.st (fun _ k => XS.aload Xj.here hx rfl (hb hby at_157) rfl rfl k) ?_
    refine Go.st (fun _ k => XS.lload Xj.here hx rfl (hb hby at_159) rfl k) ?_
    refine Go.st (S' := Tj.setTop (mkF m 163 #[sI p1, sJ q2, sS, sJ q3, sS, sJ q4, sS, sJ q5, sS, sI n1, sI n2, sI 1, sI tr, sJ s1, sS, sJ g2, sS, sJ g3, sS, sR ct, sJ nw, sS, sJ s2, sS, sJ s3, sS, sU, sU, sU, sU, sU, sU, sU, sU, sU, sU, sU] [(.long q5), (.long s3), (.ref ct)])) (fun _ k => XS.lload Xj.here hx rfl (hb hby at_161) rfl k) ?_
    obtain ⟨_, T160, L160, X160, ⟨rfl, Nq160, kp160, ly160, ar160, ta160, ma160, sl160, sa160, st_160, sm160, nla160, nta160, nma160, el160, golderTimestamps160, golderTimes160, golderCount160, gfloor160, gslots160, flayout160, fnewest160, va160, vt160, vm160⟩, st160⟩ := own_callV Xj hx hZ hown (ww hw 56 rfl) (ww hw 57 rfl) (notFace_of_selects (args := #[]) (mvT hZ (ww hw 59 rfl))) (ww hw 59 rfl) (ww hw 58 rfl) (ww hw 4 rfl) (ww hw 60 rfl) (by decide) ej Ect (rmAddA l Z a0 hw [] w_NONE k_NONE hS ct s3 q5 nw fl ly oc ol cn sz (maxF (oc + cn) ((2 : Int32) * ol)) sa ta ma hcn hc1 hc3 hsz ho0 hoc hol hgr rfl hj Oj hts gct Ect Ely ncl Fc_layout Fc_newest Fl_olderTimestamps Fl_olderTimes Fl_olderCount Fl_floor Fl_slots A_ta A_ma A_sa) 0 (by decide) (by decide) (by decide) (by decide) (g := (mkF m 163 #[sI p1, sJ q2, sS, sJ q3, sS, sJ q4, sS, sJ q5, sS, sI n1, sI n2, sI 1, sI tr, sJ s1, sS, sJ g2, sS, sJ g3, sS, sR ct, sJ nw, sS, sJ s2, sS, sJ s3, sS, sU, sU, sU, sU, sU, sU, sU, sU, sU, sU, sU] [(.long q5), (.long s3), (.ref ct)])) rfl (by rw [hml]; rfl) [(.long s3), (.long q5)] [] rfl (lenOf pd_212493 rfl) rfl (by show 2 * 0 + _ ≤ _; exact Nat.le_of_eq rfl) (hb hby at_163)
    have N160 := Fr.app Nj Nq160
    have ne_ct_ly160 : ct ≠ ly160 := own_lt_ne' Ect.lt sl160
    have ne_ly_ly160 : ly ≠ ly160 := own_lt_ne' Ely.lt sl160
    have ne_ta_ly160 : ta ≠ ly160 := own_lt_ne' A_ta.lt sl160
    have ne_ma_ly160 : ma ≠ ly160 := own_lt_ne' A_ma.lt sl160
    have ne_sa_ly160 : sa ≠ ly160 := own_lt_ne' A_sa.lt sl160
    have ne_ct_ar160 : ct ≠ ar160 := own_lt_ne' Ect.lt sa160
    have ne_ly_ar160 : ly ≠ ar160 := own_lt_ne' Ely.lt sa160
    have ne_ta_ar160 : ta ≠ ar160 := own_lt_ne' A_ta.lt sa160
    have ne_ma_ar160 : ma ≠ ar160 := own_lt_ne' A_ma.lt sa160
    have ne_sa_ar160 : sa ≠ ar160 := own_lt_ne' A_sa.lt sa160
    have ne_ct_ta160 : ct ≠ ta160 := own_lt_ne' Ect.lt st_160
    have ne_ly_ta160 : ly ≠ ta160 := own_lt_ne' Ely.lt st_160
    have ne_ta_ta160 : ta ≠ ta160 := own_lt_ne' A_ta.lt st_160
    have ne_ma_ta160 : ma ≠ ta160 := own_lt_ne' A_ma.lt st_160
    have ne_sa_ta160 : sa ≠ ta160 := own_lt_ne' A_sa.lt st_160
    have ne_ct_ma160 : ct ≠ ma160 := own_lt_ne' Ect.lt sm160
    have ne_ly_ma160 : ly ≠ ma160 := own_lt_ne' Ely.lt sm160
    have ne_ta_ma160 : ta ≠ ma160 := own_lt_ne' A_ta.lt sm160
    have ne_ma_ma160 : ma ≠ ma160 := own_lt_ne' A_ma.lt sm160
    have ne_sa_ma160 : sa ≠ ma160 := own_lt_ne' A_sa.lt sm160
    have O160 : Ext Z.heap T160.heap := own_Ext.keep Oj kp160 (allS gct all0)
    refine Go.st (S' := T160.setTop (mkF m 166 #[sI p1, sJ q2, sS, sJ q3, sS, sJ q4, sS, sJ q5, sS, sI n1, sI n2, sI 1, sI tr, sJ s1, sS, sJ g2, sS, sJ g3, sS, sR ct, sJ nw, sS, sJ s2, sS, sJ s3, sS, sU, sU, sU, sU, sU, sU, sU, sU, sU, sU, sU] [])) st160 ?_
    obtain ⟨kn1, kn2, kn3, kn4, -⟩ := own_nl (oc := oc) (ol := ol) (cn := cn) (nl := (maxF (oc + cn) ((2 : Int32) * ol))) rfl hc1 hc3 ho0 hoc hol hgr
    exact rV l Z a0 hw w_NONE k_NONE hS p1 q2 q3 q4 q5 p e s m below meth c ⟨hx, hby, hml, hown, hnm, hret, hlk, hZ⟩ _ _ _ (X160.mono (by decide) (by decide)) rfl N160 O160 _ _ _ _ _ _ _ _ _ _ _ _ _ _ _ (oc + cn) (maxF (oc + cn) ((2 : Int32) * ol)) (1 : Int32) (1 : Int32) _ _ gct (Ect.keep kp160) el160 ne_ct_ly160 flayout160 fnewest160 golderTimestamps160 golderTimes160 golderCount160 gfloor160 gslots160 vt160 vm160 va160 (by rw [own_o0]; decide) (by decide) (by decide) (by decide) (by decide) (by rw [kn1]; omega) (by rw [kn1]; omega) kn2 kn3 hq4 he10 he11
set_option maxRecDepth 65536 in
set_option maxHeartbeats 400000000 in
theorem rR (l : Launch) (Z : State) (a0 : Array Value) (hw : ∀ d ∈ tables_1, d.before a0 Z = true) (w_NONE : Addr) (k_NONE : ClassId) (hS : SF Z w_NONE k_NONE) (p1 : Int32) (q2 : Int64) (q3 : Int64) (q4 : Int64) (q5 : Int64) (p : Program) (e : Env) (s : State) (m : MethodId) (below : List Frame) (meth : Method) (c : Code) (hC : CX0 p s m meth c Z) (Tj : State) (lj : List Loc) (hj : Heap) (Xj : Stand p l e room_1 s m #[(.int p1), (.long q2), (.long q3), (.long q4), (.long q5)] below meth c Tj lj 10 45) (ej : Tj.heap = hj) (Nj : Fr Z.heap.size lj) (Oj : Ext Z.heap hj) (n1 n2 t3 tr : Int32) (s1 g2 g3 s2 : Int64) (ct ly ta ma sa : Addr) (sz : Int32) (nw : Int64) (gct : Z.heap.size ≤ ct) (Ect : Exa Z hj ct "com/example/palimpsest/palimpsest/CommitTimes") (Ely : Exa Z hj ly "com/example/palimpsest/palimpsest/CommitTimes$Layout") (ncl : ct ≠ ly) (Fc_layout : Fld Z hj ct "com/example/palimpsest/palimpsest/CommitTimes" "layout" "Lcom/example/palimpsest/palimpsest/CommitTimes$Layout;" (.ref ly)) (Fc_newest : Fld Z hj ct "com/example/palimpsest/palimpsest/CommitTimes" "newest" "J" (.long nw)) (Fl_olderTimestamps : Fld Z hj ly "com/example/palimpsest/palimpsest/CommitTimes$Layout" "olderTimestamps" "[J" (.ref ta)) (Fl_olderTimes : Fld Z hj ly "com/example/palimpsest/palimpsest/CommitTimes$Layout" "olderTimes" "[J" (.ref ma)) (Fl_olderCount : Fld Z hj ly "com/example/palimpsest/palimpsest/CommitTimes$Layout" "olderCount" "I" (.int (0 : Int32))) (Fl_floor : Fld Z hj ly "com/example/palimpsest/palimpsest/CommitTimes$Layout" "floor" "J" (.long s1)) (Fl_slots : Fld Z hj ly "com/example/palimpsest/palimpsest/CommitTimes$Layout" "slots" "[J" (.ref sa)) (A_ta : AL Z hj ta (0 : Int32)) (A_ma : AL Z hj ma (0 : Int32)) (A_sa : AL Z hj sa sz) (hcn : (nw - s1) + (1 : Int64) = n1.toInt64) (hn : n1 = 1 ∧ sz = 1 ∨ n1 = 2 ∧ sz = 2 ∨ n1 = 3 ∧ sz = 4) (hts2 : ¬ s2 = (nw + (1 : Int64))) (hg3 : 0 ≤ g3.toInt) (hq2 : n2 = 0 ∨ n2 = 1 ∨ n2 = 2 ∨ n2 = 3) (hq3 : t3 = 0 ∨ t3 = 1) (hq4 : tr = 0 ∨ tr = 1) :
    Go p e below (Ret s (fun v h L => v = some (.int 1) ∧ Fr Z.heap.size L) room_1.cells room_1.slots) (Tj.setTop (mkF m 115 #[sI p1, sJ q2, sS, sJ q3, sS, sJ q4, sS, sJ q5, sS, sI n1, sI n2, sI t3, sI tr, sJ s1, sS, sJ g2, sS, sJ g3, sS, sR ct, sJ nw, sS, sJ s2, sS, sU, sU, sU, sU, sU, sU, sU, sU, sU, sU, sU, sU, sU] [])) := by
  obtain ⟨S_NONE, E_NONE, V_NONE⟩ := id hS
  obtain ⟨hx, hby, hml, hown, hnm, hret, hlk, hZ⟩ := id hC
  refine Go.st (fun _ k => XS.aload Xj.here hx rfl (hb hby at_115) rfl rfl k) ?_
  refine Go.st (S' := Tj.setTop (mkF m 119 #[sI p1, sJ q2, sS, sJ q3, sS, sJ q4, sS, sJ q5, sS, sI n1, sI n2, sI t3, sI tr, sJ s1, sS, sJ g2, sS, sJ g3, sS, sR ct, sJ nw, sS, sJ s2, sS, sU, sU, sU, sU, sU, sU, sU, sU, sU, sU, sU, sU, sU] [(.long s2), (.ref ct)])) (fun _ k => XS.lload Xj.here hx rfl (hb hby at_117) rfl k) ?_
  rcases hq2 with rfl | rfl | rfl | rfl
  · refine Go.st (fun _ k => XS.iload Xj.here hx rfl (hb hby at_119) rfl k) ?_
    refine Go.st (S' := Tj.setTop (mkF m 123 #[sI p1, sJ q2, sS, sJ q3, sS, sJ q4, sS, sJ q5, sS, sI n1, sI 0, sI t3, sI tr, sJ s1, sS, sJ g2, sS, sJ g3, sS, sR ct, sJ nw, sS, sJ s2, sS, sU, sU, sU, sU, sU, sU, sU, sU, sU, sU, sU, sU, sU] [(.long q5), (.int (0 : Int32)), (.long s2), (.ref ct)])) (fun _ k => XS.lload Xj.here hx rfl (hb hby at_121) rfl k) ?_
    obtain ⟨_, T164, L164, X164, ⟨rfl, Nq164, eq164⟩, st164⟩ := own_callS Xj hx hZ hown (ww hw 37 rfl) (ww hw 38 rfl) (ww hw 39 rfl) (ww hw 40 rfl) (by decide) ej (rmR0 l Z a0 hw [] w_NONE k_NONE hS ct s2 q5 hj Oj) 0 (by decide) (by decide) (by decide) (by decide) (g := (mkF m 123 #[sI p1, sJ q2, sS, sJ q3, sS, sJ q4, sS, sJ q5, sS, sI n1, sI 0, sI t3, sI tr, sJ s1, sS, sJ g2, sS, sJ g3, sS, sR ct, sJ nw, sS, sJ s2, sS, sU, sU, sU, sU, sU, sU, sU, sU, sU, sU, sU, sU, sU] [(.long q5), (.int (0 : Int32)), (.long s2), (.ref ct)])) rfl (by rw [hml]; rfl) [(.ref ct), (.long s2), (.int (0 : Int32)), (.long q5)] [] rfl (lenOf pd_502958 rfl) rfl (by show 2 * 0 + _ ≤ _; exact Nat.le_of_eq rfl) (hb hby at_123)
    have N164 := Fr.app Nj Nq164
    refine Go.st (S' := T164.setTop (mkF m 126 #[sI p1, sJ q2, sS, sJ q3, sS, sJ q4, sS, sJ q5, sS, sI n1, sI 0, sI t3, sI tr, sJ s1, sS, sJ g2, sS, sJ g3, sS, sR ct, sJ nw, sS, sJ s2, sS, sU, sU, sU, sU, sU, sU, sU, sU, sU, sU, sU, sU, sU] [])) st164 ?_
    refine Go.st (S' := T164.setTop (mkF m 128 #[sI p1, sJ q2, sS, sJ q3, sS, sJ q4, sS, sJ q5, sS, sI n1, sI 0, sI t3, sI tr, sJ s1, sS, sJ g2, sS, sJ g3, sS, sR ct, sJ nw, sS, sJ s2, sS, sU, sU, sU, sU, sU, sU, sU, sU, sU, sU, sU, sU, sU] [(.int (0 : Int32))])) (fun _ k => XS.iload X164.here hx rfl (hb hby at_126) rfl k) ?_
    refine Go.st (fun _ k => XS.ifYes X164.here hx rfl (pc0 := 128) (pc' := 141) rfl (hb hby at_128) rfl ((if0 _ _).trans (flt (by decide)).2.2.2) (by decide) (by decide) k) ?_
    refine Go.st (S' := T164.setTop (mkF m 143 #[sI p1, sJ q2, sS, sJ q3, sS, sJ q4, sS, sJ q5, sS, sI n1, sI 0, sI t3, sI tr, sJ s1, sS, sJ g2, sS, sJ g3, sS, sR ct, sJ nw, sS, sJ s2, sS, sU, sU, sU, sU, sU, sU, sU, sU, sU, sU, sU, sU, sU] [(.long nw)])) (fun _ k => XS.lload X164.here hx rfl (hb hby at_141) rfl k) ?_
    refine Go.st (S' := T164.setTop (mkF m 146 #[sI p1, sJ q2, sS, sJ q3, sS, sJ q4, sS, sJ q5, sS, sI n1, sI 0, sI t3, sI tr, sJ s1, sS, sJ g2, sS, sJ g3, sS, sR ct, sJ nw, sS, sJ s2, sS, sU, sU, sU, sU, sU, sU, sU, sU, sU, sU, sU, sU, sU] [(.long (2 : Int64)), (.long nw)])) (X164.ldc2Long hx hown (mvT hZ (ww hw 41 rfl)) (g := (mkF m 143 #[sI p1, sJ q2, sS, sJ q3, sS, sJ q4, sS, sJ q5, sS, sI n1, sI 0, sI t3, sI tr, sJ s1, sS, sJ g2, sS, sJ g3, sS, sR ct, sJ nw, sS, sJ s2, sS, sU, sU, sU, sU, sU, sU, sU, sU, sU, sU, sU, sU, sU] [(.long nw)])) rfl (hb hby at_143)) ?_
    refine Go.st (fun _ k => XS.ladd X164.here hx rfl (hb hby at_146) rfl k) ?_
    refine Go.st (fun _ k => XS.lload X164.here hx rfl (hb hby at_147) rfl k) ?_
    refine Go.st (S' := T164.setTop (mkF m 150 #[sI p1, sJ q2, sS, sJ q3, sS, sJ q4, sS, sJ q5, sS, sI n1, sI 0, sI t3, sI tr, sJ s1, sS, sJ g2, sS, sJ g3, sS, sR ct, sJ nw, sS, sJ s2, sS, sU, sU, sU, sU, sU, sU, sU, sU, sU, sU, sU, sU, sU] [(.long ((nw + (2 : Int64)) + g3))])) (fun _ k => XS.ladd X164.here hx rfl (hb hby at_149) rfl k) ?_
    obtain ⟨s3, hd_s3⟩ : ∃ z : Int64, z = ((nw + (2 : Int64)) + g3) := ⟨_, rfl⟩
    refine Go.st (S' := T164.setTop (mkF m 150 #[sI p1, sJ q2, sS, sJ q3, sS, sJ q4, sS, sJ q5, sS, sI n1, sI 0, sI t3, sI tr, sJ s1, sS, sJ g2, sS, sJ g3, sS, sR ct, sJ nw, sS, sJ s2, sS, sU, sU, sU, sU, sU, sU, sU, sU, sU, sU, sU, sU, sU] [(.long s3)])) (fun _ k => by rw [hd_s3] at k; exact k) ?_
    refine Go.st (S' := T164.setTop (mkF m 152 #[sI p1, sJ q2, sS, sJ q3, sS, sJ q4, sS, sJ q5, sS, sI n1, sI 0, sI t3, sI tr, sJ s1, sS, sJ g2, sS, sJ g3, sS, sR ct, sJ nw, sS, sJ s2, sS, sJ s3, sS, sU, sU, sU, sU, sU, sU, sU, sU, sU, sU, sU] [])) (fun _ k => XS.lstore X164.here hx rfl (hb hby at_150) rfl (l' := #[sI p1, sJ q2, sS, sJ q3, sS, sJ q4, sS, sJ q5, sS, sI n1, sI 0, sI t3, sI tr, sJ s1, sS, sJ g2, sS, sJ g3, sS, sR ct, sJ nw, sS, sJ s2, sS, sJ s3, sS, sU, sU, sU, sU, sU, sU, sU, sU, sU, sU, sU]) rfl k) ?_
    exact rT l Z a0 hw w_NONE k_NONE hS p1 q2 q3 q4 q5 p e s m below meth c ⟨hx, hby, hml, hown, hnm, hret, hlk, hZ⟩ _ _ _ (X164.mono (by decide) (by decide)) eq164 N164 Oj _ _ _ _ _ _ _ _ _ _ _ _ _ _ (0 : Int32) (0 : Int32) n1 sz _ _ gct Ect Ely ncl Fc_layout Fc_newest Fl_olderTimestamps Fl_olderTimes Fl_olderCount Fl_floor Fl_slots A_ta A_ma A_sa hcn (by rcases hn with ⟨rfl, rfl⟩ | ⟨rfl, rfl⟩ | ⟨rfl, rfl⟩ <;> decide) (by rcases hn with ⟨rfl, rfl⟩ | ⟨rfl, rfl⟩ | ⟨rfl, rfl⟩ <;> decide) (by rcases hn with ⟨rfl, rfl⟩ | ⟨rfl, rfl⟩ | ⟨rfl, rfl⟩ <;> decide) (by rcases hn with ⟨rfl, rfl⟩ | ⟨rfl, rfl⟩ | ⟨rfl, rfl⟩ <;> decide) (by rcases hn with ⟨rfl, rfl⟩ | ⟨rfl, rfl⟩ | ⟨rfl, rfl⟩ <;> decide) (by rcases hn with ⟨rfl, rfl⟩ | ⟨rfl, rfl⟩ | ⟨rfl, rfl⟩ <;> decide) (by rcases hn with ⟨rfl, rfl⟩ | ⟨rfl, rfl⟩ | ⟨rfl, rfl⟩ <;> decide) (by rcases hn with ⟨rfl, rfl⟩ | ⟨rfl, rfl⟩ | ⟨rfl, rfl⟩ <;> decide) (fun q => own_gap nw g3 hg3 (hd_s3.symm.trans q)) hq3 hq4 (by rcases hn with ⟨rfl, rfl⟩ | ⟨rfl, rfl⟩ | ⟨rfl, rfl⟩ <;> decide) (by rcases hn with ⟨rfl, rfl⟩ | ⟨rfl, rfl⟩ | ⟨rfl, rfl⟩ <;> decide) (by rcases hn with ⟨rfl, rfl⟩ | ⟨rfl, rfl⟩ | ⟨rfl, rfl⟩ <;> decide) (by rcases hn with ⟨rfl, rfl⟩ | ⟨rfl, rfl⟩ | ⟨rfl, rfl⟩ <;> decide)
  · refine Go.st (fun _ k => XS.iload Xj.here hx rfl (hb hby at_119) rfl k) ?_
    refine Go.st (S' := Tj.setTop (mkF m 123 #[sI p1, sJ q2, sS, sJ q3, sS, sJ q4, sS, sJ q5, sS, sI n1, sI 1, sI t3, sI tr, sJ s1, sS, sJ g2, sS, sJ g3, sS, sR ct, sJ nw, sS, sJ s2, sS, sU, sU, sU, sU, sU, sU, sU, sU, sU, sU, sU, sU, sU] [(.long q5), (.int (1 : Int32)), (.long s2), (.ref ct)])) (fun _ k => XS.lload Xj.here hx rfl (hb hby at_121) rfl k) ?_
    obtain ⟨_, T165, L165, X165, ⟨rfl, Nq165, kp165, ly165, ar165, ta165, ma165, sl165, sa165, st_165, sm165, nla165, nta165, nma165, el165, golderTimestamps165, golderTimes165, golderCount165, gfloor165, gslots165, flayout165, fnewest165, va165, vt165, vm165⟩, st165⟩ := own_callS Xj hx hZ hown (ww hw 37 rfl) (ww hw 38 rfl) (ww hw 39 rfl) (ww hw 40 rfl) (by decide) ej (rmRA1 l Z a0 hw [] w_NONE k_NONE hS ct s2 q5 nw s1 ly (0 : Int32) (0 : Int32) n1 sz (maxF ((0 : Int32) + n1) ((2 : Int32) * (0 : Int32))) sa ta ma hcn (by rcases hn with ⟨rfl, rfl⟩ | ⟨rfl, rfl⟩ | ⟨rfl, rfl⟩ <;> decide) (by rcases hn with ⟨rfl, rfl⟩ | ⟨rfl, rfl⟩ | ⟨rfl, rfl⟩ <;> decide) (by rcases hn with ⟨rfl, rfl⟩ | ⟨rfl, rfl⟩ | ⟨rfl, rfl⟩ <;> decide) (by decide) (by decide) (by decide) (by rcases hn with ⟨rfl, rfl⟩ | ⟨rfl, rfl⟩ | ⟨rfl, rfl⟩ <;> decide) rfl hj Oj hts2 gct Ect Ely ncl Fc_layout Fc_newest Fl_olderTimestamps Fl_olderTimes Fl_olderCount Fl_floor Fl_slots A_ta A_ma A_sa) 0 (by decide) (by decide) (by decide) (by decide) (g := (mkF m 123 #[sI p1, sJ q2, sS, sJ q3, sS, sJ q4, sS, sJ q5, sS, sI n1, sI 1, sI t3, sI tr, sJ s1, sS, sJ g2, sS, sJ g3, sS, sR ct, sJ nw, sS, sJ s2, sS, sU, sU, sU, sU, sU, sU, sU, sU, sU, sU, sU, sU, sU] [(.long q5), (.int (1 : Int32)), (.long s2), (.ref ct)])) rfl (by rw [hml]; rfl) [(.ref ct), (.long s2), (.int (1 : Int32)), (.long q5)] [] rfl (lenOf pd_502958 rfl) rfl (by show 2 * 0 + _ ≤ _; exact Nat.le_of_eq rfl) (hb hby at_123)
    have N165 := Fr.app Nj Nq165
    have ne_ct_ly165 : ct ≠ ly165 := own_lt_ne' Ect.lt sl165
    have ne_ly_ly165 : ly ≠ ly165 := own_lt_ne' Ely.lt sl165
    have ne_ta_ly165 : ta ≠ ly165 := own_lt_ne' A_ta.lt sl165
    have ne_ma_ly165 : ma ≠ ly165 := own_lt_ne' A_ma.lt sl165
    have ne_sa_ly165 : sa ≠ ly165 := own_lt_ne' A_sa.lt sl165
    have ne_ct_ar165 : ct ≠ ar165 := own_lt_ne' Ect.lt sa165
    have ne_ly_ar165 : ly ≠ ar165 := own_lt_ne' Ely.lt sa165
    have ne_ta_ar165 : ta ≠ ar165 := own_lt_ne' A_ta.lt sa165
    have ne_ma_ar165 : ma ≠ ar165 := own_lt_ne' A_ma.lt sa165
    have ne_sa_ar165 : sa ≠ ar165 := own_lt_ne' A_sa.lt sa165
    have ne_ct_ta165 : ct ≠ ta165 := own_lt_ne' Ect.lt st_165
    have ne_ly_ta165 : ly ≠ ta165 := own_lt_ne' Ely.lt st_165
    have ne_ta_ta165 : ta ≠ ta165 := own_lt_ne' A_ta.lt st_165
    have ne_ma_ta165 : ma ≠ ta165 := own_lt_ne' A_ma.lt st_165
    have ne_sa_ta165 : sa ≠ ta165 := own_lt_ne' A_sa.lt st_165
    have ne_ct_ma165 : ct ≠ ma165 := own_lt_ne' Ect.lt sm165
    have ne_ly_ma165 : ly ≠ ma165 := own_lt_ne' Ely.lt sm165
    have ne_ta_ma165 : ta ≠ ma165 := own_lt_ne' A_ta.lt sm165
    have ne_ma_ma165 : ma ≠ ma165 := own_lt_ne' A_ma.lt sm165
    have ne_sa_ma165 : sa ≠ ma165 := own_lt_ne' A_sa.lt sm165
    have O165 : Ext Z.heap T165.heap := own_Ext.keep Oj kp165 (allS gct all0)
    refine Go.st (S' := T165.setTop (mkF m 126 #[sI p1, sJ q2, sS, sJ q3, sS, sJ q4, sS, sJ q5, sS, sI n1, sI 1, sI t3, sI tr, sJ s1, sS, sJ g2, sS, sJ g3, sS, sR ct, sJ nw, sS, sJ s2, sS, sU, sU, sU, sU, sU, sU, sU, sU, sU, sU, sU, sU, sU] [])) st165 ?_
    refine Go.st (S' := T165.setTop (mkF m 128 #[sI p1, sJ q2, sS, sJ q3, sS, sJ q4, sS, sJ q5, sS, sI n1, sI 1, sI t3, sI tr, sJ s1, sS, sJ g2, sS, sJ g3, sS, sR ct, sJ nw, sS, sJ s2, sS, sU, sU, sU, sU, sU, sU, sU, sU, sU, sU, sU, sU, sU] [(.int (1 : Int32))])) (fun _ k => XS.iload X165.here hx rfl (hb hby at_126) rfl k) ?_
    refine Go.st (fun _ k => XS.ifNo X165.here hx rfl (hb hby at_128) rfl ((if0 _ _).trans (tlt (by decide)).2.2.2) k) ?_
    refine Go.st (fun _ k => XS.lload X165.here hx rfl (hb hby at_131) rfl k) ?_
    refine Go.st (fun _ k => XS.iload X165.here hx rfl (hb hby at_133) rfl k) ?_
    refine Go.st (fun _ k => XS.i2l X165.here hx rfl (hb hby at_135) rfl k) ?_
    refine Go.st (fun _ k => XS.ladd X165.here hx rfl (hb hby at_136) rfl k) ?_
    refine Go.st (fun _ k => XS.lconst X165.here hx rfl (hb hby at_137) k) ?_
    refine Go.st (S' := T165.setTop (mkF m 139 #[sI p1, sJ q2, sS, sJ q3, sS, sJ q4, sS, sJ q5, sS, sI n1, sI 1, sI t3, sI tr, sJ s1, sS, sJ g2, sS, sJ g3, sS, sR ct, sJ nw, sS, sJ s2, sS, sU, sU, sU, sU, sU, sU, sU, sU, sU, sU, sU, sU, sU] [(.long ((s2 + (1 : Int64)) - (1 : Int64)))])) (fun _ k => XS.lsub X165.here hx rfl (hb hby at_138) rfl k) ?_
    refine Go.st (S' := T165.setTop (mkF m 139 #[sI p1, sJ q2, sS, sJ q3, sS, sJ q4, sS, sJ q5, sS, sI n1, sI 1, sI t3, sI tr, sJ s1, sS, sJ g2, sS, sJ g3, sS, sR ct, sJ nw, sS, sJ s2, sS, sU, sU, sU, sU, sU, sU, sU, sU, sU, sU, sU, sU, sU] [(.long s2)])) (fun _ k => by rw [(own_nw1 s2 : ((s2 + (1 : Int64)) - (1 : Int64)) = s2)]; exact k) ?_
    refine Go.st (fun _ k => XS.lstore X165.here hx rfl (hb hby at_139) rfl (l' := #[sI p1, sJ q2, sS, sJ q3, sS, sJ q4, sS, sJ q5, sS, sI n1, sI 1, sI t3, sI tr, sJ s1, sS, sJ g2, sS, sJ g3, sS, sR ct, sJ s2, sS, sJ s2, sS, sU, sU, sU, sU, sU, sU, sU, sU, sU, sU, sU, sU, sU]) rfl k) ?_
    refine Go.st (S' := T165.setTop (mkF m 143 #[sI p1, sJ q2, sS, sJ q3, sS, sJ q4, sS, sJ q5, sS, sI n1, sI 1, sI t3, sI tr, sJ s1, sS, sJ g2, sS, sJ g3, sS, sR ct, sJ s2, sS, sJ s2, sS, sU, sU, sU, sU, sU, sU, sU, sU, sU, sU, sU, sU, sU] [(.long s2)])) (fun _ k => XS.lload X165.here hx rfl (hb hby at_141) rfl k) ?_
    refine Go.st (S' := T165.setTop (mkF m 146 #[sI p1, sJ q2, sS, sJ q3, sS, sJ q4, sS, sJ q5, sS, sI n1, sI 1, sI t3, sI tr, sJ s1, sS, sJ g2, sS, sJ g3, sS, sR ct, sJ s2, sS, sJ s2, sS, sU, sU, sU, sU, sU, sU, sU, sU, sU, sU, sU, sU, sU] [(.long (2 : Int64)), (.long s2)])) (X165.ldc2Long hx hown (mvT hZ (ww hw 41 rfl)) (g := (mkF m 143 #[sI p1, sJ q2, sS, sJ q3, sS, sJ q4, sS, sJ q5, sS, sI n1, sI 1, sI t3, sI tr, sJ s1, sS, sJ g2, sS, sJ g3, sS, sR ct, sJ s2, sS, sJ s2, sS, sU, sU, sU, sU, sU, sU, sU, sU, sU, sU, sU, sU, sU] [(.long s2)])) rfl (hb hby at_143)) ?_
    refine Go.st (fun _ k => XS.ladd X165.here hx rfl (hb hby at_146) rfl k) ?_
    refine Go.st (fun _ k => XS.lload X165.here hx rfl (hb hby at_147) rfl k) ?_
    refine Go.st (S' := T165.setTop (mkF m 150 #[sI p1, sJ q2, sS, sJ q3, sS, sJ q4, sS, sJ q5, sS, sI n1, sI 1, sI t3, sI tr, sJ s1, sS, sJ g2, sS, sJ g3, sS, sR ct, sJ s2, sS, sJ s2, sS, sU, sU, sU, sU, sU, sU, sU, sU, sU, sU, sU, sU, sU] [(.long ((s2 + (2 : Int64)) + g3))])) (fun _ k => XS.ladd X165.here hx rfl (hb hby at_149) rfl k) ?_
    obtain ⟨s3, hd_s3⟩ : ∃ z : Int64, z = ((s2 + (2 : Int64)) + g3) := ⟨_, rfl⟩
    refine Go.st (S' := T165.setTop (mkF m 150 #[sI p1, sJ q2, sS, sJ q3, sS, sJ q4, sS, sJ q5, sS, sI n1, sI 1, sI t3, sI tr, sJ s1, sS, sJ g2, sS, sJ g3, sS, sR ct, sJ s2, sS, sJ s2, sS, sU, sU, sU, sU, sU, sU, sU, sU, sU, sU, sU, sU, sU] [(.long s3)])) (fun _ k => by rw [hd_s3] at k; exact k) ?_
    refine Go.st (S' := T165.setTop (mkF m 152 #[sI p1, sJ q2, sS, sJ q3, sS, sJ q4, sS, sJ q5, sS, sI n1, sI 1, sI t3, sI tr, sJ s1, sS, sJ g2, sS, sJ g3, sS, sR ct, sJ s2, sS, sJ s2, sS, sJ s3, sS, sU, sU, sU, sU, sU, sU, sU, sU, sU, sU, sU] [])) (fun _ k => XS.lstore X165.here hx rfl (hb hby at_150) rfl (l' := #[sI p1, sJ q2, sS, sJ q3, sS, sJ q4, sS, sJ q5, sS, sI n1, sI 1, sI t3, sI tr, sJ s1, sS, sJ g2, sS, sJ g3, sS, sR ct, sJ s2, sS, sJ s2, sS, sJ s3, sS, sU, sU, sU, sU, sU, sU, sU, sU, sU, sU, sU]) rfl k) ?_
    exact rT l Z a0 hw w_NONE k_NONE hS p1 q2 q3 q4 q5 p e s m below meth c ⟨hx, hby, hml, hown, hnm, hret, hlk, hZ⟩ _ _ _ (X165.mono (by decide) (by decide)) rfl N165 O165 _ _ _ _ _ _ _ _ _ _ _ _ _ _ ((0 : Int32) + n1) (maxF ((0 : Int32) + n1) ((2 : Int32) * (0 : Int32))) (1 : Int32) (1 : Int32) _ _ gct (Ect.keep kp165) el165 ne_ct_ly165 flayout165 fnewest165 golderTimestamps165 golderTimes165 golderCount165 gfloor165 gslots165 vt165 vm165 va165 (by rw [own_o0]; decide) (by rcases hn with ⟨rfl, rfl⟩ | ⟨rfl, rfl⟩ | ⟨rfl, rfl⟩ <;> decide) (by rcases hn with ⟨rfl, rfl⟩ | ⟨rfl, rfl⟩ | ⟨rfl, rfl⟩ <;> decide) (by rcases hn with ⟨rfl, rfl⟩ | ⟨rfl, rfl⟩ | ⟨rfl, rfl⟩ <;> decide) (by rcases hn with ⟨rfl, rfl⟩ | ⟨rfl, rfl⟩ | ⟨rfl, rfl⟩ <;> decide) (by rcases hn with ⟨rfl, rfl⟩ | ⟨rfl, rfl⟩ | ⟨rfl, rfl⟩ <;> decide) (by rcases hn with ⟨rfl, rfl⟩ | ⟨rfl, rfl⟩ | ⟨rfl, rfl⟩ <;> decide) (by rcases hn with ⟨rfl, rfl⟩ | ⟨rfl, rfl⟩ | ⟨rfl, rfl⟩ <;> decide) (by rcases hn with ⟨rfl, rfl⟩ | ⟨rfl, rfl⟩ | ⟨rfl, rfl⟩ <;> decide) (fun q => own_gap s2 g3 hg3 (hd_s3.symm.trans q)) hq3 hq4 (by rcases hn with ⟨rfl, rfl⟩ | ⟨rfl, rfl⟩ | ⟨rfl, rfl⟩ <;> decide) (by rcases hn with ⟨rfl, rfl⟩ | ⟨rfl, rfl⟩ | ⟨rfl, rfl⟩ <;> decide) (by rcases hn with ⟨rfl, rfl⟩ | ⟨rfl, rfl⟩ | ⟨rfl, rfl⟩ <;> decide) (by rcases hn with ⟨rfl, rfl⟩ | ⟨rfl, rfl⟩ | ⟨rfl, rfl⟩ <;> decide)
  · refine Go.st (fun _ k => XS.iload Xj.here hx rfl (hb hby at_119) rfl k) ?_
    refine Go.st (S' := Tj.setTop (mkF m 123 #[sI p1, sJ q2, sS, sJ q3, sS, sJ q4, sS, sJ q5, sS, sI n1, sI 2, sI t3, sI tr, sJ s1, sS, sJ g2, sS, sJ g3, sS, sR ct, sJ nw, sS, sJ s2, sS, sU, sU, sU, sU, sU, sU, sU, sU, sU, sU, sU, sU, sU] [(.long q5), (.int (2 : Int32)), (.long s2), (.ref ct)])) (fun _ k => XS.lload Xj.here hx rfl (hb hby at_121) rfl k) ?_
    obtain ⟨_, T166, L166, X166, ⟨rfl, Nq166, kp166, ly166, ar166, ta166, ma166, sl166, sa166, st_166, sm166, nla166, nta166, nma166, el166, golderTimestamps166, golderTimes166, golderCount166, gfloor166, gslots166, flayout166, fnewest166, va166, vt166, vm166⟩, st166⟩ := own_callS Xj hx hZ hown (ww hw 37 rfl) (ww hw 38 rfl) (ww hw 39 rfl) (ww hw 40 rfl) (by decide) ej (rmRA2 l Z a0 hw [] w_NONE k_NONE hS ct s2 q5 nw s1 ly (0 : Int32) (0 : Int32) n1 sz (maxF ((0 : Int32) + n1) ((2 : Int32) * (0 : Int32))) sa ta ma hcn (by rcases hn with ⟨rfl, rfl⟩ | ⟨rfl, rfl⟩ | ⟨rfl, rfl⟩ <;> decide) (by rcases hn with ⟨rfl, rfl⟩ | ⟨rfl, rfl⟩ | ⟨rfl, rfl⟩ <;> decide) (by rcases hn with ⟨rfl, rfl⟩ | ⟨rfl, rfl⟩ | ⟨rfl, rfl⟩ <;> decide) (by decide) (by decide) (by decide) (by rcases hn with ⟨rfl, rfl⟩ | ⟨rfl, rfl⟩ | ⟨rfl, rfl⟩ <;> decide) rfl hj Oj hts2 gct Ect Ely ncl Fc_layout Fc_newest Fl_olderTimestamps Fl_olderTimes Fl_olderCount Fl_floor Fl_slots A_ta A_ma A_sa) 0 (by decide) (by decide) (by decide) (by decide) (g := (mkF m 123 #[sI p1, sJ q2, sS, sJ q3, sS, sJ q4, sS, sJ q5, sS, sI n1, sI 2, sI t3, sI tr, sJ s1, sS, sJ g2, sS, sJ g3, sS, sR ct, sJ nw, sS, sJ s2, sS, sU, sU, sU, sU, sU, sU, sU, sU, sU, sU, sU, sU, sU] [(.long q5), (.int (2 : Int32)), (.long s2), (.ref ct)])) rfl (by rw [hml]; rfl) [(.ref ct), (.long s2), (.int (2 : Int32)), (.long q5)] [] rfl (lenOf pd_502958 rfl) rfl (by show 2 * 0 + _ ≤ _; exact Nat.le_of_eq rfl) (hb hby at_123)
    have N166 := Fr.app Nj Nq166
    have ne_ct_ly166 : ct ≠ ly166 := own_lt_ne' Ect.lt sl166
    have ne_ly_ly166 : ly ≠ ly166 := own_lt_ne' Ely.lt sl166
    have ne_ta_ly166 : ta ≠ ly166 := own_lt_ne' A_ta.lt sl166
    have ne_ma_ly166 : ma ≠ ly166 := own_lt_ne' A_ma.lt sl166
    have ne_sa_ly166 : sa ≠ ly166 := own_lt_ne' A_sa.lt sl166
    have ne_ct_ar166 : ct ≠ ar166 := own_lt_ne' Ect.lt sa166
    have ne_ly_ar166 : ly ≠ ar166 := own_lt_ne' Ely.lt sa166
    have ne_ta_ar166 : ta ≠ ar166 := own_lt_ne' A_ta.lt sa166
    have ne_ma_ar166 : ma ≠ ar166 := own_lt_ne' A_ma.lt sa166
    have ne_sa_ar166 : sa ≠ ar166 := own_lt_ne' A_sa.lt sa166
    have ne_ct_ta166 : ct ≠ ta166 := own_lt_ne' Ect.lt st_166
    have ne_ly_ta166 : ly ≠ ta166 := own_lt_ne' Ely.lt st_166
    have ne_ta_ta166 : ta ≠ ta166 := own_lt_ne' A_ta.lt st_166
    have ne_ma_ta166 : ma ≠ ta166 := own_lt_ne' A_ma.lt st_166
    have ne_sa_ta166 : sa ≠ ta166 := own_lt_ne' A_sa.lt st_166
    have ne_ct_ma166 : ct ≠ ma166 := own_lt_ne' Ect.lt sm166
    have ne_ly_ma166 : ly ≠ ma166 := own_lt_ne' Ely.lt sm166
    have ne_ta_ma166 : ta ≠ ma166 := own_lt_ne' A_ta.lt sm166
    have ne_ma_ma166 : ma ≠ ma166 := own_lt_ne' A_ma.lt sm166
    have ne_sa_ma166 : sa ≠ ma166 := own_lt_ne' A_sa.lt sm166
    have O166 : Ext Z.heap T166.heap := own_Ext.keep Oj kp166 (allS gct all0)
    refine Go.st (S' := T166.setTop (mkF m 126 #[sI p1, sJ q2, sS, sJ q3, sS, sJ q4, sS, sJ q5, sS, sI n1, sI 2, sI t3, sI tr, sJ s1, sS, sJ g2, sS, sJ g3, sS, sR ct, sJ nw, sS, sJ s2, sS, sU, sU, sU, sU, sU, sU, sU, sU, sU, sU, sU, sU, sU] [])) st166 ?_
    refine Go.st (S' := T166.setTop (mkF m 128 #[sI p1, sJ q2, sS, sJ q3, sS, sJ q4, sS, sJ q5, sS, sI n1, sI 2, sI t3, sI tr, sJ s1, sS, sJ g2, sS, sJ g3, sS, sR ct, sJ nw, sS, sJ s2, sS, sU, sU, sU, sU, sU, sU, sU, sU, sU, sU, sU, sU, sU] [(.int (2 : Int32))])) (fun _ k => XS.iload X166.here hx rfl (hb hby at_126) rfl k) ?_
    refine Go.st (fun _ k => XS.ifNo X166.here hx rfl (hb hby at_128) rfl ((if0 _ _).trans (tlt (by decide)).2.2.2) k) ?_
    refine Go.st (fun _ k => XS.lload X166.here hx rfl (hb hby at_131) rfl k) ?_
    refine Go.st (fun _ k => XS.iload X166.here hx rfl (hb hby at_133) rfl k) ?_
    refine Go.st (fun _ k => XS.i2l X166.here hx rfl (hb hby at_135) rfl k) ?_
    refine Go.st (fun _ k => XS.ladd X166.here hx rfl (hb hby at_136) rfl k) ?_
    refine Go.st (fun _ k => XS.lconst X166.here hx rfl (hb hby at_137) k) ?_
    refine Go.st (S' := T166.setTop (mkF m 139 #[sI p1, sJ q2, sS, sJ q3, sS, sJ q4, sS, sJ q5, sS, sI n1, sI 2, sI t3, sI tr, sJ s1, sS, sJ g2, sS, sJ g3, sS, sR ct, sJ nw, sS, sJ s2, sS, sU, sU, sU, sU, sU, sU, sU, sU, sU, sU, sU, sU, sU] [(.long ((s2 + (2 : Int64)) - (1 : Int64)))])) (fun _ k => XS.lsub X166.here hx rfl (hb hby at_138) rfl k) ?_
    refine Go.st (S' := T166.setTop (mkF m 139 #[sI p1, sJ q2, sS, sJ q3, sS, sJ q4, sS, sJ q5, sS, sI n1, sI 2, sI t3, sI tr, sJ s1, sS, sJ g2, sS, sJ g3, sS, sR ct, sJ nw, sS, sJ s2, sS, sU, sU, sU, sU, sU, sU, sU, sU, sU, sU, sU, sU, sU] [(.long (s2 + (1 : Int64)))])) (fun _ k => by rw [(own_nw2 s2 : ((s2 + (2 : Int64)) - (1 : Int64)) = (s2 + (1 : Int64)))]; exact k) ?_
    refine Go.st (fun _ k => XS.lstore X166.here hx rfl (hb hby at_139) rfl (l' := #[sI p1, sJ q2, sS, sJ q3, sS, sJ q4, sS, sJ q5, sS, sI n1, sI 2, sI t3, sI tr, sJ s1, sS, sJ g2, sS, sJ g3, sS, sR ct, sJ (s2 + (1 : Int64)), sS, sJ s2, sS, sU, sU, sU, sU, sU, sU, sU, sU, sU, sU, sU, sU, sU]) rfl k) ?_
    refine Go.st (S' := T166.setTop (mkF m 143 #[sI p1, sJ q2, sS, sJ q3, sS, sJ q4, sS, sJ q5, sS, sI n1, sI 2, sI t3, sI tr, sJ s1, sS, sJ g2, sS, sJ g3, sS, sR ct, sJ (s2 + (1 : Int64)), sS, sJ s2, sS, sU, sU, sU, sU, sU, sU, sU, sU, sU, sU, sU, sU, sU] [(.long (s2 + (1 : Int64)))])) (fun _ k => XS.lload X166.here hx rfl (hb hby at_141) rfl k) ?_
    refine Go.st (S' := T166.setTop (mkF m 146 #[sI p1, sJ q2, sS, sJ q3, sS, sJ q4, sS, sJ q5, sS, sI n1, sI 2, sI t3, sI tr, sJ s1, sS, sJ g2, sS, sJ g3, sS, sR ct, sJ (s2 + (1 : Int64)), sS, sJ s2, sS, sU, sU, sU, sU, sU, sU, sU, sU, sU, sU, sU, sU, sU] [(.long (2 : Int64)), (.long (s2 + (1 : Int64)))])) (X166.ldc2Long hx hown (mvT hZ (ww hw 41 rfl)) (g := (mkF m 143 #[sI p1, sJ q2, sS, sJ q3, sS, sJ q4, sS, sJ q5, sS, sI n1, sI 2, sI t3, sI tr, sJ s1, sS, sJ g2, sS, sJ g3, sS, sR ct, sJ (s2 + (1 : Int64)), sS, sJ s2, sS, sU, sU, sU, sU, sU, sU, sU, sU, sU, sU, sU, sU, sU] [(.long (s2 + (1 : Int64)))])) rfl (hb hby at_143)) ?_
    refine Go.st (fun _ k => XS.ladd X166.here hx rfl (hb hby at_146) rfl k) ?_
    refine Go.st (fun _ k => XS.lload X166.here hx rfl (hb hby at_147) rfl k) ?_
    refine Go.st (S' := T166.setTop (mkF m 150 #[sI p1, sJ q2, sS, sJ q3, sS, sJ q4, sS, sJ q5, sS, sI n1, sI 2, sI t3, sI tr, sJ s1, sS, sJ g2, sS, sJ g3, sS, sR ct, sJ (s2 + (1 : Int64)), sS, sJ s2, sS, sU, sU, sU, sU, sU, sU, sU, sU, sU, sU, sU, sU, sU] [(.long (((s2 + (1 : Int64)) + (2 : Int64)) + g3))])) (fun _ k => XS.ladd X166.here hx rfl (hb hby at_149) rfl k) ?_
    obtain ⟨s3, hd_s3⟩ : ∃ z : Int64, z = (((s2 + (1 : Int64)) + (2 : Int64)) + g3) := ⟨_, rfl⟩
    refine Go.st (S' := T166.setTop (mkF m 150 #[sI p1, sJ q2, sS, sJ q3, sS, sJ q4, sS, sJ q5, sS, sI n1, sI 2, sI t3, sI tr, sJ s1, sS, sJ g2, sS, sJ g3, sS, sR ct, sJ (s2 + (1 : Int64)), sS, sJ s2, sS, sU, sU, sU, sU, sU, sU, sU, sU, sU, sU, sU, sU, sU] [(.long s3)])) (fun _ k => by rw [hd_s3] at k; exact k) ?_
    refine Go.st (S' := T166.setTop (mkF m 152 #[sI p1, sJ q2, sS, sJ q3, sS, sJ q4, sS, sJ q5, sS, sI n1, sI 2, sI t3, sI tr, sJ s1, sS, sJ g2, sS, sJ g3, sS, sR ct, sJ (s2 + (1 : Int64)), sS, sJ s2, sS, sJ s3, sS, sU, sU, sU, sU, sU, sU, sU, sU, sU, sU, sU] [])) (fun _ k => XS.lstore X166.here hx rfl (hb hby at_150) rfl (l' := #[sI p1, sJ q2, sS, sJ q3, sS, sJ q4, sS, sJ q5, sS, sI n1, sI 2, sI t3, sI tr, sJ s1, sS, sJ g2, sS, sJ g3, sS, sR ct, sJ (s2 + (1 : Int64)), sS, sJ s2, sS, sJ s3, sS, sU, sU, sU, sU, sU, sU, sU, sU, sU, sU, sU]) rfl k) ?_
    exact rT l Z a0 hw w_NONE k_NONE hS p1 q2 q3 q4 q5 p e s m below meth c ⟨hx, hby, hml, hown, hnm, hret, hlk, hZ⟩ _ _ _ (X166.mono (by decide) (by decide)) rfl N166 O166 _ _ _ _ _ _ _ _ _ _ _ _ _ _ ((0 : Int32) + n1) (maxF ((0 : Int32) + n1) ((2 : Int32) * (0 : Int32))) (2 : Int32) (2 : Int32) _ _ gct (Ect.keep kp166) el166 ne_ct_ly166 flayout166 fnewest166 golderTimestamps166 golderTimes166 golderCount166 gfloor166 gslots166 vt166 vm166 va166 (by rw [own_o1]; decide) (by rcases hn with ⟨rfl, rfl⟩ | ⟨rfl, rfl⟩ | ⟨rfl, rfl⟩ <;> decide) (by rcases hn with ⟨rfl, rfl⟩ | ⟨rfl, rfl⟩ | ⟨rfl, rfl⟩ <;> decide) (by rcases hn with ⟨rfl, rfl⟩ | ⟨rfl, rfl⟩ | ⟨rfl, rfl⟩ <;> decide) (by rcases hn with ⟨rfl, rfl⟩ | ⟨rfl, rfl⟩ | ⟨rfl, rfl⟩ <;> decide) (by rcases hn with ⟨rfl, rfl⟩ | ⟨rfl, rfl⟩ | ⟨rfl, rfl⟩ <;> decide) (by rcases hn with ⟨rfl, rfl⟩ | ⟨rfl, rfl⟩ | ⟨rfl, rfl⟩ <;> decide) (by rcases hn with ⟨rfl, rfl⟩ | ⟨rfl, rfl⟩ | ⟨rfl, rfl⟩ <;> decide) (by rcases hn with ⟨rfl, rfl⟩ | ⟨rfl, rfl⟩ | ⟨rfl, rfl⟩ <;> decide) (fun q => own_gap (s2 + (1 : Int64)) g3 hg3 (hd_s3.symm.trans q)) hq3 hq4 (by rcases hn with ⟨rfl, rfl⟩ | ⟨rfl, rfl⟩ | ⟨rfl, rfl⟩ <;> decide) (by rcases hn with ⟨rfl, rfl⟩ | ⟨rfl, rfl⟩ | ⟨rfl, rfl⟩ <;> decide) (by rcases hn with ⟨rfl, rfl⟩ | ⟨rfl, rfl⟩ | ⟨rfl, rfl⟩ <;> decide) (by rcases hn with ⟨rfl, rfl⟩ | ⟨rfl, rfl⟩ | ⟨rfl, rfl⟩ <;> decide)
  · refine Go.st (fun _ k => XS.iload Xj.here hx rfl (hb hby at_119) rfl k) ?_
    refine Go.st (S' := Tj.setTop (mkF m 123 #[sI p1, sJ q2, sS, sJ q3, sS, sJ q4, sS, sJ q5, sS, sI n1, sI 3, sI t3, sI tr, sJ s1, sS, sJ g2, sS, sJ g3, sS, sR ct, sJ nw, sS, sJ s2, sS, sU, sU, sU, sU, sU, sU, sU, sU, sU, sU, sU, sU, sU] [(.long q5), (.int (3 : Int32)), (.long s2), (.ref ct)])) (fun _ k => XS.lload Xj.here hx rfl (hb hby at_121) rfl k) ?_
    obtain ⟨_, T167, L167, X167, ⟨rfl, Nq167, kp167, ly167, ar167, ta167, ma167, sl167, sa167, st_167, sm167, nla167, nta167, nma167, el167, golderTimestamps167, golderTimes167, golderCount167, gfloor167, gslots167, flayout167, fnewest167, va167, vt167, vm167⟩, st167⟩ := own_callS Xj hx hZ hown (ww hw 37 rfl) (ww hw 38 rfl) (ww hw 39 rfl) (ww hw 40 rfl) (by decide) ej (rmRA3 l Z a0 hw [] w_NONE k_NONE hS ct s2 q5 nw s1 ly (0 : Int32) (0 : Int32) n1 sz (maxF ((0 : Int32) + n1) ((2 : Int32) * (0 : Int32))) sa ta ma hcn (by rcases hn with ⟨rfl, rfl⟩ | ⟨rfl, rfl⟩ | ⟨rfl, rfl⟩ <;> decide) (by rcases hn with ⟨rfl, rfl⟩ | ⟨rfl, rfl⟩ | ⟨rfl, rfl⟩ <;> decide) (by rcases hn with ⟨rfl, rfl⟩ | ⟨rfl, rfl⟩ | ⟨rfl, rfl⟩ <;> decide) (by decide) (by decide) (by decide) (by rcases hn with ⟨rfl, rfl⟩ | ⟨rfl, rfl⟩ | ⟨rfl, rfl⟩ <;> decide) rfl hj Oj hts2 gct Ect Ely ncl Fc_layout Fc_newest Fl_olderTimestamps Fl_olderTimes Fl_olderCount Fl_floor Fl_slots A_ta A_ma A_sa) 0 (by decide) (by decide) (by decide) (by decide) (g := (mkF m 123 #[sI p1, sJ q2, sS, sJ q3, sS, sJ q4, sS, sJ q5, sS, sI n1, sI 3, sI t3, sI tr, sJ s1, sS, sJ g2, sS, sJ g3, sS, sR ct, sJ nw, sS, sJ s2, sS, sU, sU, sU, sU, sU, sU, sU, sU, sU, sU, sU, sU, sU] [(.long q5), (.int (3 : Int32)), (.long s2), (.ref ct)])) rfl (by rw [hml]; rfl) [(.ref ct), (.long s2), (.int (3 : Int32)), (.long q5)] [] rfl (lenOf pd_502958 rfl) rfl (by show 2 * 0 + _ ≤ _; exact Nat.le_of_eq rfl) (hb hby at_123)
    have N167 := Fr.app Nj Nq167
    have ne_ct_ly167 : ct ≠ ly167 := own_lt_ne' Ect.lt sl167
    have ne_ly_ly167 : ly ≠ ly167 := own_lt_ne' Ely.lt sl167
    have ne_ta_ly167 : ta ≠ ly167 := own_lt_ne' A_ta.lt sl167
    have ne_ma_ly167 : ma ≠ ly167 := own_lt_ne' A_ma.lt sl167
    have ne_sa_ly167 : sa ≠ ly167 := own_lt_ne' A_sa.lt sl167
    have ne_ct_ar167 : ct ≠ ar167 := own_lt_ne' Ect.lt sa167
    have ne_ly_ar167 : ly ≠ ar167 := own_lt_ne' Ely.lt sa167
    have ne_ta_ar167 : ta ≠ ar167 := own_lt_ne' A_ta.lt sa167
    have ne_ma_ar167 : ma ≠ ar167 := own_lt_ne' A_ma.lt sa167
    have ne_sa_ar167 : sa ≠ ar167 := own_lt_ne' A_sa.lt sa167
    have ne_ct_ta167 : ct ≠ ta167 := own_lt_ne' Ect.lt st_167
    have ne_ly_ta167 : ly ≠ ta167 := own_lt_ne' Ely.lt st_167
    have ne_ta_ta167 : ta ≠ ta167 := own_lt_ne' A_ta.lt st_167
    have ne_ma_ta167 : ma ≠ ta167 := own_lt_ne' A_ma.lt st_167
    have ne_sa_ta167 : sa ≠ ta167 := own_lt_ne' A_sa.lt st_167
    have ne_ct_ma167 : ct ≠ ma167 := own_lt_ne' Ect.lt sm167
    have ne_ly_ma167 : ly ≠ ma167 := own_lt_ne' Ely.lt sm167
    have ne_ta_ma167 : ta ≠ ma167 := own_lt_ne' A_ta.lt sm167
    have ne_ma_ma167 : ma ≠ ma167 := own_lt_ne' A_ma.lt sm167
    have ne_sa_ma167 : sa ≠ ma167 := own_lt_ne' A_sa.lt sm167
    have O167 : Ext Z.heap T167.heap := own_Ext.keep Oj kp167 (allS gct all0)
    refine Go.st (S' := T167.setTop (mkF m 126 #[sI p1, sJ q2, sS, sJ q3, sS, sJ q4, sS, sJ q5, sS, sI n1, sI 3, sI t3, sI tr, sJ s1, sS, sJ g2, sS, sJ g3, sS, sR ct, sJ nw, sS, sJ s2, sS, sU, sU, sU, sU, sU, sU, sU, sU, sU, sU, sU, sU, sU] [])) st167 ?_
    refine Go.st (S' := T167.setTop (mkF m 128 #[sI p1, sJ q2, sS, sJ q3, sS, sJ q4, sS, sJ q5, sS, sI n1, sI 3, sI t3, sI tr, sJ s1, sS, sJ g2, sS, sJ g3, sS, sR ct, sJ nw, sS, sJ s2, sS, sU, sU, sU, sU, sU, sU, sU, sU, sU, sU, sU, sU, sU] [(.int (3 : Int32))])) (fun _ k => XS.iload X167.here hx rfl (hb hby at_126) rfl k) ?_
    refine Go.st (fun _ k => XS.ifNo X167.here hx rfl (hb hby at_128) rfl ((if0 _ _).trans (tlt (by decide)).2.2.2) k) ?_
    refine Go.st (fun _ k => XS.lload X167.here hx rfl (hb hby at_131) rfl k) ?_
    refine Go.st (fun _ k => XS.iload X167.here hx rfl (hb hby at_133) rfl k) ?_
    refine Go.st (fun _ k => XS.i2l X167.here hx rfl (hb hby at_135) rfl k) ?_
    refine Go.st (fun _ k => XS.ladd X167.here hx rfl (hb hby at_136) rfl k) ?_
    refine Go.st (fun _ k => XS.lconst X167.here hx rfl (hb hby at_137) k) ?_
    refine Go.st (S' := T167.setTop (mkF m 139 #[sI p1, sJ q2, sS, sJ q3, sS, sJ q4, sS, sJ q5, sS, sI n1, sI 3, sI t3, sI tr, sJ s1, sS, sJ g2, sS, sJ g3, sS, sR ct, sJ nw, sS, sJ s2, sS, sU, sU, sU, sU, sU, sU, sU, sU, sU, sU, sU, sU, sU] [(.long ((s2 + (3 : Int64)) - (1 : Int64)))])) (fun _ k => XS.lsub X167.here hx rfl (hb hby at_138) rfl k) ?_
    refine Go.st (S' := T167.setTop (mkF m 139 #[sI p1, sJ q2, sS, sJ q3, sS, sJ q4, sS, sJ q5, sS, sI n1, sI 3, sI t3, sI tr, sJ s1, sS, sJ g2, sS, sJ g3, sS, sR ct, sJ nw, sS, sJ s2, sS, sU, sU, sU, sU, sU, sU, sU, sU, sU, sU, sU, sU, sU] [(.long (s2 + (2 : Int64)))])) (fun _ k => by rw [(own_nw3 s2 : ((s2 + (3 : Int64)) - (1 : Int64)) = (s2 + (2 : Int64)))]; exact k) ?_
    refine Go.st (fun _ k => XS.lstore X167.here hx rfl (hb hby at_139) rfl (l' := #[sI p1, sJ q2, sS, sJ q3, sS, sJ q4, sS, sJ q5, sS, sI n1, sI 3, sI t3, sI tr, sJ s1, sS, sJ g2, sS, sJ g3, sS, sR ct, sJ (s2 + (2 : Int64)), sS, sJ s2, sS, sU, sU, sU, sU, sU, sU, sU, sU, sU, sU, sU, sU, sU]) rfl k) ?_
    refine Go.st (S' := T167.setTop (mkF m 143 #[sI p1, sJ q2, sS, sJ q3, sS, sJ q4, sS, sJ q5, sS, sI n1, sI 3, sI t3, sI tr, sJ s1, sS, sJ g2, sS, sJ g3, sS, sR ct, sJ (s2 + (2 : Int64)), sS, sJ s2, sS, sU, sU, sU, sU, sU, sU, sU, sU, sU, sU, sU, sU, sU] [(.long (s2 + (2 : Int64)))])) (fun _ k => XS.lload X167.here hx rfl (hb hby at_141) rfl k) ?_
    refine Go.st (S' := T167.setTop (mkF m 146 #[sI p1, sJ q2, sS, sJ q3, sS, sJ q4, sS, sJ q5, sS, sI n1, sI 3, sI t3, sI tr, sJ s1, sS, sJ g2, sS, sJ g3, sS, sR ct, sJ (s2 + (2 : Int64)), sS, sJ s2, sS, sU, sU, sU, sU, sU, sU, sU, sU, sU, sU, sU, sU, sU] [(.long (2 : Int64)), (.long (s2 + (2 : Int64)))])) (X167.ldc2Long hx hown (mvT hZ (ww hw 41 rfl)) (g := (mkF m 143 #[sI p1, sJ q2, sS, sJ q3, sS, sJ q4, sS, sJ q5, sS, sI n1, sI 3, sI t3, sI tr, sJ s1, sS, sJ g2, sS, sJ g3, sS, sR ct, sJ (s2 + (2 : Int64)), sS, sJ s2, sS, sU, sU, sU, sU, sU, sU, sU, sU, sU, sU, sU, sU, sU] [(.long (s2 + (2 : Int64)))])) rfl (hb hby at_143)) ?_
    refine Go.st (fun _ k => XS.ladd X167.here hx rfl (hb hby at_146) rfl k) ?_
    refine Go.st (fun _ k => XS.lload X167.here hx rfl (hb hby at_147) rfl k) ?_
    refine Go.st (S' := T167.setTop (mkF m 150 #[sI p1, sJ q2, sS, sJ q3, sS, sJ q4, sS, sJ q5, sS, sI n1, sI 3, sI t3, sI tr, sJ s1, sS, sJ g2, sS, sJ g3, sS, sR ct, sJ (s2 + (2 : Int64)), sS, sJ s2, sS, sU, sU, sU, sU, sU, sU, sU, sU, sU, sU, sU, sU, sU] [(.long (((s2 + (2 : Int64)) + (2 : Int64)) + g3))])) (fun _ k => XS.ladd X167.here hx rfl (hb hby at_149) rfl k) ?_
    obtain ⟨s3, hd_s3⟩ : ∃ z : Int64, z = (((s2 + (2 : Int64)) + (2 : Int64)) + g3) := ⟨_, rfl⟩
    refine Go.st (S' := T167.setTop (mkF m 150 #[sI p1, sJ q2, sS, sJ q3, sS, sJ q4, sS, sJ q5, sS, sI n1, sI 3, sI t3, sI tr, sJ s1, sS, sJ g2, sS, sJ g3, sS, sR ct, sJ (s2 + (2 : Int64)), sS, sJ s2, sS, sU, sU, sU, sU, sU, sU, sU, sU, sU, sU, sU, sU, sU] [(.long s3)])) (fun _ k => by rw [hd_s3] at k; exact k) ?_
    refine Go.st (S' := T167.setTop (mkF m 152 #[sI p1, sJ q2, sS, sJ q3, sS, sJ q4, sS, sJ q5, sS, sI n1, sI 3, sI t3, sI tr, sJ s1, sS, sJ g2, sS, sJ g3, sS, sR ct, sJ (s2 + (2 : Int64)), sS, sJ s2, sS, sJ s3, sS, sU, sU, sU, sU, sU, sU, sU, sU, sU, sU, sU] [])) (fun _ k => XS.lstore X167.here hx rfl (hb hby at_150) rfl (l' := #[sI p1, sJ q2, sS, sJ q3, sS, sJ q4, sS, sJ q5, sS, sI n1, sI 3, sI t3, sI tr, sJ s1, sS, sJ g2, sS, sJ g3, sS, sR ct, sJ (s2 + (2 : Int64)), sS, sJ s2, sS, sJ s3, sS, sU, sU, sU, sU, sU, sU, sU, sU, sU, sU, sU]) rfl k) ?_
    exact rT l Z a0 hw w_NONE k_NONE hS p1 q2 q3 q4 q5 p e s m below meth c ⟨hx, hby, hml, hown, hnm, hret, hlk, hZ⟩ _ _ _ (X167.mono (by decide) (by decide)) rfl N167 O167 _ _ _ _ _ _ _ _ _ _ _ _ _ _ ((0 : Int32) + n1) (maxF ((0 : Int32) + n1) ((2 : Int32) * (0 : Int32))) (3 : Int32) (4 : Int32) _ _ gct (Ect.keep kp167) el167 ne_ct_ly167 flayout167 fnewest167 golderTimestamps167 golderTimes167 golderCount167 gfloor167 gslots167 vt167 vm167 va167 (by rw [own_o1]; decide) (by rcases hn with ⟨rfl, rfl⟩ | ⟨rfl, rfl⟩ | ⟨rfl, rfl⟩ <;> decide) (by rcases hn with ⟨rfl, rfl⟩ | ⟨rfl, rfl⟩ | ⟨rfl, rfl⟩ <;> decide) (by rcases hn with ⟨rfl, rfl⟩ | ⟨rfl, rfl⟩ | ⟨rfl, rfl⟩ <;> decide) (by rcases hn with ⟨rfl, rfl⟩ | ⟨rfl, rfl⟩ | ⟨rfl, rfl⟩ <;> decide) (by rcases hn with ⟨rfl, rfl⟩ | ⟨rfl, rfl⟩ | ⟨rfl, rfl⟩ <;> decide) (by rcases hn with ⟨rfl, rfl⟩ | ⟨rfl, rfl⟩ | ⟨rfl, rfl⟩ <;> decide) (by rcases hn with ⟨rfl, rfl⟩ | ⟨rfl, rfl⟩ | ⟨rfl, rfl⟩ <;> decide) (by rcases hn with ⟨rfl, rfl⟩ | ⟨rfl, rfl⟩ | ⟨rfl, rfl⟩ <;> decide) (fun q => own_gap (s2 + (2 : Int64)) g3 hg3 (hd_s3.symm.trans q)) hq3 hq4 (by rcases hn with ⟨rfl, rfl⟩ | ⟨rfl, rfl⟩ | ⟨rfl, rfl⟩ <;> decide) (by rcases hn with ⟨rfl, rfl⟩ | ⟨rfl, rfl⟩ | ⟨rfl, rfl⟩ <;> decide) (by rcases hn with ⟨rfl, rfl⟩ | ⟨rfl, rfl⟩ | ⟨rfl, rfl⟩ <;> decide) (by rcases hn with ⟨rfl, rfl⟩ | ⟨rfl, rfl⟩ | ⟨rfl, rfl⟩ <;> decide)
set_option maxRecDepth 65536 in
set_option maxHeartbeats 400000000 in
theorem rm0 (l : Launch) (Z : State) (a0 : Array Value) (hw : ∀ d ∈ tables_1, d.before a0 Z = true) (ws : List Jvm.Cond) (w_NONE : Addr) (k_NONE : ClassId) (hS : SF Z w_NONE k_NONE) (p1 : Int32) (q2 : Int64) (q3 : Int64) (q4 : Int64) (q5 : Int64) (h0 : Heap) (O0 : Ext Z.heap h0)  :
    Con l Z h0 x code maxLocals ret ws room_1 #[(.int p1), (.long q2), (.long q3), (.long q4), (.long q5)] (fun v h L => v = some (.int 1) ∧ Fr Z.heap.size L) := by
  obtain ⟨S_NONE, E_NONE, V_NONE⟩ := id hS
  refine own_con (plainFor_of_name pn_531690) ?_
  intro p e s m below meth c T0 X0 hx hby hml hown hnm hret hlk hZ e0
  have hown : s.vm.findClass "com/example/palimpsest/palimpsest/CommitTimesHeapBytesPinLaw" = some m.cls := hown
  have N0 := Fr.nil Z.heap.size
  refine Go.st (S' := T0.setTop (mkF m 0 #[sI p1, sJ q2, sS, sJ q3, sS, sJ q4, sS, sJ q5, sS, sU, sU, sU, sU, sU, sU, sU, sU, sU, sU, sU, sU, sU, sU, sU, sU, sU, sU, sU, sU, sU, sU, sU, sU, sU, sU, sU, sU] [])) (fun _ k => castTop (ef_rm0 m p1 q2 q3 q4 q5) k) ?_
  refine Go.st (fun _ k => XS.iloadN X0.here hx rfl (hb hby at_0) rfl k) ?_
  refine Go.st (fun _ k => XS.iconst X0.here hx rfl (hb hby at_1) k) ?_
  refine Go.st (S' := T0.setTop (mkF m 3 #[sI p1, sJ q2, sS, sJ q3, sS, sJ q4, sS, sJ q5, sS, sU, sU, sU, sU, sU, sU, sU, sU, sU, sU, sU, sU, sU, sU, sU, sU, sU, sU, sU, sU, sU, sU, sU, sU, sU, sU, sU, sU] [(.int (p1 &&& (3 : Int32)))])) (fun _ k => XS.iand X0.here hx rfl (hb hby at_2) rfl k) ?_
  obtain ⟨n1, hn1⟩ : ∃ z : Int32, z = (p1 &&& (3 : Int32)) := ⟨_, rfl⟩
  refine Go.st (S' := T0.setTop (mkF m 3 #[sI p1, sJ q2, sS, sJ q3, sS, sJ q4, sS, sJ q5, sS, sU, sU, sU, sU, sU, sU, sU, sU, sU, sU, sU, sU, sU, sU, sU, sU, sU, sU, sU, sU, sU, sU, sU, sU, sU, sU, sU, sU] [(.int n1)])) (fun _ k => by rw [hn1] at k; exact k) ?_
  have hq1 := own_c4 p1
  rw [← hn1] at hq1
  refine Go.st (fun _ k => XS.istore X0.here hx rfl (hb hby at_3) rfl (l' := #[sI p1, sJ q2, sS, sJ q3, sS, sJ q4, sS, sJ q5, sS, sI n1, sU, sU, sU, sU, sU, sU, sU, sU, sU, sU, sU, sU, sU, sU, sU, sU, sU, sU, sU, sU, sU, sU, sU, sU, sU, sU, sU]) rfl k) ?_
  refine Go.st (fun _ k => XS.iloadN X0.here hx rfl (hb hby at_5) rfl k) ?_
  refine Go.st (S' := T0.setTop (mkF m 7 #[sI p1, sJ q2, sS, sJ q3, sS, sJ q4, sS, sJ q5, sS, sI n1, sU, sU, sU, sU, sU, sU, sU, sU, sU, sU, sU, sU, sU, sU, sU, sU, sU, sU, sU, sU, sU, sU, sU, sU, sU, sU, sU] [(.int (2 : Int32)), (.int p1)])) (fun _ k => XS.iconst X0.here hx rfl (hb hby at_6) k) ?_
  refine Go.st (fun _ k => XS.iushr X0.here hx rfl (hb hby at_7) rfl k) ?_
  refine Go.st (fun _ k => XS.iconst X0.here hx rfl (hb hby at_8) k) ?_
  refine Go.st (S' := T0.setTop (mkF m 10 #[sI p1, sJ q2, sS, sJ q3, sS, sJ q4, sS, sJ q5, sS, sI n1, sU, sU, sU, sU, sU, sU, sU, sU, sU, sU, sU, sU, sU, sU, sU, sU, sU, sU, sU, sU, sU, sU, sU, sU, sU, sU, sU] [(.int (((p1.toUInt32 >>> ((2 : Int32) &&& 31).toUInt32).toInt32) &&& (3 : Int32)))])) (fun _ k => XS.iand X0.here hx rfl (hb hby at_9) rfl k) ?_
  obtain ⟨n2, hn2⟩ : ∃ z : Int32, z = (((p1.toUInt32 >>> ((2 : Int32) &&& 31).toUInt32).toInt32) &&& (3 : Int32)) := ⟨_, rfl⟩
  refine Go.st (S' := T0.setTop (mkF m 10 #[sI p1, sJ q2, sS, sJ q3, sS, sJ q4, sS, sJ q5, sS, sI n1, sU, sU, sU, sU, sU, sU, sU, sU, sU, sU, sU, sU, sU, sU, sU, sU, sU, sU, sU, sU, sU, sU, sU, sU, sU, sU, sU] [(.int n2)])) (fun _ k => by rw [hn2] at k; exact k) ?_
  have hq2 := own_c4 ((p1.toUInt32 >>> ((2 : Int32) &&& 31).toUInt32).toInt32)
  rw [← hn2] at hq2
  refine Go.st (fun _ k => XS.istore X0.here hx rfl (hb hby at_10) rfl (l' := #[sI p1, sJ q2, sS, sJ q3, sS, sJ q4, sS, sJ q5, sS, sI n1, sI n2, sU, sU, sU, sU, sU, sU, sU, sU, sU, sU, sU, sU, sU, sU, sU, sU, sU, sU, sU, sU, sU, sU, sU, sU, sU, sU]) rfl k) ?_
  refine Go.st (fun _ k => XS.iloadN X0.here hx rfl (hb hby at_12) rfl k) ?_
  refine Go.st (S' := T0.setTop (mkF m 14 #[sI p1, sJ q2, sS, sJ q3, sS, sJ q4, sS, sJ q5, sS, sI n1, sI n2, sU, sU, sU, sU, sU, sU, sU, sU, sU, sU, sU, sU, sU, sU, sU, sU, sU, sU, sU, sU, sU, sU, sU, sU, sU, sU] [(.int (4 : Int32)), (.int p1)])) (fun _ k => XS.iconst X0.here hx rfl (hb hby at_13) k) ?_
  refine Go.st (fun _ k => XS.iushr X0.here hx rfl (hb hby at_14) rfl k) ?_
  refine Go.st (fun _ k => XS.iconst X0.here hx rfl (hb hby at_15) k) ?_
  refine Go.st (S' := T0.setTop (mkF m 17 #[sI p1, sJ q2, sS, sJ q3, sS, sJ q4, sS, sJ q5, sS, sI n1, sI n2, sU, sU, sU, sU, sU, sU, sU, sU, sU, sU, sU, sU, sU, sU, sU, sU, sU, sU, sU, sU, sU, sU, sU, sU, sU, sU] [(.int (((p1.toUInt32 >>> ((4 : Int32) &&& 31).toUInt32).toInt32) &&& (1 : Int32)))])) (fun _ k => XS.iand X0.here hx rfl (hb hby at_16) rfl k) ?_
  have k3 : ∀ (t3 : Int32) (hq3 : t3 = 0 ∨ t3 = 1), Go p e below (Ret s (fun v h L => v = some (.int 1) ∧ Fr Z.heap.size L) room_1.cells room_1.slots) (T0.setTop (mkF m 25 #[sI p1, sJ q2, sS, sJ q3, sS, sJ q4, sS, sJ q5, sS, sI n1, sI n2, sU, sU, sU, sU, sU, sU, sU, sU, sU, sU, sU, sU, sU, sU, sU, sU, sU, sU, sU, sU, sU, sU, sU, sU, sU, sU] [(.int t3)])) := by
    intro t3 hq3
    refine Go.st (fun _ k => XS.istore X0.here hx rfl (hb hby at_25) rfl (l' := #[sI p1, sJ q2, sS, sJ q3, sS, sJ q4, sS, sJ q5, sS, sI n1, sI n2, sI t3, sU, sU, sU, sU, sU, sU, sU, sU, sU, sU, sU, sU, sU, sU, sU, sU, sU, sU, sU, sU, sU, sU, sU, sU, sU]) rfl k) ?_
    refine Go.st (fun _ k => XS.iloadN X0.here hx rfl (hb hby at_27) rfl k) ?_
    refine Go.st (S' := T0.setTop (mkF m 29 #[sI p1, sJ q2, sS, sJ q3, sS, sJ q4, sS, sJ q5, sS, sI n1, sI n2, sI t3, sU, sU, sU, sU, sU, sU, sU, sU, sU, sU, sU, sU, sU, sU, sU, sU, sU, sU, sU, sU, sU, sU, sU, sU, sU] [(.int (5 : Int32)), (.int p1)])) (fun _ k => XS.iconst X0.here hx rfl (hb hby at_28) k) ?_
    refine Go.st (fun _ k => XS.iushr X0.here hx rfl (hb hby at_29) rfl k) ?_
    refine Go.st (fun _ k => XS.iconst X0.here hx rfl (hb hby at_30) k) ?_
    refine Go.st (S' := T0.setTop (mkF m 32 #[sI p1, sJ q2, sS, sJ q3, sS, sJ q4, sS, sJ q5, sS, sI n1, sI n2, sI t3, sU, sU, sU, sU, sU, sU, sU, sU, sU, sU, sU, sU, sU, sU, sU, sU, sU, sU, sU, sU, sU, sU, sU, sU, sU] [(.int (((p1.toUInt32 >>> ((5 : Int32) &&& 31).toUInt32).toInt32) &&& (1 : Int32)))])) (fun _ k => XS.iand X0.here hx rfl (hb hby at_31) rfl k) ?_
    have k4 : ∀ (tr : Int32) (hq4 : tr = 0 ∨ tr = 1), Go p e below (Ret s (fun v h L => v = some (.int 1) ∧ Fr Z.heap.size L) room_1.cells room_1.slots) (T0.setTop (mkF m 40 #[sI p1, sJ q2, sS, sJ q3, sS, sJ q4, sS, sJ q5, sS, sI n1, sI n2, sI t3, sU, sU, sU, sU, sU, sU, sU, sU, sU, sU, sU, sU, sU, sU, sU, sU, sU, sU, sU, sU, sU, sU, sU, sU, sU] [(.int tr)])) := by
      intro tr hq4
      refine Go.st (fun _ k => XS.istore X0.here hx rfl (hb hby at_40) rfl (l' := #[sI p1, sJ q2, sS, sJ q3, sS, sJ q4, sS, sJ q5, sS, sI n1, sI n2, sI t3, sI tr, sU, sU, sU, sU, sU, sU, sU, sU, sU, sU, sU, sU, sU, sU, sU, sU, sU, sU, sU, sU, sU, sU, sU, sU]) rfl k) ?_
      refine Go.st (fun _ k => XS.lconst X0.here hx rfl (hb hby at_42) k) ?_
      refine Go.st (S' := T0.setTop (mkF m 44 #[sI p1, sJ q2, sS, sJ q3, sS, sJ q4, sS, sJ q5, sS, sI n1, sI n2, sI t3, sI tr, sU, sU, sU, sU, sU, sU, sU, sU, sU, sU, sU, sU, sU, sU, sU, sU, sU, sU, sU, sU, sU, sU, sU, sU] [(.long q2), (.long (1 : Int64))])) (fun _ k => XS.lloadN X0.here hx rfl (hb hby at_43) rfl k) ?_
      refine Go.st (S' := T0.setTop (mkF m 47 #[sI p1, sJ q2, sS, sJ q3, sS, sJ q4, sS, sJ q5, sS, sI n1, sI n2, sI t3, sI tr, sU, sU, sU, sU, sU, sU, sU, sU, sU, sU, sU, sU, sU, sU, sU, sU, sU, sU, sU, sU, sU, sU, sU, sU] [(.long (2305843009213693951 : Int64)), (.long q2), (.long (1 : Int64))])) (X0.ldc2Long hx hown (mvT hZ (ww hw 0 rfl)) (g := (mkF m 44 #[sI p1, sJ q2, sS, sJ q3, sS, sJ q4, sS, sJ q5, sS, sI n1, sI n2, sI t3, sI tr, sU, sU, sU, sU, sU, sU, sU, sU, sU, sU, sU, sU, sU, sU, sU, sU, sU, sU, sU, sU, sU, sU, sU, sU] [(.long q2), (.long (1 : Int64))])) rfl (hb hby at_44)) ?_
      refine Go.st (fun _ k => XS.land X0.here hx rfl (hb hby at_47) rfl k) ?_
      refine Go.st (S' := T0.setTop (mkF m 49 #[sI p1, sJ q2, sS, sJ q3, sS, sJ q4, sS, sJ q5, sS, sI n1, sI n2, sI t3, sI tr, sU, sU, sU, sU, sU, sU, sU, sU, sU, sU, sU, sU, sU, sU, sU, sU, sU, sU, sU, sU, sU, sU, sU, sU] [(.long ((1 : Int64) + (q2 &&& (2305843009213693951 : Int64))))])) (fun _ k => XS.ladd X0.here hx rfl (hb hby at_48) rfl k) ?_
      obtain ⟨s1, hd_s1⟩ : ∃ z : Int64, z = ((1 : Int64) + (q2 &&& (2305843009213693951 : Int64))) := ⟨_, rfl⟩
      refine Go.st (S' := T0.setTop (mkF m 49 #[sI p1, sJ q2, sS, sJ q3, sS, sJ q4, sS, sJ q5, sS, sI n1, sI n2, sI t3, sI tr, sU, sU, sU, sU, sU, sU, sU, sU, sU, sU, sU, sU, sU, sU, sU, sU, sU, sU, sU, sU, sU, sU, sU, sU] [(.long s1)])) (fun _ k => by rw [hd_s1] at k; exact k) ?_
      refine Go.st (fun _ k => XS.lstore X0.here hx rfl (hb hby at_49) rfl (l' := #[sI p1, sJ q2, sS, sJ q3, sS, sJ q4, sS, sJ q5, sS, sI n1, sI n2, sI t3, sI tr, sJ s1, sS, sU, sU, sU, sU, sU, sU, sU, sU, sU, sU, sU, sU, sU, sU, sU, sU, sU, sU, sU, sU, sU, sU]) rfl k) ?_
      refine Go.st (S' := T0.setTop (mkF m 52 #[sI p1, sJ q2, sS, sJ q3, sS, sJ q4, sS, sJ q5, sS, sI n1, sI n2, sI t3, sI tr, sJ s1, sS, sU, sU, sU, sU, sU, sU, sU, sU, sU, sU, sU, sU, sU, sU, sU, sU, sU, sU, sU, sU, sU, sU] [(.long q3)])) (fun _ k => XS.lloadN X0.here hx rfl (hb hby at_51) rfl k) ?_
      refine Go.st (S' := T0.setTop (mkF m 55 #[sI p1, sJ q2, sS, sJ q3, sS, sJ q4, sS, sJ q5, sS, sI n1, sI n2, sI t3, sI tr, sJ s1, sS, sU, sU, sU, sU, sU, sU, sU, sU, sU, sU, sU, sU, sU, sU, sU, sU, sU, sU, sU, sU, sU, sU] [(.long (1152921504606846975 : Int64)), (.long q3)])) (X0.ldc2Long hx hown (mvT hZ (ww hw 1 rfl)) (g := (mkF m 52 #[sI p1, sJ q2, sS, sJ q3, sS, sJ q4, sS, sJ q5, sS, sI n1, sI n2, sI t3, sI tr, sJ s1, sS, sU, sU, sU, sU, sU, sU, sU, sU, sU, sU, sU, sU, sU, sU, sU, sU, sU, sU, sU, sU, sU, sU] [(.long q3)])) rfl (hb hby at_52)) ?_
      refine Go.st (S' := T0.setTop (mkF m 56 #[sI p1, sJ q2, sS, sJ q3, sS, sJ q4, sS, sJ q5, sS, sI n1, sI n2, sI t3, sI tr, sJ s1, sS, sU, sU, sU, sU, sU, sU, sU, sU, sU, sU, sU, sU, sU, sU, sU, sU, sU, sU, sU, sU, sU, sU] [(.long (q3 &&& (1152921504606846975 : Int64)))])) (fun _ k => XS.land X0.here hx rfl (hb hby at_55) rfl k) ?_
      obtain ⟨g2, hd_g2⟩ : ∃ z : Int64, z = (q3 &&& (1152921504606846975 : Int64)) := ⟨_, rfl⟩
      refine Go.st (S' := T0.setTop (mkF m 56 #[sI p1, sJ q2, sS, sJ q3, sS, sJ q4, sS, sJ q5, sS, sI n1, sI n2, sI t3, sI tr, sJ s1, sS, sU, sU, sU, sU, sU, sU, sU, sU, sU, sU, sU, sU, sU, sU, sU, sU, sU, sU, sU, sU, sU, sU] [(.long g2)])) (fun _ k => by rw [hd_g2] at k; exact k) ?_
      have hg2 := own_m60 q3
      rw [← hd_g2] at hg2
      refine Go.st (fun _ k => XS.lstore X0.here hx rfl (hb hby at_56) rfl (l' := #[sI p1, sJ q2, sS, sJ q3, sS, sJ q4, sS, sJ q5, sS, sI n1, sI n2, sI t3, sI tr, sJ s1, sS, sJ g2, sS, sU, sU, sU, sU, sU, sU, sU, sU, sU, sU, sU, sU, sU, sU, sU, sU, sU, sU, sU, sU]) rfl k) ?_
      refine Go.st (S' := T0.setTop (mkF m 60 #[sI p1, sJ q2, sS, sJ q3, sS, sJ q4, sS, sJ q5, sS, sI n1, sI n2, sI t3, sI tr, sJ s1, sS, sJ g2, sS, sU, sU, sU, sU, sU, sU, sU, sU, sU, sU, sU, sU, sU, sU, sU, sU, sU, sU, sU, sU] [(.long q4)])) (fun _ k => XS.lload X0.here hx rfl (hb hby at_58) rfl k) ?_
      refine Go.st (S' := T0.setTop (mkF m 63 #[sI p1, sJ q2, sS, sJ q3, sS, sJ q4, sS, sJ q5, sS, sI n1, sI n2, sI t3, sI tr, sJ s1, sS, sJ g2, sS, sU, sU, sU, sU, sU, sU, sU, sU, sU, sU, sU, sU, sU, sU, sU, sU, sU, sU, sU, sU] [(.long (1152921504606846975 : Int64)), (.long q4)])) (X0.ldc2Long hx hown (mvT hZ (ww hw 1 rfl)) (g := (mkF m 60 #[sI p1, sJ q2, sS, sJ q3, sS, sJ q4, sS, sJ q5, sS, sI n1, sI n2, sI t3, sI tr, sJ s1, sS, sJ g2, sS, sU, sU, sU, sU, sU, sU, sU, sU, sU, sU, sU, sU, sU, sU, sU, sU, sU, sU, sU, sU] [(.long q4)])) rfl (hb hby at_60)) ?_
      refine Go.st (S' := T0.setTop (mkF m 64 #[sI p1, sJ q2, sS, sJ q3, sS, sJ q4, sS, sJ q5, sS, sI n1, sI n2, sI t3, sI tr, sJ s1, sS, sJ g2, sS, sU, sU, sU, sU, sU, sU, sU, sU, sU, sU, sU, sU, sU, sU, sU, sU, sU, sU, sU, sU] [(.long (q4 &&& (1152921504606846975 : Int64)))])) (fun _ k => XS.land X0.here hx rfl (hb hby at_63) rfl k) ?_
      obtain ⟨g3, hd_g3⟩ : ∃ z : Int64, z = (q4 &&& (1152921504606846975 : Int64)) := ⟨_, rfl⟩
      refine Go.st (S' := T0.setTop (mkF m 64 #[sI p1, sJ q2, sS, sJ q3, sS, sJ q4, sS, sJ q5, sS, sI n1, sI n2, sI t3, sI tr, sJ s1, sS, sJ g2, sS, sU, sU, sU, sU, sU, sU, sU, sU, sU, sU, sU, sU, sU, sU, sU, sU, sU, sU, sU, sU] [(.long g3)])) (fun _ k => by rw [hd_g3] at k; exact k) ?_
      have hg3 := own_m60 q4
      rw [← hd_g3] at hg3
      refine Go.st (S' := T0.setTop (mkF m 66 #[sI p1, sJ q2, sS, sJ q3, sS, sJ q4, sS, sJ q5, sS, sI n1, sI n2, sI t3, sI tr, sJ s1, sS, sJ g2, sS, sJ g3, sS, sU, sU, sU, sU, sU, sU, sU, sU, sU, sU, sU, sU, sU, sU, sU, sU, sU, sU] [])) (fun _ k => XS.lstore X0.here hx rfl (hb hby at_64) rfl (l' := #[sI p1, sJ q2, sS, sJ q3, sS, sJ q4, sS, sJ q5, sS, sI n1, sI n2, sI t3, sI tr, sJ s1, sS, sJ g2, sS, sJ g3, sS, sU, sU, sU, sU, sU, sU, sU, sU, sU, sU, sU, sU, sU, sU, sU, sU, sU, sU]) rfl k) ?_
      obtain ⟨T142, h142, X142, e142, E142, A142, D142, -, st142⟩ := newO X0 hx hZ hown (ww hw 2 rfl) (ww hw 3 rfl) (ww hw 4 rfl) e0 (g := (mkF m 66 #[sI p1, sJ q2, sS, sJ q3, sS, sJ q4, sS, sJ q5, sS, sI n1, sI n2, sI t3, sI tr, sJ s1, sS, sJ g2, sS, sJ g3, sS, sU, sU, sU, sU, sU, sU, sU, sU, sU, sU, sU, sU, sU, sU, sU, sU, sU, sU] [])) rfl (hb hby at_66) (by decide) (by decide)
      obtain ⟨b142, g142⟩ : ∃ z, z = h0.size := ⟨_, rfl⟩
      rw [← g142] at A142 D142 st142
      have gz142 : Z.heap.size ≤ b142 := Nat.le_trans O0.1 (Nat.le_of_eq g142.symm)
      have O142 : Ext Z.heap h142 := own_Ext.trans O0 E142
      have F142_layout : Fld Z h142 b142 "com/example/palimpsest/palimpsest/CommitTimes" "layout" "Lcom/example/palimpsest/palimpsest/CommitTimes$Layout;" .null := D142 (Or.inl (ww hw 36 rfl)) (ty := (.object "com/example/palimpsest/palimpsest/CommitTimes$Layout")) pf_770827
      have F142_newest : Fld Z h142 b142 "com/example/palimpsest/palimpsest/CommitTimes" "newest" "J" (.long (0 : Int64)) := D142 (Or.inl (ww hw 62 rfl)) (ty := .long) pf_991
      refine Go.st (S' := T142.setTop (mkF m 69 #[sI p1, sJ q2, sS, sJ q3, sS, sJ q4, sS, sJ q5, sS, sI n1, sI n2, sI t3, sI tr, sJ s1, sS, sJ g2, sS, sJ g3, sS, sU, sU, sU, sU, sU, sU, sU, sU, sU, sU, sU, sU, sU, sU, sU, sU, sU, sU] [(.ref b142)])) st142 ?_
      refine Go.st (S' := T142.setTop (mkF m 70 #[sI p1, sJ q2, sS, sJ q3, sS, sJ q4, sS, sJ q5, sS, sI n1, sI n2, sI t3, sI tr, sJ s1, sS, sJ g2, sS, sJ g3, sS, sU, sU, sU, sU, sU, sU, sU, sU, sU, sU, sU, sU, sU, sU, sU, sU, sU, sU] [(.ref b142), (.ref b142)])) (fun _ k => XS.dup X142.here hx rfl (hb hby at_69) rfl rfl k) ?_
      obtain ⟨_, T143, L143, X143, ⟨rfl, Nq143, kp143, ly143, sl143, el143, golderTimestamps143, golderTimes143, golderCount143, gfloor143, gslots143, flayout143, fnewest143⟩, st143⟩ := own_callI X142 hx hZ rfl hown (ww hw 5 rfl) (ww hw 6 rfl) (ww hw 4 rfl) (ww hw 7 rfl) (by decide) e142 (rmCT l Z a0 hw [] w_NONE k_NONE hS b142 h142 O142 gz142 A142 F142_layout F142_newest) 1 (by decide) (by decide) (by decide) (by decide) (g := (mkF m 70 #[sI p1, sJ q2, sS, sJ q3, sS, sJ q4, sS, sJ q5, sS, sI n1, sI n2, sI t3, sI tr, sJ s1, sS, sJ g2, sS, sJ g3, sS, sU, sU, sU, sU, sU, sU, sU, sU, sU, sU, sU, sU, sU, sU, sU, sU, sU, sU] [(.ref b142), (.ref b142)])) rfl (by rw [hml]; rfl) [] [(.ref b142)] rfl (lenOf pd_428486 rfl) rfl (by show 2 * 0 + _ ≤ _; exact Nat.le_of_eq rfl) (hb hby at_70)
      have N143 := Fr.app N0 Nq143
      have ne_b142_ly143 : b142 ≠ ly143 := own_lt_ne' A142.lt sl143
      have O143 : Ext Z.heap T143.heap := own_Ext.keep O142 kp143 (allS gz142 all0)
      refine Go.st (S' := T143.setTop (mkF m 73 #[sI p1, sJ q2, sS, sJ q3, sS, sJ q4, sS, sJ q5, sS, sI n1, sI n2, sI t3, sI tr, sJ s1, sS, sJ g2, sS, sJ g3, sS, sU, sU, sU, sU, sU, sU, sU, sU, sU, sU, sU, sU, sU, sU, sU, sU, sU, sU] [(.ref b142)])) st143 ?_
      refine Go.st (fun _ k => XS.astore X143.here hx rfl (hb hby at_73) rfl rfl (l' := #[sI p1, sJ q2, sS, sJ q3, sS, sJ q4, sS, sJ q5, sS, sI n1, sI n2, sI t3, sI tr, sJ s1, sS, sJ g2, sS, sJ g3, sS, sR b142, sU, sU, sU, sU, sU, sU, sU, sU, sU, sU, sU, sU, sU, sU, sU, sU, sU]) rfl k) ?_
      refine Go.st (fun _ k => XS.lconst X143.here hx rfl (hb hby at_75) k) ?_
      refine Go.st (fun _ k => XS.lstore X143.here hx rfl (hb hby at_76) rfl (l' := #[sI p1, sJ q2, sS, sJ q3, sS, sJ q4, sS, sJ q5, sS, sI n1, sI n2, sI t3, sI tr, sJ s1, sS, sJ g2, sS, sJ g3, sS, sR b142, sJ 0, sS, sU, sU, sU, sU, sU, sU, sU, sU, sU, sU, sU, sU, sU, sU, sU]) rfl k) ?_
      refine Go.st (fun _ k => XS.aload X143.here hx rfl (hb hby at_78) rfl rfl k) ?_
      refine Go.st (S' := T143.setTop (mkF m 82 #[sI p1, sJ q2, sS, sJ q3, sS, sJ q4, sS, sJ q5, sS, sI n1, sI n2, sI t3, sI tr, sJ s1, sS, sJ g2, sS, sJ g3, sS, sR b142, sJ 0, sS, sU, sU, sU, sU, sU, sU, sU, sU, sU, sU, sU, sU, sU, sU, sU] [(.long s1), (.ref b142)])) (fun _ k => XS.lload X143.here hx rfl (hb hby at_80) rfl k) ?_
      rcases hq1 with rfl | rfl | rfl | rfl
      · refine Go.st (fun _ k => XS.iload X143.here hx rfl (hb hby at_82) rfl k) ?_
        refine Go.st (S' := T143.setTop (mkF m 86 #[sI p1, sJ q2, sS, sJ q3, sS, sJ q4, sS, sJ q5, sS, sI 0, sI n2, sI t3, sI tr, sJ s1, sS, sJ g2, sS, sJ g3, sS, sR b142, sJ 0, sS, sU, sU, sU, sU, sU, sU, sU, sU, sU, sU, sU, sU, sU, sU, sU] [(.long q5), (.int (0 : Int32)), (.long s1), (.ref b142)])) (fun _ k => XS.lload X143.here hx rfl (hb hby at_84) rfl k) ?_
        obtain ⟨_, T144, L144, X144, ⟨rfl, Nq144, eq144⟩, st144⟩ := own_callS X143 hx hZ hown (ww hw 37 rfl) (ww hw 38 rfl) (ww hw 39 rfl) (ww hw 40 rfl) (by decide) rfl (rmR0 l Z a0 hw [] w_NONE k_NONE hS b142 s1 q5 T143.heap O143) 0 (by decide) (by decide) (by decide) (by decide) (g := (mkF m 86 #[sI p1, sJ q2, sS, sJ q3, sS, sJ q4, sS, sJ q5, sS, sI 0, sI n2, sI t3, sI tr, sJ s1, sS, sJ g2, sS, sJ g3, sS, sR b142, sJ 0, sS, sU, sU, sU, sU, sU, sU, sU, sU, sU, sU, sU, sU, sU, sU, sU] [(.long q5), (.int (0 : Int32)), (.long s1), (.ref b142)])) rfl (by rw [hml]; rfl) [(.ref b142), (.long s1), (.int (0 : Int32)), (.long q5)] [] rfl (lenOf pd_502958 rfl) rfl (by show 2 * 0 + _ ≤ _; exact Nat.le_of_eq rfl) (hb hby at_86)
        have N144 := Fr.app N143 Nq144
        refine Go.st (S' := T144.setTop (mkF m 89 #[sI p1, sJ q2, sS, sJ q3, sS, sJ q4, sS, sJ q5, sS, sI 0, sI n2, sI t3, sI tr, sJ s1, sS, sJ g2, sS, sJ g3, sS, sR b142, sJ 0, sS, sU, sU, sU, sU, sU, sU, sU, sU, sU, sU, sU, sU, sU, sU, sU] [])) st144 ?_
        refine Go.st (S' := T144.setTop (mkF m 91 #[sI p1, sJ q2, sS, sJ q3, sS, sJ q4, sS, sJ q5, sS, sI 0, sI n2, sI t3, sI tr, sJ s1, sS, sJ g2, sS, sJ g3, sS, sR b142, sJ 0, sS, sU, sU, sU, sU, sU, sU, sU, sU, sU, sU, sU, sU, sU, sU, sU] [(.int (0 : Int32))])) (fun _ k => XS.iload X144.here hx rfl (hb hby at_89) rfl k) ?_
        refine Go.st (fun _ k => XS.ifYes X144.here hx rfl (pc0 := 91) (pc' := 104) rfl (hb hby at_91) rfl ((if0 _ _).trans (flt (by decide)).2.2.2) (by decide) (by decide) k) ?_
        refine Go.st (S' := T144.setTop (mkF m 106 #[sI p1, sJ q2, sS, sJ q3, sS, sJ q4, sS, sJ q5, sS, sI 0, sI n2, sI t3, sI tr, sJ s1, sS, sJ g2, sS, sJ g3, sS, sR b142, sJ 0, sS, sU, sU, sU, sU, sU, sU, sU, sU, sU, sU, sU, sU, sU, sU, sU] [(.long (0 : Int64))])) (fun _ k => XS.lload X144.here hx rfl (hb hby at_104) rfl k) ?_
        refine Go.st (S' := T144.setTop (mkF m 109 #[sI p1, sJ q2, sS, sJ q3, sS, sJ q4, sS, sJ q5, sS, sI 0, sI n2, sI t3, sI tr, sJ s1, sS, sJ g2, sS, sJ g3, sS, sR b142, sJ 0, sS, sU, sU, sU, sU, sU, sU, sU, sU, sU, sU, sU, sU, sU, sU, sU] [(.long (2 : Int64)), (.long (0 : Int64))])) (X144.ldc2Long hx hown (mvT hZ (ww hw 41 rfl)) (g := (mkF m 106 #[sI p1, sJ q2, sS, sJ q3, sS, sJ q4, sS, sJ q5, sS, sI 0, sI n2, sI t3, sI tr, sJ s1, sS, sJ g2, sS, sJ g3, sS, sR b142, sJ 0, sS, sU, sU, sU, sU, sU, sU, sU, sU, sU, sU, sU, sU, sU, sU, sU] [(.long (0 : Int64))])) rfl (hb hby at_106)) ?_
        refine Go.st (fun _ k => XS.ladd X144.here hx rfl (hb hby at_109) rfl k) ?_
        refine Go.st (fun _ k => XS.lload X144.here hx rfl (hb hby at_110) rfl k) ?_
        refine Go.st (S' := T144.setTop (mkF m 113 #[sI p1, sJ q2, sS, sJ q3, sS, sJ q4, sS, sJ q5, sS, sI 0, sI n2, sI t3, sI tr, sJ s1, sS, sJ g2, sS, sJ g3, sS, sR b142, sJ 0, sS, sU, sU, sU, sU, sU, sU, sU, sU, sU, sU, sU, sU, sU, sU, sU] [(.long ((2 : Int64) + g2))])) (fun _ k => XS.ladd X144.here hx rfl (hb hby at_112) rfl k) ?_
        obtain ⟨s2, hd_s2⟩ : ∃ z : Int64, z = ((2 : Int64) + g2) := ⟨_, rfl⟩
        refine Go.st (S' := T144.setTop (mkF m 113 #[sI p1, sJ q2, sS, sJ q3, sS, sJ q4, sS, sJ q5, sS, sI 0, sI n2, sI t3, sI tr, sJ s1, sS, sJ g2, sS, sJ g3, sS, sR b142, sJ 0, sS, sU, sU, sU, sU, sU, sU, sU, sU, sU, sU, sU, sU, sU, sU, sU] [(.long s2)])) (fun _ k => by rw [hd_s2] at k; exact k) ?_
        refine Go.st (S' := T144.setTop (mkF m 115 #[sI p1, sJ q2, sS, sJ q3, sS, sJ q4, sS, sJ q5, sS, sI 0, sI n2, sI t3, sI tr, sJ s1, sS, sJ g2, sS, sJ g3, sS, sR b142, sJ 0, sS, sJ s2, sS, sU, sU, sU, sU, sU, sU, sU, sU, sU, sU, sU, sU, sU] [])) (fun _ k => XS.lstore X144.here hx rfl (hb hby at_113) rfl (l' := #[sI p1, sJ q2, sS, sJ q3, sS, sJ q4, sS, sJ q5, sS, sI 0, sI n2, sI t3, sI tr, sJ s1, sS, sJ g2, sS, sJ g3, sS, sR b142, sJ 0, sS, sJ s2, sS, sU, sU, sU, sU, sU, sU, sU, sU, sU, sU, sU, sU, sU]) rfl k) ?_
        refine Go.st (fun _ k => XS.aload X144.here hx rfl (hb hby at_115) rfl rfl k) ?_
        refine Go.st (S' := T144.setTop (mkF m 119 #[sI p1, sJ q2, sS, sJ q3, sS, sJ q4, sS, sJ q5, sS, sI 0, sI n2, sI t3, sI tr, sJ s1, sS, sJ g2, sS, sJ g3, sS, sR b142, sJ 0, sS, sJ s2, sS, sU, sU, sU, sU, sU, sU, sU, sU, sU, sU, sU, sU, sU] [(.long s2), (.ref b142)])) (fun _ k => XS.lload X144.here hx rfl (hb hby at_117) rfl k) ?_
        rcases hq2 with rfl | rfl | rfl | rfl
        · refine Go.st (fun _ k => XS.iload X144.here hx rfl (hb hby at_119) rfl k) ?_
          refine Go.st (S' := T144.setTop (mkF m 123 #[sI p1, sJ q2, sS, sJ q3, sS, sJ q4, sS, sJ q5, sS, sI 0, sI 0, sI t3, sI tr, sJ s1, sS, sJ g2, sS, sJ g3, sS, sR b142, sJ 0, sS, sJ s2, sS, sU, sU, sU, sU, sU, sU, sU, sU, sU, sU, sU, sU, sU] [(.long q5), (.int (0 : Int32)), (.long s2), (.ref b142)])) (fun _ k => XS.lload X144.here hx rfl (hb hby at_121) rfl k) ?_
          obtain ⟨_, T145, L145, X145, ⟨rfl, Nq145, eq145⟩, st145⟩ := own_callS X144 hx hZ hown (ww hw 37 rfl) (ww hw 38 rfl) (ww hw 39 rfl) (ww hw 40 rfl) (by decide) eq144 (rmR0 l Z a0 hw [] w_NONE k_NONE hS b142 s2 q5 T143.heap O143) 0 (by decide) (by decide) (by decide) (by decide) (g := (mkF m 123 #[sI p1, sJ q2, sS, sJ q3, sS, sJ q4, sS, sJ q5, sS, sI 0, sI 0, sI t3, sI tr, sJ s1, sS, sJ g2, sS, sJ g3, sS, sR b142, sJ 0, sS, sJ s2, sS, sU, sU, sU, sU, sU, sU, sU, sU, sU, sU, sU, sU, sU] [(.long q5), (.int (0 : Int32)), (.long s2), (.ref b142)])) rfl (by rw [hml]; rfl) [(.ref b142), (.long s2), (.int (0 : Int32)), (.long q5)] [] rfl (lenOf pd_502958 rfl) rfl (by show 2 * 0 + _ ≤ _; exact Nat.le_of_eq rfl) (hb hby at_123)
          have N145 := Fr.app N144 Nq145
          refine Go.st (S' := T145.setTop (mkF m 126 #[sI p1, sJ q2, sS, sJ q3, sS, sJ q4, sS, sJ q5, sS, sI 0, sI 0, sI t3, sI tr, sJ s1, sS, sJ g2, sS, sJ g3, sS, sR b142, sJ 0, sS, sJ s2, sS, sU, sU, sU, sU, sU, sU, sU, sU, sU, sU, sU, sU, sU] [])) st145 ?_
          refine Go.st (S' := T145.setTop (mkF m 128 #[sI p1, sJ q2, sS, sJ q3, sS, sJ q4, sS, sJ q5, sS, sI 0, sI 0, sI t3, sI tr, sJ s1, sS, sJ g2, sS, sJ g3, sS, sR b142, sJ 0, sS, sJ s2, sS, sU, sU, sU, sU, sU, sU, sU, sU, sU, sU, sU, sU, sU] [(.int (0 : Int32))])) (fun _ k => XS.iload X145.here hx rfl (hb hby at_126) rfl k) ?_
          refine Go.st (fun _ k => XS.ifYes X145.here hx rfl (pc0 := 128) (pc' := 141) rfl (hb hby at_128) rfl ((if0 _ _).trans (flt (by decide)).2.2.2) (by decide) (by decide) k) ?_
          refine Go.st (S' := T145.setTop (mkF m 143 #[sI p1, sJ q2, sS, sJ q3, sS, sJ q4, sS, sJ q5, sS, sI 0, sI 0, sI t3, sI tr, sJ s1, sS, sJ g2, sS, sJ g3, sS, sR b142, sJ 0, sS, sJ s2, sS, sU, sU, sU, sU, sU, sU, sU, sU, sU, sU, sU, sU, sU] [(.long (0 : Int64))])) (fun _ k => XS.lload X145.here hx rfl (hb hby at_141) rfl k) ?_
          refine Go.st (S' := T145.setTop (mkF m 146 #[sI p1, sJ q2, sS, sJ q3, sS, sJ q4, sS, sJ q5, sS, sI 0, sI 0, sI t3, sI tr, sJ s1, sS, sJ g2, sS, sJ g3, sS, sR b142, sJ 0, sS, sJ s2, sS, sU, sU, sU, sU, sU, sU, sU, sU, sU, sU, sU, sU, sU] [(.long (2 : Int64)), (.long (0 : Int64))])) (X145.ldc2Long hx hown (mvT hZ (ww hw 41 rfl)) (g := (mkF m 143 #[sI p1, sJ q2, sS, sJ q3, sS, sJ q4, sS, sJ q5, sS, sI 0, sI 0, sI t3, sI tr, sJ s1, sS, sJ g2, sS, sJ g3, sS, sR b142, sJ 0, sS, sJ s2, sS, sU, sU, sU, sU, sU, sU, sU, sU, sU, sU, sU, sU, sU] [(.long (0 : Int64))])) rfl (hb hby at_143)) ?_
          refine Go.st (fun _ k => XS.ladd X145.here hx rfl (hb hby at_146) rfl k) ?_
          refine Go.st (fun _ k => XS.lload X145.here hx rfl (hb hby at_147) rfl k) ?_
          refine Go.st (S' := T145.setTop (mkF m 150 #[sI p1, sJ q2, sS, sJ q3, sS, sJ q4, sS, sJ q5, sS, sI 0, sI 0, sI t3, sI tr, sJ s1, sS, sJ g2, sS, sJ g3, sS, sR b142, sJ 0, sS, sJ s2, sS, sU, sU, sU, sU, sU, sU, sU, sU, sU, sU, sU, sU, sU] [(.long ((2 : Int64) + g3))])) (fun _ k => XS.ladd X145.here hx rfl (hb hby at_149) rfl k) ?_
          obtain ⟨s3, hd_s3⟩ : ∃ z : Int64, z = ((2 : Int64) + g3) := ⟨_, rfl⟩
          refine Go.st (S' := T145.setTop (mkF m 150 #[sI p1, sJ q2, sS, sJ q3, sS, sJ q4, sS, sJ q5, sS, sI 0, sI 0, sI t3, sI tr, sJ s1, sS, sJ g2, sS, sJ g3, sS, sR b142, sJ 0, sS, sJ s2, sS, sU, sU, sU, sU, sU, sU, sU, sU, sU, sU, sU, sU, sU] [(.long s3)])) (fun _ k => by rw [hd_s3] at k; exact k) ?_
          refine Go.st (S' := T145.setTop (mkF m 152 #[sI p1, sJ q2, sS, sJ q3, sS, sJ q4, sS, sJ q5, sS, sI 0, sI 0, sI t3, sI tr, sJ s1, sS, sJ g2, sS, sJ g3, sS, sR b142, sJ 0, sS, sJ s2, sS, sJ s3, sS, sU, sU, sU, sU, sU, sU, sU, sU, sU, sU, sU] [])) (fun _ k => XS.lstore X145.here hx rfl (hb hby at_150) rfl (l' := #[sI p1, sJ q2, sS, sJ q3, sS, sJ q4, sS, sJ q5, sS, sI 0, sI 0, sI t3, sI tr, sJ s1, sS, sJ g2, sS, sJ g3, sS, sR b142, sJ 0, sS, sJ s2, sS, sJ s3, sS, sU, sU, sU, sU, sU, sU, sU, sU, sU, sU, sU]) rfl k) ?_
          refine Go.st (S' := T145.setTop (mkF m 154 #[sI p1, sJ q2, sS, sJ q3, sS, sJ q4, sS, sJ q5, sS, sI 0, sI 0, sI t3, sI tr, sJ s1, sS, sJ g2, sS, sJ g3, sS, sR b142, sJ 0, sS, sJ s2, sS, sJ s3, sS, sU, sU, sU, sU, sU, sU, sU, sU, sU, sU, sU] [(.int t3)])) (fun _ k => XS.iload X145.here hx rfl (hb hby at_152) rfl k) ?_
          rcases hq3 with rfl | rfl
          · refine Go.st (S' := T145.setTop (mkF m 166 #[sI p1, sJ q2, sS, sJ q3, sS, sJ q4, sS, sJ q5, sS, sI 0, sI 0, sI 0, sI tr, sJ s1, sS, sJ g2, sS, sJ g3, sS, sR b142, sJ 0, sS, sJ s2, sS, sJ s3, sS, sU, sU, sU, sU, sU, sU, sU, sU, sU, sU, sU] [])) (fun _ k => XS.ifYes X145.here hx rfl (pc0 := 154) (pc' := 166) rfl (hb hby at_154) rfl ((if0 _ _).trans (teq (by decide)).1) (by decide) (by decide) k) ?_
            exact rV l Z a0 hw w_NONE k_NONE hS p1 q2 q3 q4 q5 p e s m below meth c ⟨hx, hby, hml, hown, hnm, hret, hlk, hZ⟩ _ _ _ (X145.mono (by decide) (by decide)) eq145 N145 O143 _ _ _ _ _ _ _ _ _ _ _ _ _ _ _ (0 : Int32) (0 : Int32) (0 : Int32) (0 : Int32) _ _ gz142 (A142.keep kp143) el143 ne_b142_ly143 flayout143 fnewest143 golderTimestamps143 golderTimes143 golderCount143 gfloor143 gslots143 ⟨⟨_, _, V_NONE.ext O143⟩, E_NONE.ext O143⟩ ⟨⟨_, _, V_NONE.ext O143⟩, E_NONE.ext O143⟩ ⟨⟨_, _, V_NONE.ext O143⟩, E_NONE.ext O143⟩ (by decide) (by decide) (by decide) (by decide) (by decide) (by decide) (by decide) (by decide) (by decide) hq4 (by decide) (by decide)
          · refine Go.st (fun _ k => XS.ifNo X145.here hx rfl (hb hby at_154) rfl ((if0 _ _).trans (feq (by decide)).1) k) ?_
            refine Go.st (fun _ k => XS.aload X145.here hx rfl (hb hby at_157) rfl rfl k) ?_
            refine Go.st (fun _ k => XS.lload X145.here hx rfl (hb hby at_159) rfl k) ?_
            refine Go.st (S' := T145.setTop (mkF m 163 #[sI p1, sJ q2, sS, sJ q3, sS, sJ q4, sS, sJ q5, sS, sI 0, sI 0, sI 1, sI tr, sJ s1, sS, sJ g2, sS, sJ g3, sS, sR b142, sJ 0, sS, sJ s2, sS, sJ s3, sS, sU, sU, sU, sU, sU, sU, sU, sU, sU, sU, sU] [(.long q5), (.long s3), (.ref b142)])) (fun _ k => XS.lload X145.here hx rfl (hb hby at_161) rfl k) ?_
            obtain ⟨_, T158, L158, X158, ⟨rfl, Nq158, kp158, ly158, ar158, sl158, sa158, nla158, el158, golderTimestamps158, golderTimes158, golderCount158, gfloor158, gslots158, flayout158, fnewest158, va158⟩, st158⟩ := own_callV X145 hx hZ hown (ww hw 56 rfl) (ww hw 57 rfl) (notFace_of_selects (args := #[]) (mvT hZ (ww hw 59 rfl))) (ww hw 59 rfl) (ww hw 58 rfl) (ww hw 4 rfl) (ww hw 60 rfl) (by decide) eq145 (A142.keep kp143) (rmAddI l Z a0 hw [] w_NONE k_NONE hS b142 s3 q5 ly143 T143.heap O143 gz142 (A142.keep kp143) el143 ne_b142_ly143 flayout143 fnewest143 golderTimestamps143 golderTimes143 golderCount143 gfloor143 gslots143) 0 (by decide) (by decide) (by decide) (by decide) (g := (mkF m 163 #[sI p1, sJ q2, sS, sJ q3, sS, sJ q4, sS, sJ q5, sS, sI 0, sI 0, sI 1, sI tr, sJ s1, sS, sJ g2, sS, sJ g3, sS, sR b142, sJ 0, sS, sJ s2, sS, sJ s3, sS, sU, sU, sU, sU, sU, sU, sU, sU, sU, sU, sU] [(.long q5), (.long s3), (.ref b142)])) rfl (by rw [hml]; rfl) [(.long s3), (.long q5)] [] rfl (lenOf pd_212493 rfl) rfl (by show 2 * 0 + _ ≤ _; exact Nat.le_of_eq rfl) (hb hby at_163)
            have N158 := Fr.app N145 Nq158
            have ne_b142_ly158 : b142 ≠ ly158 := own_lt_ne' (A142.keep kp143).lt sl158
            have ne_ly143_ly158 : ly143 ≠ ly158 := own_lt_ne' el143.lt sl158
            have ne_b142_ar158 : b142 ≠ ar158 := own_lt_ne' (A142.keep kp143).lt sa158
            have ne_ly143_ar158 : ly143 ≠ ar158 := own_lt_ne' el143.lt sa158
            have O158 : Ext Z.heap T158.heap := own_Ext.keep O143 kp158 (allS gz142 all0)
            refine Go.st (S' := T158.setTop (mkF m 166 #[sI p1, sJ q2, sS, sJ q3, sS, sJ q4, sS, sJ q5, sS, sI 0, sI 0, sI 1, sI tr, sJ s1, sS, sJ g2, sS, sJ g3, sS, sR b142, sJ 0, sS, sJ s2, sS, sJ s3, sS, sU, sU, sU, sU, sU, sU, sU, sU, sU, sU, sU] [])) st158 ?_
            exact rV l Z a0 hw w_NONE k_NONE hS p1 q2 q3 q4 q5 p e s m below meth c ⟨hx, hby, hml, hown, hnm, hret, hlk, hZ⟩ _ _ _ (X158.mono (by decide) (by decide)) rfl N158 O158 _ _ _ _ _ _ _ _ _ _ _ _ _ _ _ (0 : Int32) (0 : Int32) (1 : Int32) (1 : Int32) _ _ gz142 ((A142.keep kp143).keep kp158) el158 ne_b142_ly158 flayout158 fnewest158 golderTimestamps158 golderTimes158 golderCount158 gfloor158 gslots158 ⟨⟨_, _, V_NONE.ext O158⟩, E_NONE.ext O158⟩ ⟨⟨_, _, V_NONE.ext O158⟩, E_NONE.ext O158⟩ va158 (by rw [own_o0]; decide) (by decide) (by decide) (by decide) (by decide) (by decide) (by decide) (by decide) (by decide) hq4 (by decide) (by decide)
        · refine Go.st (fun _ k => XS.iload X144.here hx rfl (hb hby at_119) rfl k) ?_
          refine Go.st (S' := T144.setTop (mkF m 123 #[sI p1, sJ q2, sS, sJ q3, sS, sJ q4, sS, sJ q5, sS, sI 0, sI 1, sI t3, sI tr, sJ s1, sS, sJ g2, sS, sJ g3, sS, sR b142, sJ 0, sS, sJ s2, sS, sU, sU, sU, sU, sU, sU, sU, sU, sU, sU, sU, sU, sU] [(.long q5), (.int (1 : Int32)), (.long s2), (.ref b142)])) (fun _ k => XS.lload X144.here hx rfl (hb hby at_121) rfl k) ?_
          obtain ⟨_, T159, L159, X159, ⟨rfl, Nq159, kp159, ly159, ar159, sl159, sa159, nla159, el159, golderTimestamps159, golderTimes159, golderCount159, gfloor159, gslots159, flayout159, fnewest159, va159⟩, st159⟩ := own_callS X144 hx hZ hown (ww hw 37 rfl) (ww hw 38 rfl) (ww hw 39 rfl) (ww hw 40 rfl) (by decide) eq144 (rmRI1 l Z a0 hw [] w_NONE k_NONE hS b142 s2 q5 ly143 T143.heap O143 gz142 (A142.keep kp143) el143 ne_b142_ly143 flayout143 fnewest143 golderTimestamps143 golderTimes143 golderCount143 gfloor143 gslots143) 0 (by decide) (by decide) (by decide) (by decide) (g := (mkF m 123 #[sI p1, sJ q2, sS, sJ q3, sS, sJ q4, sS, sJ q5, sS, sI 0, sI 1, sI t3, sI tr, sJ s1, sS, sJ g2, sS, sJ g3, sS, sR b142, sJ 0, sS, sJ s2, sS, sU, sU, sU, sU, sU, sU, sU, sU, sU, sU, sU, sU, sU] [(.long q5), (.int (1 : Int32)), (.long s2), (.ref b142)])) rfl (by rw [hml]; rfl) [(.ref b142), (.long s2), (.int (1 : Int32)), (.long q5)] [] rfl (lenOf pd_502958 rfl) rfl (by show 2 * 0 + _ ≤ _; exact Nat.le_of_eq rfl) (hb hby at_123)
          have N159 := Fr.app N144 Nq159
          have ne_b142_ly159 : b142 ≠ ly159 := own_lt_ne' (A142.keep kp143).lt sl159
          have ne_ly143_ly159 : ly143 ≠ ly159 := own_lt_ne' el143.lt sl159
          have ne_b142_ar159 : b142 ≠ ar159 := own_lt_ne' (A142.keep kp143).lt sa159
          have ne_ly143_ar159 : ly143 ≠ ar159 := own_lt_ne' el143.lt sa159
          have O159 : Ext Z.heap T159.heap := own_Ext.keep O143 kp159 (allS gz142 all0)
          refine Go.st (S' := T159.setTop (mkF m 126 #[sI p1, sJ q2, sS, sJ q3, sS, sJ q4, sS, sJ q5, sS, sI 0, sI 1, sI t3, sI tr, sJ s1, sS, sJ g2, sS, sJ g3, sS, sR b142, sJ 0, sS, sJ s2, sS, sU, sU, sU, sU, sU, sU, sU, sU, sU, sU, sU, sU, sU] [])) st159 ?_
          refine Go.st (S' := T159.setTop (mkF m 128 #[sI p1, sJ q2, sS, sJ q3, sS, sJ q4, sS, sJ q5, sS, sI 0, sI 1, sI t3, sI tr, sJ s1, sS, sJ g2, sS, sJ g3, sS, sR b142, sJ 0, sS, sJ s2, sS, sU, sU, sU, sU, sU, sU, sU, sU, sU, sU, sU, sU, sU] [(.int (1 : Int32))])) (fun _ k => XS.iload X159.here hx rfl (hb hby at_126) rfl k) ?_
          refine Go.st (fun _ k => XS.ifNo X159.here hx rfl (hb hby at_128) rfl ((if0 _ _).trans (tlt (by decide)).2.2.2) k) ?_
          refine Go.st (fun _ k => XS.lload X159.here hx rfl (hb hby at_131) rfl k) ?_
          refine Go.st (fun _ k => XS.iload X159.here hx rfl (hb hby at_133) rfl k) ?_
          refine Go.st (fun _ k => XS.i2l X159.here hx rfl (hb hby at_135) rfl k) ?_
          refine Go.st (fun _ k => XS.ladd X159.here hx rfl (hb hby at_136) rfl k) ?_
          refine Go.st (fun _ k => XS.lconst X159.here hx rfl (hb hby at_137) k) ?_
          refine Go.st (S' := T159.setTop (mkF m 139 #[sI p1, sJ q2, sS, sJ q3, sS, sJ q4, sS, sJ q5, sS, sI 0, sI 1, sI t3, sI tr, sJ s1, sS, sJ g2, sS, sJ g3, sS, sR b142, sJ 0, sS, sJ s2, sS, sU, sU, sU, sU, sU, sU, sU, sU, sU, sU, sU, sU, sU] [(.long ((s2 + (1 : Int64)) - (1 : Int64)))])) (fun _ k => XS.lsub X159.here hx rfl (hb hby at_138) rfl k) ?_
          refine Go.st (S' := T159.setTop (mkF m 139 #[sI p1, sJ q2, sS, sJ q3, sS, sJ q4, sS, sJ q5, sS, sI 0, sI 1, sI t3, sI tr, sJ s1, sS, sJ g2, sS, sJ g3, sS, sR b142, sJ 0, sS, sJ s2, sS, sU, sU, sU, sU, sU, sU, sU, sU, sU, sU, sU, sU, sU] [(.long s2)])) (fun _ k => by rw [(own_nw1 s2 : ((s2 + (1 : Int64)) - (1 : Int64)) = s2)]; exact k) ?_
          refine Go.st (fun _ k => XS.lstore X159.here hx rfl (hb hby at_139) rfl (l' := #[sI p1, sJ q2, sS, sJ q3, sS, sJ q4, sS, sJ q5, sS, sI 0, sI 1, sI t3, sI tr, sJ s1, sS, sJ g2, sS, sJ g3, sS, sR b142, sJ s2, sS, sJ s2, sS, sU, sU, sU, sU, sU, sU, sU, sU, sU, sU, sU, sU, sU]) rfl k) ?_
          refine Go.st (S' := T159.setTop (mkF m 143 #[sI p1, sJ q2, sS, sJ q3, sS, sJ q4, sS, sJ q5, sS, sI 0, sI 1, sI t3, sI tr, sJ s1, sS, sJ g2, sS, sJ g3, sS, sR b142, sJ s2, sS, sJ s2, sS, sU, sU, sU, sU, sU, sU, sU, sU, sU, sU, sU, sU, sU] [(.long s2)])) (fun _ k => XS.lload X159.here hx rfl (hb hby at_141) rfl k) ?_
          refine Go.st (S' := T159.setTop (mkF m 146 #[sI p1, sJ q2, sS, sJ q3, sS, sJ q4, sS, sJ q5, sS, sI 0, sI 1, sI t3, sI tr, sJ s1, sS, sJ g2, sS, sJ g3, sS, sR b142, sJ s2, sS, sJ s2, sS, sU, sU, sU, sU, sU, sU, sU, sU, sU, sU, sU, sU, sU] [(.long (2 : Int64)), (.long s2)])) (X159.ldc2Long hx hown (mvT hZ (ww hw 41 rfl)) (g := (mkF m 143 #[sI p1, sJ q2, sS, sJ q3, sS, sJ q4, sS, sJ q5, sS, sI 0, sI 1, sI t3, sI tr, sJ s1, sS, sJ g2, sS, sJ g3, sS, sR b142, sJ s2, sS, sJ s2, sS, sU, sU, sU, sU, sU, sU, sU, sU, sU, sU, sU, sU, sU] [(.long s2)])) rfl (hb hby at_143)) ?_
          refine Go.st (fun _ k => XS.ladd X159.here hx rfl (hb hby at_146) rfl k) ?_
          refine Go.st (fun _ k => XS.lload X159.here hx rfl (hb hby at_147) rfl k) ?_
          refine Go.st (S' := T159.setTop (mkF m 150 #[sI p1, sJ q2, sS, sJ q3, sS, sJ q4, sS, sJ q5, sS, sI 0, sI 1, sI t3, sI tr, sJ s1, sS, sJ g2, sS, sJ g3, sS, sR b142, sJ s2, sS, sJ s2, sS, sU, sU, sU, sU, sU, sU, sU, sU, sU, sU, sU, sU, sU] [(.long ((s2 + (2 : Int64)) + g3))])) (fun _ k => XS.ladd X159.here hx rfl (hb hby at_149) rfl k) ?_
          obtain ⟨s3, hd_s3⟩ : ∃ z : Int64, z = ((s2 + (2 : Int64)) + g3) := ⟨_, rfl⟩
          refine Go.st (S' := T159.setTop (mkF m 150 #[sI p1, sJ q2, sS, sJ q3, sS, sJ q4, sS, sJ q5, sS, sI 0, sI 1, sI t3, sI tr, sJ s1, sS, sJ g2, sS, sJ g3, sS, sR b142, sJ s2, sS, sJ s2, sS, sU, sU, sU, sU, sU, sU, sU, sU, sU, sU, sU, sU, sU] [(.long s3)])) (fun _ k => by rw [hd_s3] at k; exact k) ?_
          refine Go.st (S' := T159.setTop (mkF m 152 #[sI p1, sJ q2, sS, sJ q3, sS, sJ q4, sS, sJ q5, sS, sI 0, sI 1, sI t3, sI tr, sJ s1, sS, sJ g2, sS, sJ g3, sS, sR b142, sJ s2, sS, sJ s2, sS, sJ s3, sS, sU, sU, sU, sU, sU, sU, sU, sU, sU, sU, sU] [])) (fun _ k => XS.lstore X159.here hx rfl (hb hby at_150) rfl (l' := #[sI p1, sJ q2, sS, sJ q3, sS, sJ q4, sS, sJ q5, sS, sI 0, sI 1, sI t3, sI tr, sJ s1, sS, sJ g2, sS, sJ g3, sS, sR b142, sJ s2, sS, sJ s2, sS, sJ s3, sS, sU, sU, sU, sU, sU, sU, sU, sU, sU, sU, sU]) rfl k) ?_
          exact rT l Z a0 hw w_NONE k_NONE hS p1 q2 q3 q4 q5 p e s m below meth c ⟨hx, hby, hml, hown, hnm, hret, hlk, hZ⟩ _ _ _ (X159.mono (by decide) (by decide)) rfl N159 O159 _ _ _ _ _ _ _ _ _ _ _ _ _ _ (0 : Int32) (0 : Int32) (1 : Int32) (1 : Int32) _ _ gz142 ((A142.keep kp143).keep kp159) el159 ne_b142_ly159 flayout159 fnewest159 golderTimestamps159 golderTimes159 golderCount159 gfloor159 gslots159 ⟨⟨_, _, V_NONE.ext O159⟩, E_NONE.ext O159⟩ ⟨⟨_, _, V_NONE.ext O159⟩, E_NONE.ext O159⟩ va159 (by rw [own_o0]; decide) (by decide) (by decide) (by decide) (by decide) (by decide) (by decide) (by decide) (by decide) (fun q => own_gap s2 g3 hg3 (hd_s3.symm.trans q)) hq3 hq4 (by decide) (by decide) (by decide) (by decide)
        · refine Go.st (fun _ k => XS.iload X144.here hx rfl (hb hby at_119) rfl k) ?_
          refine Go.st (S' := T144.setTop (mkF m 123 #[sI p1, sJ q2, sS, sJ q3, sS, sJ q4, sS, sJ q5, sS, sI 0, sI 2, sI t3, sI tr, sJ s1, sS, sJ g2, sS, sJ g3, sS, sR b142, sJ 0, sS, sJ s2, sS, sU, sU, sU, sU, sU, sU, sU, sU, sU, sU, sU, sU, sU] [(.long q5), (.int (2 : Int32)), (.long s2), (.ref b142)])) (fun _ k => XS.lload X144.here hx rfl (hb hby at_121) rfl k) ?_
          obtain ⟨_, T161, L161, X161, ⟨rfl, Nq161, kp161, ly161, ar161, sl161, sa161, nla161, el161, golderTimestamps161, golderTimes161, golderCount161, gfloor161, gslots161, flayout161, fnewest161, va161⟩, st161⟩ := own_callS X144 hx hZ hown (ww hw 37 rfl) (ww hw 38 rfl) (ww hw 39 rfl) (ww hw 40 rfl) (by decide) eq144 (rmRI2 l Z a0 hw [] w_NONE k_NONE hS b142 s2 q5 ly143 T143.heap O143 gz142 (A142.keep kp143) el143 ne_b142_ly143 flayout143 fnewest143 golderTimestamps143 golderTimes143 golderCount143 gfloor143 gslots143) 0 (by decide) (by decide) (by decide) (by decide) (g := (mkF m 123 #[sI p1, sJ q2, sS, sJ q3, sS, sJ q4, sS, sJ q5, sS, sI 0, sI 2, sI t3, sI tr, sJ s1, sS, sJ g2, sS, sJ g3, sS, sR b142, sJ 0, sS, sJ s2, sS, sU, sU, sU, sU, sU, sU, sU, sU, sU, sU, sU, sU, sU] [(.long q5), (.int (2 : Int32)), (.long s2), (.ref b142)])) rfl (by rw [hml]; rfl) [(.ref b142), (.long s2), (.int (2 : Int32)), (.long q5)] [] rfl (lenOf pd_502958 rfl) rfl (by show 2 * 0 + _ ≤ _; exact Nat.le_of_eq rfl) (hb hby at_123)
          have N161 := Fr.app N144 Nq161
          have ne_b142_ly161 : b142 ≠ ly161 := own_lt_ne' (A142.keep kp143).lt sl161
          have ne_ly143_ly161 : ly143 ≠ ly161 := own_lt_ne' el143.lt sl161
          have ne_b142_ar161 : b142 ≠ ar161 := own_lt_ne' (A142.keep kp143).lt sa161
          have ne_ly143_ar161 : ly143 ≠ ar161 := own_lt_ne' el143.lt sa161
          have O161 : Ext Z.heap T161.heap := own_Ext.keep O143 kp161 (allS gz142 all0)
          refine Go.st (S' := T161.setTop (mkF m 126 #[sI p1, sJ q2, sS, sJ q3, sS, sJ q4, sS, sJ q5, sS, sI 0, sI 2, sI t3, sI tr, sJ s1, sS, sJ g2, sS, sJ g3, sS, sR b142, sJ 0, sS, sJ s2, sS, sU, sU, sU, sU, sU, sU, sU, sU, sU, sU, sU, sU, sU] [])) st161 ?_
          refine Go.st (S' := T161.setTop (mkF m 128 #[sI p1, sJ q2, sS, sJ q3, sS, sJ q4, sS, sJ q5, sS, sI 0, sI 2, sI t3, sI tr, sJ s1, sS, sJ g2, sS, sJ g3, sS, sR b142, sJ 0, sS, sJ s2, sS, sU, sU, sU, sU, sU, sU, sU, sU, sU, sU, sU, sU, sU] [(.int (2 : Int32))])) (fun _ k => XS.iload X161.here hx rfl (hb hby at_126) rfl k) ?_
          refine Go.st (fun _ k => XS.ifNo X161.here hx rfl (hb hby at_128) rfl ((if0 _ _).trans (tlt (by decide)).2.2.2) k) ?_
          refine Go.st (fun _ k => XS.lload X161.here hx rfl (hb hby at_131) rfl k) ?_
          refine Go.st (fun _ k => XS.iload X161.here hx rfl (hb hby at_133) rfl k) ?_
          refine Go.st (fun _ k => XS.i2l X161.here hx rfl (hb hby at_135) rfl k) ?_
          refine Go.st (fun _ k => XS.ladd X161.here hx rfl (hb hby at_136) rfl k) ?_
          refine Go.st (fun _ k => XS.lconst X161.here hx rfl (hb hby at_137) k) ?_
          refine Go.st (S' := T161.setTop (mkF m 139 #[sI p1, sJ q2, sS, sJ q3, sS, sJ q4, sS, sJ q5, sS, sI 0, sI 2, sI t3, sI tr, sJ s1, sS, sJ g2, sS, sJ g3, sS, sR b142, sJ 0, sS, sJ s2, sS, sU, sU, sU, sU, sU, sU, sU, sU, sU, sU, sU, sU, sU] [(.long ((s2 + (2 : Int64)) - (1 : Int64)))])) (fun _ k => XS.lsub X161.here hx rfl (hb hby at_138) rfl k) ?_
          refine Go.st (S' := T161.setTop (mkF m 139 #[sI p1, sJ q2, sS, sJ q3, sS, sJ q4, sS, sJ q5, sS, sI 0, sI 2, sI t3, sI tr, sJ s1, sS, sJ g2, sS, sJ g3, sS, sR b142, sJ 0, sS, sJ s2, sS, sU, sU, sU, sU, sU, sU, sU, sU, sU, sU, sU, sU, sU] [(.long (s2 + (1 : Int64)))])) (fun _ k => by rw [(own_nw2 s2 : ((s2 + (2 : Int64)) - (1 : Int64)) = (s2 + (1 : Int64)))]; exact k) ?_
          refine Go.st (fun _ k => XS.lstore X161.here hx rfl (hb hby at_139) rfl (l' := #[sI p1, sJ q2, sS, sJ q3, sS, sJ q4, sS, sJ q5, sS, sI 0, sI 2, sI t3, sI tr, sJ s1, sS, sJ g2, sS, sJ g3, sS, sR b142, sJ (s2 + (1 : Int64)), sS, sJ s2, sS, sU, sU, sU, sU, sU, sU, sU, sU, sU, sU, sU, sU, sU]) rfl k) ?_
          refine Go.st (S' := T161.setTop (mkF m 143 #[sI p1, sJ q2, sS, sJ q3, sS, sJ q4, sS, sJ q5, sS, sI 0, sI 2, sI t3, sI tr, sJ s1, sS, sJ g2, sS, sJ g3, sS, sR b142, sJ (s2 + (1 : Int64)), sS, sJ s2, sS, sU, sU, sU, sU, sU, sU, sU, sU, sU, sU, sU, sU, sU] [(.long (s2 + (1 : Int64)))])) (fun _ k => XS.lload X161.here hx rfl (hb hby at_141) rfl k) ?_
          refine Go.st (S' := T161.setTop (mkF m 146 #[sI p1, sJ q2, sS, sJ q3, sS, sJ q4, sS, sJ q5, sS, sI 0, sI 2, sI t3, sI tr, sJ s1, sS, sJ g2, sS, sJ g3, sS, sR b142, sJ (s2 + (1 : Int64)), sS, sJ s2, sS, sU, sU, sU, sU, sU, sU, sU, sU, sU, sU, sU, sU, sU] [(.long (2 : Int64)), (.long (s2 + (1 : Int64)))])) (X161.ldc2Long hx hown (mvT hZ (ww hw 41 rfl)) (g := (mkF m 143 #[sI p1, sJ q2, sS, sJ q3, sS, sJ q4, sS, sJ q5, sS, sI 0, sI 2, sI t3, sI tr, sJ s1, sS, sJ g2, sS, sJ g3, sS, sR b142, sJ (s2 + (1 : Int64)), sS, sJ s2, sS, sU, sU, sU, sU, sU, sU, sU, sU, sU, sU, sU, sU, sU] [(.long (s2 + (1 : Int64)))])) rfl (hb hby at_143)) ?_
          refine Go.st (fun _ k => XS.ladd X161.here hx rfl (hb hby at_146) rfl k) ?_
          refine Go.st (fun _ k => XS.lload X161.here hx rfl (hb hby at_147) rfl k) ?_
          refine Go.st (S' := T161.setTop (mkF m 150 #[sI p1, sJ q2, sS, sJ q3, sS, sJ q4, sS, sJ q5, sS, sI 0, sI 2, sI t3, sI tr, sJ s1, sS, sJ g2, sS, sJ g3, sS, sR b142, sJ (s2 + (1 : Int64)), sS, sJ s2, sS, sU, sU, sU, sU, sU, sU, sU, sU, sU, sU, sU, sU, sU] [(.long (((s2 + (1 : Int64)) + (2 : Int64)) + g3))])) (fun _ k => XS.ladd X161.here hx rfl (hb hby at_149) rfl k) ?_
          obtain ⟨s3, hd_s3⟩ : ∃ z : Int64, z = (((s2 + (1 : Int64)) + (2 : Int64)) + g3) := ⟨_, rfl⟩
          refine Go.st (S' := T161.setTop (mkF m 150 #[sI p1, sJ q2, sS, sJ q3, sS, sJ q4, sS, sJ q5, sS, sI 0, sI 2, sI t3, sI tr, sJ s1, sS, sJ g2, sS, sJ g3, sS, sR b142, sJ (s2 + (1 : Int64)), sS, sJ s2, sS, sU, sU, sU, sU, sU, sU, sU, sU, sU, sU, sU, sU, sU] [(.long s3)])) (fun _ k => by rw [hd_s3] at k; exact k) ?_
          refine Go.st (S' := T161.setTop (mkF m 152 #[sI p1, sJ q2, sS, sJ q3, sS, sJ q4, sS, sJ q5, sS, sI 0, sI 2, sI t3, sI tr, sJ s1, sS, sJ g2, sS, sJ g3, sS, sR b142, sJ (s2 + (1 : Int64)), sS, sJ s2, sS, sJ s3, sS, sU, sU, sU, sU, sU, sU, sU, sU, sU, sU, sU] [])) (fun _ k => XS.lstore X161.here hx rfl (hb hby at_150) rfl (l' := #[sI p1, sJ q2, sS, sJ q3, sS, sJ q4, sS, sJ q5, sS, sI 0, sI 2, sI t3, sI tr, sJ s1, sS, sJ g2, sS, sJ g3, sS, sR b142, sJ (s2 + (1 : Int64)), sS, sJ s2, sS, sJ s3, sS, sU, sU, sU, sU, sU, sU, sU, sU, sU, sU, sU]) rfl k) ?_
          exact rT l Z a0 hw w_NONE k_NONE hS p1 q2 q3 q4 q5 p e s m below meth c ⟨hx, hby, hml, hown, hnm, hret, hlk, hZ⟩ _ _ _ (X161.mono (by decide) (by decide)) rfl N161 O161 _ _ _ _ _ _ _ _ _ _ _ _ _ _ (0 : Int32) (0 : Int32) (2 : Int32) (2 : Int32) _ _ gz142 ((A142.keep kp143).keep kp161) el161 ne_b142_ly161 flayout161 fnewest161 golderTimestamps161 golderTimes161 golderCount161 gfloor161 gslots161 ⟨⟨_, _, V_NONE.ext O161⟩, E_NONE.ext O161⟩ ⟨⟨_, _, V_NONE.ext O161⟩, E_NONE.ext O161⟩ va161 (by rw [own_o1]; decide) (by decide) (by decide) (by decide) (by decide) (by decide) (by decide) (by decide) (by decide) (fun q => own_gap (s2 + (1 : Int64)) g3 hg3 (hd_s3.symm.trans q)) hq3 hq4 (by decide) (by decide) (by decide) (by decide)
        · refine Go.st (fun _ k => XS.iload X144.here hx rfl (hb hby at_119) rfl k) ?_
          refine Go.st (S' := T144.setTop (mkF m 123 #[sI p1, sJ q2, sS, sJ q3, sS, sJ q4, sS, sJ q5, sS, sI 0, sI 3, sI t3, sI tr, sJ s1, sS, sJ g2, sS, sJ g3, sS, sR b142, sJ 0, sS, sJ s2, sS, sU, sU, sU, sU, sU, sU, sU, sU, sU, sU, sU, sU, sU] [(.long q5), (.int (3 : Int32)), (.long s2), (.ref b142)])) (fun _ k => XS.lload X144.here hx rfl (hb hby at_121) rfl k) ?_
          obtain ⟨_, T162, L162, X162, ⟨rfl, Nq162, kp162, ly162, ar162, sl162, sa162, nla162, el162, golderTimestamps162, golderTimes162, golderCount162, gfloor162, gslots162, flayout162, fnewest162, va162⟩, st162⟩ := own_callS X144 hx hZ hown (ww hw 37 rfl) (ww hw 38 rfl) (ww hw 39 rfl) (ww hw 40 rfl) (by decide) eq144 (rmRI3 l Z a0 hw [] w_NONE k_NONE hS b142 s2 q5 ly143 T143.heap O143 gz142 (A142.keep kp143) el143 ne_b142_ly143 flayout143 fnewest143 golderTimestamps143 golderTimes143 golderCount143 gfloor143 gslots143) 0 (by decide) (by decide) (by decide) (by decide) (g := (mkF m 123 #[sI p1, sJ q2, sS, sJ q3, sS, sJ q4, sS, sJ q5, sS, sI 0, sI 3, sI t3, sI tr, sJ s1, sS, sJ g2, sS, sJ g3, sS, sR b142, sJ 0, sS, sJ s2, sS, sU, sU, sU, sU, sU, sU, sU, sU, sU, sU, sU, sU, sU] [(.long q5), (.int (3 : Int32)), (.long s2), (.ref b142)])) rfl (by rw [hml]; rfl) [(.ref b142), (.long s2), (.int (3 : Int32)), (.long q5)] [] rfl (lenOf pd_502958 rfl) rfl (by show 2 * 0 + _ ≤ _; exact Nat.le_of_eq rfl) (hb hby at_123)
          have N162 := Fr.app N144 Nq162
          have ne_b142_ly162 : b142 ≠ ly162 := own_lt_ne' (A142.keep kp143).lt sl162
          have ne_ly143_ly162 : ly143 ≠ ly162 := own_lt_ne' el143.lt sl162
          have ne_b142_ar162 : b142 ≠ ar162 := own_lt_ne' (A142.keep kp143).lt sa162
          have ne_ly143_ar162 : ly143 ≠ ar162 := own_lt_ne' el143.lt sa162
          have O162 : Ext Z.heap T162.heap := own_Ext.keep O143 kp162 (allS gz142 all0)
          refine Go.st (S' := T162.setTop (mkF m 126 #[sI p1, sJ q2, sS, sJ q3, sS, sJ q4, sS, sJ q5, sS, sI 0, sI 3, sI t3, sI tr, sJ s1, sS, sJ g2, sS, sJ g3, sS, sR b142, sJ 0, sS, sJ s2, sS, sU, sU, sU, sU, sU, sU, sU, sU, sU, sU, sU, sU, sU] [])) st162 ?_
          refine Go.st (S' := T162.setTop (mkF m 128 #[sI p1, sJ q2, sS, sJ q3, sS, sJ q4, sS, sJ q5, sS, sI 0, sI 3, sI t3, sI tr, sJ s1, sS, sJ g2, sS, sJ g3, sS, sR b142, sJ 0, sS, sJ s2, sS, sU, sU, sU, sU, sU, sU, sU, sU, sU, sU, sU, sU, sU] [(.int (3 : Int32))])) (fun _ k => XS.iload X162.here hx rfl (hb hby at_126) rfl k) ?_
          refine Go.st (fun _ k => XS.ifNo X162.here hx rfl (hb hby at_128) rfl ((if0 _ _).trans (tlt (by decide)).2.2.2) k) ?_
          refine Go.st (fun _ k => XS.lload X162.here hx rfl (hb hby at_131) rfl k) ?_
          refine Go.st (fun _ k => XS.iload X162.here hx rfl (hb hby at_133) rfl k) ?_
          refine Go.st (fun _ k => XS.i2l X162.here hx rfl (hb hby at_135) rfl k) ?_
          refine Go.st (fun _ k => XS.ladd X162.here hx rfl (hb hby at_136) rfl k) ?_
          refine Go.st (fun _ k => XS.lconst X162.here hx rfl (hb hby at_137) k) ?_
          refine Go.st (S' := T162.setTop (mkF m 139 #[sI p1, sJ q2, sS, sJ q3, sS, sJ q4, sS, sJ q5, sS, sI 0, sI 3, sI t3, sI tr, sJ s1, sS, sJ g2, sS, sJ g3, sS, sR b142, sJ 0, sS, sJ s2, sS, sU, sU, sU, sU, sU, sU, sU, sU, sU, sU, sU, sU, sU] [(.long ((s2 + (3 : Int64)) - (1 : Int64)))])) (fun _ k => XS.lsub X162.here hx rfl (hb hby at_138) rfl k) ?_
          refine Go.st (S' := T162.setTop (mkF m 139 #[sI p1, sJ q2, sS, sJ q3, sS, sJ q4, sS, sJ q5, sS, sI 0, sI 3, sI t3, sI tr, sJ s1, sS, sJ g2, sS, sJ g3, sS, sR b142, sJ 0, sS, sJ s2, sS, sU, sU, sU, sU, sU, sU, sU, sU, sU, sU, sU, sU, sU] [(.long (s2 + (2 : Int64)))])) (fun _ k => by rw [(own_nw3 s2 : ((s2 + (3 : Int64)) - (1 : Int64)) = (s2 + (2 : Int64)))]; exact k) ?_
          refine Go.st (fun _ k => XS.lstore X162.here hx rfl (hb hby at_139) rfl (l' := #[sI p1, sJ q2, sS, sJ q3, sS, sJ q4, sS, sJ q5, sS, sI 0, sI 3, sI t3, sI tr, sJ s1, sS, sJ g2, sS, sJ g3, sS, sR b142, sJ (s2 + (2 : Int64)), sS, sJ s2, sS, sU, sU, sU, sU, sU, sU, sU, sU, sU, sU, sU, sU, sU]) rfl k) ?_
          refine Go.st (S' := T162.setTop (mkF m 143 #[sI p1, sJ q2, sS, sJ q3, sS, sJ q4, sS, sJ q5, sS, sI 0, sI 3, sI t3, sI tr, sJ s1, sS, sJ g2, sS, sJ g3, sS, sR b142, sJ (s2 + (2 : Int64)), sS, sJ s2, sS, sU, sU, sU, sU, sU, sU, sU, sU, sU, sU, sU, sU, sU] [(.long (s2 + (2 : Int64)))])) (fun _ k => XS.lload X162.here hx rfl (hb hby at_141) rfl k) ?_
          refine Go.st (S' := T162.setTop (mkF m 146 #[sI p1, sJ q2, sS, sJ q3, sS, sJ q4, sS, sJ q5, sS, sI 0, sI 3, sI t3, sI tr, sJ s1, sS, sJ g2, sS, sJ g3, sS, sR b142, sJ (s2 + (2 : Int64)), sS, sJ s2, sS, sU, sU, sU, sU, sU, sU, sU, sU, sU, sU, sU, sU, sU] [(.long (2 : Int64)), (.long (s2 + (2 : Int64)))])) (X162.ldc2Long hx hown (mvT hZ (ww hw 41 rfl)) (g := (mkF m 143 #[sI p1, sJ q2, sS, sJ q3, sS, sJ q4, sS, sJ q5, sS, sI 0, sI 3, sI t3, sI tr, sJ s1, sS, sJ g2, sS, sJ g3, sS, sR b142, sJ (s2 + (2 : Int64)), sS, sJ s2, sS, sU, sU, sU, sU, sU, sU, sU, sU, sU, sU, sU, sU, sU] [(.long (s2 + (2 : Int64)))])) rfl (hb hby at_143)) ?_
          refine Go.st (fun _ k => XS.ladd X162.here hx rfl (hb hby at_146) rfl k) ?_
          refine Go.st (fun _ k => XS.lload X162.here hx rfl (hb hby at_147) rfl k) ?_
          refine Go.st (S' := T162.setTop (mkF m 150 #[sI p1, sJ q2, sS, sJ q3, sS, sJ q4, sS, sJ q5, sS, sI 0, sI 3, sI t3, sI tr, sJ s1, sS, sJ g2, sS, sJ g3, sS, sR b142, sJ (s2 + (2 : Int64)), sS, sJ s2, sS, sU, sU, sU, sU, sU, sU, sU, sU, sU, sU, sU, sU, sU] [(.long (((s2 + (2 : Int64)) + (2 : Int64)) + g3))])) (fun _ k => XS.ladd X162.here hx rfl (hb hby at_149) rfl k) ?_
          obtain ⟨s3, hd_s3⟩ : ∃ z : Int64, z = (((s2 + (2 : Int64)) + (2 : Int64)) + g3) := ⟨_, rfl⟩
          refine Go.st (S' := T162.setTop (mkF m 150 #[sI p1, sJ q2, sS, sJ q3, sS, sJ q4, sS, sJ q5, sS, sI 0, sI 3, sI t3, sI tr, sJ s1, sS, sJ g2, sS, sJ g3, sS, sR b142, sJ (s2 + (2 : Int64)), sS, sJ s2, sS, sU, sU, sU, sU, sU, sU, sU, sU, sU, sU, sU, sU, sU] [(.long s3)])) (fun _ k => by rw [hd_s3] at k; exact k) ?_
          refine Go.st (S' := T162.setTop (mkF m 152 #[sI p1, sJ q2, sS, sJ q3, sS, sJ q4, sS, sJ q5, sS, sI 0, sI 3, sI t3, sI tr, sJ s1, sS, sJ g2, sS, sJ g3, sS, sR b142, sJ (s2 + (2 : Int64)), sS, sJ s2, sS, sJ s3, sS, sU, sU, sU, sU, sU, sU, sU, sU, sU, sU, sU] [])) (fun _ k => XS.lstore X162.here hx rfl (hb hby at_150) rfl (l' := #[sI p1, sJ q2, sS, sJ q3, sS, sJ q4, sS, sJ q5, sS, sI 0, sI 3, sI t3, sI tr, sJ s1, sS, sJ g2, sS, sJ g3, sS, sR b142, sJ (s2 + (2 : Int64)), sS, sJ s2, sS, sJ s3, sS, sU, sU, sU, sU, sU, sU, sU, sU, sU, sU, sU]) rfl k) ?_
          exact rT l Z a0 hw w_NONE k_NONE hS p1 q2 q3 q4 q5 p e s m below meth c ⟨hx, hby, hml, hown, hnm, hret, hlk, hZ⟩ _ _ _ (X162.mono (by decide) (by decide)) rfl N162 O162 _ _ _ _ _ _ _ _ _ _ _ _ _ _ (0 : Int32) (0 : Int32) (3 : Int32) (4 : Int32) _ _ gz142 ((A142.keep kp143).keep kp162) el162 ne_b142_ly162 flayout162 fnewest162 golderTimestamps162 golderTimes162 golderCount162 gfloor162 gslots162 ⟨⟨_, _, V_NONE.ext O162⟩, E_NONE.ext O162⟩ ⟨⟨_, _, V_NONE.ext O162⟩, E_NONE.ext O162⟩ va162 (by rw [own_o1]; decide) (by decide) (by decide) (by decide) (by decide) (by decide) (by decide) (by decide) (by decide) (fun q => own_gap (s2 + (2 : Int64)) g3 hg3 (hd_s3.symm.trans q)) hq3 hq4 (by decide) (by decide) (by decide) (by decide)
      · refine Go.st (fun _ k => XS.iload X143.here hx rfl (hb hby at_82) rfl k) ?_
        refine Go.st (S' := T143.setTop (mkF m 86 #[sI p1, sJ q2, sS, sJ q3, sS, sJ q4, sS, sJ q5, sS, sI 1, sI n2, sI t3, sI tr, sJ s1, sS, sJ g2, sS, sJ g3, sS, sR b142, sJ 0, sS, sU, sU, sU, sU, sU, sU, sU, sU, sU, sU, sU, sU, sU, sU, sU] [(.long q5), (.int (1 : Int32)), (.long s1), (.ref b142)])) (fun _ k => XS.lload X143.here hx rfl (hb hby at_84) rfl k) ?_
        obtain ⟨_, T163, L163, X163, ⟨rfl, Nq163, kp163, ly163, ar163, sl163, sa163, nla163, el163, golderTimestamps163, golderTimes163, golderCount163, gfloor163, gslots163, flayout163, fnewest163, va163⟩, st163⟩ := own_callS X143 hx hZ hown (ww hw 37 rfl) (ww hw 38 rfl) (ww hw 39 rfl) (ww hw 40 rfl) (by decide) rfl (rmRI1 l Z a0 hw [] w_NONE k_NONE hS b142 s1 q5 ly143 T143.heap O143 gz142 (A142.keep kp143) el143 ne_b142_ly143 flayout143 fnewest143 golderTimestamps143 golderTimes143 golderCount143 gfloor143 gslots143) 0 (by decide) (by decide) (by decide) (by decide) (g := (mkF m 86 #[sI p1, sJ q2, sS, sJ q3, sS, sJ q4, sS, sJ q5, sS, sI 1, sI n2, sI t3, sI tr, sJ s1, sS, sJ g2, sS, sJ g3, sS, sR b142, sJ 0, sS, sU, sU, sU, sU, sU, sU, sU, sU, sU, sU, sU, sU, sU, sU, sU] [(.long q5), (.int (1 : Int32)), (.long s1), (.ref b142)])) rfl (by rw [hml]; rfl) [(.ref b142), (.long s1), (.int (1 : Int32)), (.long q5)] [] rfl (lenOf pd_502958 rfl) rfl (by show 2 * 0 + _ ≤ _; exact Nat.le_of_eq rfl) (hb hby at_86)
        have N163 := Fr.app N143 Nq163
        have ne_b142_ly163 : b142 ≠ ly163 := own_lt_ne' (A142.keep kp143).lt sl163
        have ne_ly143_ly163 : ly143 ≠ ly163 := own_lt_ne' el143.lt sl163
        have ne_b142_ar163 : b142 ≠ ar163 := own_lt_ne' (A142.keep kp143).lt sa163
        have ne_ly143_ar163 : ly143 ≠ ar163 := own_lt_ne' el143.lt sa163
        have O163 : Ext Z.heap T163.heap := own_Ext.keep O143 kp163 (allS gz142 all0)
        refine Go.st (S' := T163.setTop (mkF m 89 #[sI p1, sJ q2, sS, sJ q3, sS, sJ q4, sS, sJ q5, sS, sI 1, sI n2, sI t3, sI tr, sJ s1, sS, sJ g2, sS, sJ g3, sS, sR b142, sJ 0, sS, sU, sU, sU, sU, sU, sU, sU, sU, sU, sU, sU, sU, sU, sU, sU] [])) st163 ?_
        refine Go.st (S' := T163.setTop (mkF m 91 #[sI p1, sJ q2, sS, sJ q3, sS, sJ q4, sS, sJ q5, sS, sI 1, sI n2, sI t3, sI tr, sJ s1, sS, sJ g2, sS, sJ g3, sS, sR b142, sJ 0, sS, sU, sU, sU, sU, sU, sU, sU, sU, sU, sU, sU, sU, sU, sU, sU] [(.int (1 : Int32))])) (fun _ k => XS.iload X163.here hx rfl (hb hby at_89) rfl k) ?_
        refine Go.st (fun _ k => XS.ifNo X163.here hx rfl (hb hby at_91) rfl ((if0 _ _).trans (tlt (by decide)).2.2.2) k) ?_
        refine Go.st (fun _ k => XS.lload X163.here hx rfl (hb hby at_94) rfl k) ?_
        refine Go.st (fun _ k => XS.iload X163.here hx rfl (hb hby at_96) rfl k) ?_
        refine Go.st (fun _ k => XS.i2l X163.here hx rfl (hb hby at_98) rfl k) ?_
        refine Go.st (fun _ k => XS.ladd X163.here hx rfl (hb hby at_99) rfl k) ?_
        refine Go.st (fun _ k => XS.lconst X163.here hx rfl (hb hby at_100) k) ?_
        refine Go.st (S' := T163.setTop (mkF m 102 #[sI p1, sJ q2, sS, sJ q3, sS, sJ q4, sS, sJ q5, sS, sI 1, sI n2, sI t3, sI tr, sJ s1, sS, sJ g2, sS, sJ g3, sS, sR b142, sJ 0, sS, sU, sU, sU, sU, sU, sU, sU, sU, sU, sU, sU, sU, sU, sU, sU] [(.long ((s1 + (1 : Int64)) - (1 : Int64)))])) (fun _ k => XS.lsub X163.here hx rfl (hb hby at_101) rfl k) ?_
        refine Go.st (S' := T163.setTop (mkF m 102 #[sI p1, sJ q2, sS, sJ q3, sS, sJ q4, sS, sJ q5, sS, sI 1, sI n2, sI t3, sI tr, sJ s1, sS, sJ g2, sS, sJ g3, sS, sR b142, sJ 0, sS, sU, sU, sU, sU, sU, sU, sU, sU, sU, sU, sU, sU, sU, sU, sU] [(.long s1)])) (fun _ k => by rw [(own_nw1 s1 : ((s1 + (1 : Int64)) - (1 : Int64)) = s1)]; exact k) ?_
        refine Go.st (fun _ k => XS.lstore X163.here hx rfl (hb hby at_102) rfl (l' := #[sI p1, sJ q2, sS, sJ q3, sS, sJ q4, sS, sJ q5, sS, sI 1, sI n2, sI t3, sI tr, sJ s1, sS, sJ g2, sS, sJ g3, sS, sR b142, sJ s1, sS, sU, sU, sU, sU, sU, sU, sU, sU, sU, sU, sU, sU, sU, sU, sU]) rfl k) ?_
        refine Go.st (S' := T163.setTop (mkF m 106 #[sI p1, sJ q2, sS, sJ q3, sS, sJ q4, sS, sJ q5, sS, sI 1, sI n2, sI t3, sI tr, sJ s1, sS, sJ g2, sS, sJ g3, sS, sR b142, sJ s1, sS, sU, sU, sU, sU, sU, sU, sU, sU, sU, sU, sU, sU, sU, sU, sU] [(.long s1)])) (fun _ k => XS.lload X163.here hx rfl (hb hby at_104) rfl k) ?_
        refine Go.st (S' := T163.setTop (mkF m 109 #[sI p1, sJ q2, sS, sJ q3, sS, sJ q4, sS, sJ q5, sS, sI 1, sI n2, sI t3, sI tr, sJ s1, sS, sJ g2, sS, sJ g3, sS, sR b142, sJ s1, sS, sU, sU, sU, sU, sU, sU, sU, sU, sU, sU, sU, sU, sU, sU, sU] [(.long (2 : Int64)), (.long s1)])) (X163.ldc2Long hx hown (mvT hZ (ww hw 41 rfl)) (g := (mkF m 106 #[sI p1, sJ q2, sS, sJ q3, sS, sJ q4, sS, sJ q5, sS, sI 1, sI n2, sI t3, sI tr, sJ s1, sS, sJ g2, sS, sJ g3, sS, sR b142, sJ s1, sS, sU, sU, sU, sU, sU, sU, sU, sU, sU, sU, sU, sU, sU, sU, sU] [(.long s1)])) rfl (hb hby at_106)) ?_
        refine Go.st (fun _ k => XS.ladd X163.here hx rfl (hb hby at_109) rfl k) ?_
        refine Go.st (fun _ k => XS.lload X163.here hx rfl (hb hby at_110) rfl k) ?_
        refine Go.st (S' := T163.setTop (mkF m 113 #[sI p1, sJ q2, sS, sJ q3, sS, sJ q4, sS, sJ q5, sS, sI 1, sI n2, sI t3, sI tr, sJ s1, sS, sJ g2, sS, sJ g3, sS, sR b142, sJ s1, sS, sU, sU, sU, sU, sU, sU, sU, sU, sU, sU, sU, sU, sU, sU, sU] [(.long ((s1 + (2 : Int64)) + g2))])) (fun _ k => XS.ladd X163.here hx rfl (hb hby at_112) rfl k) ?_
        obtain ⟨s2, hd_s2⟩ : ∃ z : Int64, z = ((s1 + (2 : Int64)) + g2) := ⟨_, rfl⟩
        refine Go.st (S' := T163.setTop (mkF m 113 #[sI p1, sJ q2, sS, sJ q3, sS, sJ q4, sS, sJ q5, sS, sI 1, sI n2, sI t3, sI tr, sJ s1, sS, sJ g2, sS, sJ g3, sS, sR b142, sJ s1, sS, sU, sU, sU, sU, sU, sU, sU, sU, sU, sU, sU, sU, sU, sU, sU] [(.long s2)])) (fun _ k => by rw [hd_s2] at k; exact k) ?_
        refine Go.st (S' := T163.setTop (mkF m 115 #[sI p1, sJ q2, sS, sJ q3, sS, sJ q4, sS, sJ q5, sS, sI 1, sI n2, sI t3, sI tr, sJ s1, sS, sJ g2, sS, sJ g3, sS, sR b142, sJ s1, sS, sJ s2, sS, sU, sU, sU, sU, sU, sU, sU, sU, sU, sU, sU, sU, sU] [])) (fun _ k => XS.lstore X163.here hx rfl (hb hby at_113) rfl (l' := #[sI p1, sJ q2, sS, sJ q3, sS, sJ q4, sS, sJ q5, sS, sI 1, sI n2, sI t3, sI tr, sJ s1, sS, sJ g2, sS, sJ g3, sS, sR b142, sJ s1, sS, sJ s2, sS, sU, sU, sU, sU, sU, sU, sU, sU, sU, sU, sU, sU, sU]) rfl k) ?_
        exact rR l Z a0 hw w_NONE k_NONE hS p1 q2 q3 q4 q5 p e s m below meth c ⟨hx, hby, hml, hown, hnm, hret, hlk, hZ⟩ _ _ _ (X163.mono (by decide) (by decide)) rfl N163 O163 _ _ _ _ _ _ _ _ _ _ _ _ _ _ _ gz142 ((A142.keep kp143).keep kp163) el163 ne_b142_ly163 flayout163 fnewest163 golderTimestamps163 golderTimes163 golderCount163 gfloor163 gslots163 ⟨⟨_, _, V_NONE.ext O163⟩, E_NONE.ext O163⟩ ⟨⟨_, _, V_NONE.ext O163⟩, E_NONE.ext O163⟩ va163 (by rw [own_o0]; decide) (Or.inl ⟨rfl, rfl⟩) (fun q => own_gap s1 g2 hg2 (hd_s2.symm.trans q)) hg3 hq2 hq3 hq4
      · refine Go.st (fun _ k => XS.iload X143.here hx rfl (hb hby at_82) rfl k) ?_
        refine Go.st (S' := T143.setTop (mkF m 86 #[sI p1, sJ q2, sS, sJ q3, sS, sJ q4, sS, sJ q5, sS, sI 2, sI n2, sI t3, sI tr, sJ s1, sS, sJ g2, sS, sJ g3, sS, sR b142, sJ 0, sS, sU, sU, sU, sU, sU, sU, sU, sU, sU, sU, sU, sU, sU, sU, sU] [(.long q5), (.int (2 : Int32)), (.long s1), (.ref b142)])) (fun _ k => XS.lload X143.here hx rfl (hb hby at_84) rfl k) ?_
        obtain ⟨_, T168, L168, X168, ⟨rfl, Nq168, kp168, ly168, ar168, sl168, sa168, nla168, el168, golderTimestamps168, golderTimes168, golderCount168, gfloor168, gslots168, flayout168, fnewest168, va168⟩, st168⟩ := own_callS X143 hx hZ hown (ww hw 37 rfl) (ww hw 38 rfl) (ww hw 39 rfl) (ww hw 40 rfl) (by decide) rfl (rmRI2 l Z a0 hw [] w_NONE k_NONE hS b142 s1 q5 ly143 T143.heap O143 gz142 (A142.keep kp143) el143 ne_b142_ly143 flayout143 fnewest143 golderTimestamps143 golderTimes143 golderCount143 gfloor143 gslots143) 0 (by decide) (by decide) (by decide) (by decide) (g := (mkF m 86 #[sI p1, sJ q2, sS, sJ q3, sS, sJ q4, sS, sJ q5, sS, sI 2, sI n2, sI t3, sI tr, sJ s1, sS, sJ g2, sS, sJ g3, sS, sR b142, sJ 0, sS, sU, sU, sU, sU, sU, sU, sU, sU, sU, sU, sU, sU, sU, sU, sU] [(.long q5), (.int (2 : Int32)), (.long s1), (.ref b142)])) rfl (by rw [hml]; rfl) [(.ref b142), (.long s1), (.int (2 : Int32)), (.long q5)] [] rfl (lenOf pd_502958 rfl) rfl (by show 2 * 0 + _ ≤ _; exact Nat.le_of_eq rfl) (hb hby at_86)
        have N168 := Fr.app N143 Nq168
        have ne_b142_ly168 : b142 ≠ ly168 := own_lt_ne' (A142.keep kp143).lt sl168
        have ne_ly143_ly168 : ly143 ≠ ly168 := own_lt_ne' el143.lt sl168
        have ne_b142_ar168 : b142 ≠ ar168 := own_lt_ne' (A142.keep kp143).lt sa168
        have ne_ly143_ar168 : ly143 ≠ ar168 := own_lt_ne' el143.lt sa168
        have O168 : Ext Z.heap T168.heap := own_Ext.keep O143 kp168 (allS gz142 all0)
        refine Go.st (S' := T168.setTop (mkF m 89 #[sI p1, sJ q2, sS, sJ q3, sS, sJ q4, sS, sJ q5, sS, sI 2, sI n2, sI t3, sI tr, sJ s1, sS, sJ g2, sS, sJ g3, sS, sR b142, sJ 0, sS, sU, sU, sU, sU, sU, sU, sU, sU, sU, sU, sU, sU, sU, sU, sU] [])) st168 ?_
        refine Go.st (S' := T168.setTop (mkF m 91 #[sI p1, sJ q2, sS, sJ q3, sS, sJ q4, sS, sJ q5, sS, sI 2, sI n2, sI t3, sI tr, sJ s1, sS, sJ g2, sS, sJ g3, sS, sR b142, sJ 0, sS, sU, sU, sU, sU, sU, sU, sU, sU, sU, sU, sU, sU, sU, sU, sU] [(.int (2 : Int32))])) (fun _ k => XS.iload X168.here hx rfl (hb hby at_89) rfl k) ?_
        refine Go.st (fun _ k => XS.ifNo X168.here hx rfl (hb hby at_91) rfl ((if0 _ _).trans (tlt (by decide)).2.2.2) k) ?_
        refine Go.st (fun _ k => XS.lload X168.here hx rfl (hb hby at_94) rfl k) ?_
        refine Go.st (fun _ k => XS.iload X168.here hx rfl (hb hby at_96) rfl k) ?_
        refine Go.st (fun _ k => XS.i2l X168.here hx rfl (hb hby at_98) rfl k) ?_
        refine Go.st (fun _ k => XS.ladd X168.here hx rfl (hb hby at_99) rfl k) ?_
        refine Go.st (fun _ k => XS.lconst X168.here hx rfl (hb hby at_100) k) ?_
        refine Go.st (S' := T168.setTop (mkF m 102 #[sI p1, sJ q2, sS, sJ q3, sS, sJ q4, sS, sJ q5, sS, sI 2, sI n2, sI t3, sI tr, sJ s1, sS, sJ g2, sS, sJ g3, sS, sR b142, sJ 0, sS, sU, sU, sU, sU, sU, sU, sU, sU, sU, sU, sU, sU, sU, sU, sU] [(.long ((s1 + (2 : Int64)) - (1 : Int64)))])) (fun _ k => XS.lsub X168.here hx rfl (hb hby at_101) rfl k) ?_
        refine Go.st (S' := T168.setTop (mkF m 102 #[sI p1, sJ q2, sS, sJ q3, sS, sJ q4, sS, sJ q5, sS, sI 2, sI n2, sI t3, sI tr, sJ s1, sS, sJ g2, sS, sJ g3, sS, sR b142, sJ 0, sS, sU, sU, sU, sU, sU, sU, sU, sU, sU, sU, sU, sU, sU, sU, sU] [(.long (s1 + (1 : Int64)))])) (fun _ k => by rw [(own_nw2 s1 : ((s1 + (2 : Int64)) - (1 : Int64)) = (s1 + (1 : Int64)))]; exact k) ?_
        refine Go.st (fun _ k => XS.lstore X168.here hx rfl (hb hby at_102) rfl (l' := #[sI p1, sJ q2, sS, sJ q3, sS, sJ q4, sS, sJ q5, sS, sI 2, sI n2, sI t3, sI tr, sJ s1, sS, sJ g2, sS, sJ g3, sS, sR b142, sJ (s1 + (1 : Int64)), sS, sU, sU, sU, sU, sU, sU, sU, sU, sU, sU, sU, sU, sU, sU, sU]) rfl k) ?_
        refine Go.st (S' := T168.setTop (mkF m 106 #[sI p1, sJ q2, sS, sJ q3, sS, sJ q4, sS, sJ q5, sS, sI 2, sI n2, sI t3, sI tr, sJ s1, sS, sJ g2, sS, sJ g3, sS, sR b142, sJ (s1 + (1 : Int64)), sS, sU, sU, sU, sU, sU, sU, sU, sU, sU, sU, sU, sU, sU, sU, sU] [(.long (s1 + (1 : Int64)))])) (fun _ k => XS.lload X168.here hx rfl (hb hby at_104) rfl k) ?_
        refine Go.st (S' := T168.setTop (mkF m 109 #[sI p1, sJ q2, sS, sJ q3, sS, sJ q4, sS, sJ q5, sS, sI 2, sI n2, sI t3, sI tr, sJ s1, sS, sJ g2, sS, sJ g3, sS, sR b142, sJ (s1 + (1 : Int64)), sS, sU, sU, sU, sU, sU, sU, sU, sU, sU, sU, sU, sU, sU, sU, sU] [(.long (2 : Int64)), (.long (s1 + (1 : Int64)))])) (X168.ldc2Long hx hown (mvT hZ (ww hw 41 rfl)) (g := (mkF m 106 #[sI p1, sJ q2, sS, sJ q3, sS, sJ q4, sS, sJ q5, sS, sI 2, sI n2, sI t3, sI tr, sJ s1, sS, sJ g2, sS, sJ g3, sS, sR b142, sJ (s1 + (1 : Int64)), sS, sU, sU, sU, sU, sU, sU, sU, sU, sU, sU, sU, sU, sU, sU, sU] [(.long (s1 + (1 : Int64)))])) rfl (hb hby at_106)) ?_
        refine Go.st (fun _ k => XS.ladd X168.here hx rfl (hb hby at_109) rfl k) ?_
        refine Go.st (fun _ k => XS.lload X168.here hx rfl (hb hby at_110) rfl k) ?_
        refine Go.st (S' := T168.setTop (mkF m 113 #[sI p1, sJ q2, sS, sJ q3, sS, sJ q4, sS, sJ q5, sS, sI 2, sI n2, sI t3, sI tr, sJ s1, sS, sJ g2, sS, sJ g3, sS, sR b142, sJ (s1 + (1 : Int64)), sS, sU, sU, sU, sU, sU, sU, sU, sU, sU, sU, sU, sU, sU, sU, sU] [(.long (((s1 + (1 : Int64)) + (2 : Int64)) + g2))])) (fun _ k => XS.ladd X168.here hx rfl (hb hby at_112) rfl k) ?_
        obtain ⟨s2, hd_s2⟩ : ∃ z : Int64, z = (((s1 + (1 : Int64)) + (2 : Int64)) + g2) := ⟨_, rfl⟩
        refine Go.st (S' := T168.setTop (mkF m 113 #[sI p1, sJ q2, sS, sJ q3, sS, sJ q4, sS, sJ q5, sS, sI 2, sI n2, sI t3, sI tr, sJ s1, sS, sJ g2, sS, sJ g3, sS, sR b142, sJ (s1 + (1 : Int64)), sS, sU, sU, sU, sU, sU, sU, sU, sU, sU, sU, sU, sU, sU, sU, sU] [(.long s2)])) (fun _ k => by rw [hd_s2] at k; exact k) ?_
        refine Go.st (S' := T168.setTop (mkF m 115 #[sI p1, sJ q2, sS, sJ q3, sS, sJ q4, sS, sJ q5, sS, sI 2, sI n2, sI t3, sI tr, sJ s1, sS, sJ g2, sS, sJ g3, sS, sR b142, sJ (s1 + (1 : Int64)), sS, sJ s2, sS, sU, sU, sU, sU, sU, sU, sU, sU, sU, sU, sU, sU, sU] [])) (fun _ k => XS.lstore X168.here hx rfl (hb hby at_113) rfl (l' := #[sI p1, sJ q2, sS, sJ q3, sS, sJ q4, sS, sJ q5, sS, sI 2, sI n2, sI t3, sI tr, sJ s1, sS, sJ g2, sS, sJ g3, sS, sR b142, sJ (s1 + (1 : Int64)), sS, sJ s2, sS, sU, sU, sU, sU, sU, sU, sU, sU, sU, sU, sU, sU, sU]) rfl k) ?_
        exact rR l Z a0 hw w_NONE k_NONE hS p1 q2 q3 q4 q5 p e s m below meth c ⟨hx, hby, hml, hown, hnm, hret, hlk, hZ⟩ _ _ _ (X168.mono (by decide) (by decide)) rfl N168 O168 _ _ _ _ _ _ _ _ _ _ _ _ _ _ _ gz142 ((A142.keep kp143).keep kp168) el168 ne_b142_ly168 flayout168 fnewest168 golderTimestamps168 golderTimes168 golderCount168 gfloor168 gslots168 ⟨⟨_, _, V_NONE.ext O168⟩, E_NONE.ext O168⟩ ⟨⟨_, _, V_NONE.ext O168⟩, E_NONE.ext O168⟩ va168 (by rw [own_o1]; decide) (Or.inr (Or.inl ⟨rfl, rfl⟩)) (fun q => own_gap (s1 + (1 : Int64)) g2 hg2 (hd_s2.symm.trans q)) hg3 hq2 hq3 hq4
      · refine Go.st (fun _ k => XS.iload X143.here hx rfl (hb hby at_82) rfl k) ?_
        refine Go.st (S' := T143.setTop (mkF m 86 #[sI p1, sJ q2, sS, sJ q3, sS, sJ q4, sS, sJ q5, sS, sI 3, sI n2, sI t3, sI tr, sJ s1, sS, sJ g2, sS, sJ g3, sS, sR b142, sJ 0, sS, sU, sU, sU, sU, sU, sU, sU, sU, sU, sU, sU, sU, sU, sU, sU] [(.long q5), (.int (3 : Int32)), (.long s1), (.ref b142)])) (fun _ k => XS.lload X143.here hx rfl (hb hby at_84) rfl k) ?_
        obtain ⟨_, T169, L169, X169, ⟨rfl, Nq169, kp169, ly169, ar169, sl169, sa169, nla169, el169, golderTimestamps169, golderTimes169, golderCount169, gfloor169, gslots169, flayout169, fnewest169, va169⟩, st169⟩ := own_callS X143 hx hZ hown (ww hw 37 rfl) (ww hw 38 rfl) (ww hw 39 rfl) (ww hw 40 rfl) (by decide) rfl (rmRI3 l Z a0 hw [] w_NONE k_NONE hS b142 s1 q5 ly143 T143.heap O143 gz142 (A142.keep kp143) el143 ne_b142_ly143 flayout143 fnewest143 golderTimestamps143 golderTimes143 golderCount143 gfloor143 gslots143) 0 (by decide) (by decide) (by decide) (by decide) (g := (mkF m 86 #[sI p1, sJ q2, sS, sJ q3, sS, sJ q4, sS, sJ q5, sS, sI 3, sI n2, sI t3, sI tr, sJ s1, sS, sJ g2, sS, sJ g3, sS, sR b142, sJ 0, sS, sU, sU, sU, sU, sU, sU, sU, sU, sU, sU, sU, sU, sU, sU, sU] [(.long q5), (.int (3 : Int32)), (.long s1), (.ref b142)])) rfl (by rw [hml]; rfl) [(.ref b142), (.long s1), (.int (3 : Int32)), (.long q5)] [] rfl (lenOf pd_502958 rfl) rfl (by show 2 * 0 + _ ≤ _; exact Nat.le_of_eq rfl) (hb hby at_86)
        have N169 := Fr.app N143 Nq169
        have ne_b142_ly169 : b142 ≠ ly169 := own_lt_ne' (A142.keep kp143).lt sl169
        have ne_ly143_ly169 : ly143 ≠ ly169 := own_lt_ne' el143.lt sl169
        have ne_b142_ar169 : b142 ≠ ar169 := own_lt_ne' (A142.keep kp143).lt sa169
        have ne_ly143_ar169 : ly143 ≠ ar169 := own_lt_ne' el143.lt sa169
        have O169 : Ext Z.heap T169.heap := own_Ext.keep O143 kp169 (allS gz142 all0)
        refine Go.st (S' := T169.setTop (mkF m 89 #[sI p1, sJ q2, sS, sJ q3, sS, sJ q4, sS, sJ q5, sS, sI 3, sI n2, sI t3, sI tr, sJ s1, sS, sJ g2, sS, sJ g3, sS, sR b142, sJ 0, sS, sU, sU, sU, sU, sU, sU, sU, sU, sU, sU, sU, sU, sU, sU, sU] [])) st169 ?_
        refine Go.st (S' := T169.setTop (mkF m 91 #[sI p1, sJ q2, sS, sJ q3, sS, sJ q4, sS, sJ q5, sS, sI 3, sI n2, sI t3, sI tr, sJ s1, sS, sJ g2, sS, sJ g3, sS, sR b142, sJ 0, sS, sU, sU, sU, sU, sU, sU, sU, sU, sU, sU, sU, sU, sU, sU, sU] [(.int (3 : Int32))])) (fun _ k => XS.iload X169.here hx rfl (hb hby at_89) rfl k) ?_
        refine Go.st (fun _ k => XS.ifNo X169.here hx rfl (hb hby at_91) rfl ((if0 _ _).trans (tlt (by decide)).2.2.2) k) ?_
        refine Go.st (fun _ k => XS.lload X169.here hx rfl (hb hby at_94) rfl k) ?_
        refine Go.st (fun _ k => XS.iload X169.here hx rfl (hb hby at_96) rfl k) ?_
        refine Go.st (fun _ k => XS.i2l X169.here hx rfl (hb hby at_98) rfl k) ?_
        refine Go.st (fun _ k => XS.ladd X169.here hx rfl (hb hby at_99) rfl k) ?_
        refine Go.st (fun _ k => XS.lconst X169.here hx rfl (hb hby at_100) k) ?_
        refine Go.st (S' := T169.setTop (mkF m 102 #[sI p1, sJ q2, sS, sJ q3, sS, sJ q4, sS, sJ q5, sS, sI 3, sI n2, sI t3, sI tr, sJ s1, sS, sJ g2, sS, sJ g3, sS, sR b142, sJ 0, sS, sU, sU, sU, sU, sU, sU, sU, sU, sU, sU, sU, sU, sU, sU, sU] [(.long ((s1 + (3 : Int64)) - (1 : Int64)))])) (fun _ k => XS.lsub X169.here hx rfl (hb hby at_101) rfl k) ?_
        refine Go.st (S' := T169.setTop (mkF m 102 #[sI p1, sJ q2, sS, sJ q3, sS, sJ q4, sS, sJ q5, sS, sI 3, sI n2, sI t3, sI tr, sJ s1, sS, sJ g2, sS, sJ g3, sS, sR b142, sJ 0, sS, sU, sU, sU, sU, sU, sU, sU, sU, sU, sU, sU, sU, sU, sU, sU] [(.long (s1 + (2 : Int64)))])) (fun _ k => by rw [(own_nw3 s1 : ((s1 + (3 : Int64)) - (1 : Int64)) = (s1 + (2 : Int64)))]; exact k) ?_
        refine Go.st (fun _ k => XS.lstore X169.here hx rfl (hb hby at_102) rfl (l' := #[sI p1, sJ q2, sS, sJ q3, sS, sJ q4, sS, sJ q5, sS, sI 3, sI n2, sI t3, sI tr, sJ s1, sS, sJ g2, sS, sJ g3, sS, sR b142, sJ (s1 + (2 : Int64)), sS, sU, sU, sU, sU, sU, sU, sU, sU, sU, sU, sU, sU, sU, sU, sU]) rfl k) ?_
        refine Go.st (S' := T169.setTop (mkF m 106 #[sI p1, sJ q2, sS, sJ q3, sS, sJ q4, sS, sJ q5, sS, sI 3, sI n2, sI t3, sI tr, sJ s1, sS, sJ g2, sS, sJ g3, sS, sR b142, sJ (s1 + (2 : Int64)), sS, sU, sU, sU, sU, sU, sU, sU, sU, sU, sU, sU, sU, sU, sU, sU] [(.long (s1 + (2 : Int64)))])) (fun _ k => XS.lload X169.here hx rfl (hb hby at_104) rfl k) ?_
        refine Go.st (S' := T169.setTop (mkF m 109 #[sI p1, sJ q2, sS, sJ q3, sS, sJ q4, sS, sJ q5, sS, sI 3, sI n2, sI t3, sI tr, sJ s1, sS, sJ g2, sS, sJ g3, sS, sR b142, sJ (s1 + (2 : Int64)), sS, sU, sU, sU, sU, sU, sU, sU, sU, sU, sU, sU, sU, sU, sU, sU] [(.long (2 : Int64)), (.long (s1 + (2 : Int64)))])) (X169.ldc2Long hx hown (mvT hZ (ww hw 41 rfl)) (g := (mkF m 106 #[sI p1, sJ q2, sS, sJ q3, sS, sJ q4, sS, sJ q5, sS, sI 3, sI n2, sI t3, sI tr, sJ s1, sS, sJ g2, sS, sJ g3, sS, sR b142, sJ (s1 + (2 : Int64)), sS, sU, sU, sU, sU, sU, sU, sU, sU, sU, sU, sU, sU, sU, sU, sU] [(.long (s1 + (2 : Int64)))])) rfl (hb hby at_106)) ?_
        refine Go.st (fun _ k => XS.ladd X169.here hx rfl (hb hby at_109) rfl k) ?_
        refine Go.st (fun _ k => XS.lload X169.here hx rfl (hb hby at_110) rfl k) ?_
        refine Go.st (S' := T169.setTop (mkF m 113 #[sI p1, sJ q2, sS, sJ q3, sS, sJ q4, sS, sJ q5, sS, sI 3, sI n2, sI t3, sI tr, sJ s1, sS, sJ g2, sS, sJ g3, sS, sR b142, sJ (s1 + (2 : Int64)), sS, sU, sU, sU, sU, sU, sU, sU, sU, sU, sU, sU, sU, sU, sU, sU] [(.long (((s1 + (2 : Int64)) + (2 : Int64)) + g2))])) (fun _ k => XS.ladd X169.here hx rfl (hb hby at_112) rfl k) ?_
        obtain ⟨s2, hd_s2⟩ : ∃ z : Int64, z = (((s1 + (2 : Int64)) + (2 : Int64)) + g2) := ⟨_, rfl⟩
        refine Go.st (S' := T169.setTop (mkF m 113 #[sI p1, sJ q2, sS, sJ q3, sS, sJ q4, sS, sJ q5, sS, sI 3, sI n2, sI t3, sI tr, sJ s1, sS, sJ g2, sS, sJ g3, sS, sR b142, sJ (s1 + (2 : Int64)), sS, sU, sU, sU, sU, sU, sU, sU, sU, sU, sU, sU, sU, sU, sU, sU] [(.long s2)])) (fun _ k => by rw [hd_s2] at k; exact k) ?_
        refine Go.st (S' := T169.setTop (mkF m 115 #[sI p1, sJ q2, sS, sJ q3, sS, sJ q4, sS, sJ q5, sS, sI 3, sI n2, sI t3, sI tr, sJ s1, sS, sJ g2, sS, sJ g3, sS, sR b142, sJ (s1 + (2 : Int64)), sS, sJ s2, sS, sU, sU, sU, sU, sU, sU, sU, sU, sU, sU, sU, sU, sU] [])) (fun _ k => XS.lstore X169.here hx rfl (hb hby at_113) rfl (l' := #[sI p1, sJ q2, sS, sJ q3, sS, sJ q4, sS, sJ q5, sS, sI 3, sI n2, sI t3, sI tr, sJ s1, sS, sJ g2, sS, sJ g3, sS, sR b142, sJ (s1 + (2 : Int64)), sS, sJ s2, sS, sU, sU, sU, sU, sU, sU, sU, sU, sU, sU, sU, sU, sU]) rfl k) ?_
        exact rR l Z a0 hw w_NONE k_NONE hS p1 q2 q3 q4 q5 p e s m below meth c ⟨hx, hby, hml, hown, hnm, hret, hlk, hZ⟩ _ _ _ (X169.mono (by decide) (by decide)) rfl N169 O169 _ _ _ _ _ _ _ _ _ _ _ _ _ _ _ gz142 ((A142.keep kp143).keep kp169) el169 ne_b142_ly169 flayout169 fnewest169 golderTimestamps169 golderTimes169 golderCount169 gfloor169 gslots169 ⟨⟨_, _, V_NONE.ext O169⟩, E_NONE.ext O169⟩ ⟨⟨_, _, V_NONE.ext O169⟩, E_NONE.ext O169⟩ va169 (by rw [own_o1]; decide) (Or.inr (Or.inr ⟨rfl, rfl⟩)) (fun q => own_gap (s1 + (2 : Int64)) g2 hg2 (hd_s2.symm.trans q)) hg3 hq2 hq3 hq4
    by_cases hc32 : (((p1.toUInt32 >>> ((5 : Int32) &&& 31).toUInt32).toInt32) &&& (1 : Int32)) = (0 : Int32)
    · refine Go.st (fun _ k => XS.ifYes X0.here hx rfl (pc0 := 32) (pc' := 39) rfl (hb hby at_32) rfl ((if0 _ _).trans (teq hc32).1) (by decide) (by decide) k) ?_
      refine Go.st (S' := T0.setTop (mkF m 40 #[sI p1, sJ q2, sS, sJ q3, sS, sJ q4, sS, sJ q5, sS, sI n1, sI n2, sI t3, sU, sU, sU, sU, sU, sU, sU, sU, sU, sU, sU, sU, sU, sU, sU, sU, sU, sU, sU, sU, sU, sU, sU, sU, sU] [(.int (0 : Int32))])) (fun _ k => XS.iconst X0.here hx rfl (hb hby at_39) k) ?_
      exact k4 _ (Or.inl rfl)
    · refine Go.st (fun _ k => XS.ifNo X0.here hx rfl (hb hby at_32) rfl ((if0 _ _).trans (feq hc32).1) k) ?_
      refine Go.st (fun _ k => XS.iconst X0.here hx rfl (hb hby at_35) k) ?_
      refine Go.st (S' := T0.setTop (mkF m 40 #[sI p1, sJ q2, sS, sJ q3, sS, sJ q4, sS, sJ q5, sS, sI n1, sI n2, sI t3, sU, sU, sU, sU, sU, sU, sU, sU, sU, sU, sU, sU, sU, sU, sU, sU, sU, sU, sU, sU, sU, sU, sU, sU, sU] [(.int (1 : Int32))])) (fun _ k => XS.goto X0.here hx rfl (pc0 := 36) (pc' := 40) rfl (hb hby at_36) (by decide) (by decide) k) ?_
      exact k4 _ (Or.inr rfl)
  by_cases hc17 : (((p1.toUInt32 >>> ((4 : Int32) &&& 31).toUInt32).toInt32) &&& (1 : Int32)) = (0 : Int32)
  · refine Go.st (fun _ k => XS.ifYes X0.here hx rfl (pc0 := 17) (pc' := 24) rfl (hb hby at_17) rfl ((if0 _ _).trans (teq hc17).1) (by decide) (by decide) k) ?_
    refine Go.st (S' := T0.setTop (mkF m 25 #[sI p1, sJ q2, sS, sJ q3, sS, sJ q4, sS, sJ q5, sS, sI n1, sI n2, sU, sU, sU, sU, sU, sU, sU, sU, sU, sU, sU, sU, sU, sU, sU, sU, sU, sU, sU, sU, sU, sU, sU, sU, sU, sU] [(.int (0 : Int32))])) (fun _ k => XS.iconst X0.here hx rfl (hb hby at_24) k) ?_
    exact k3 _ (Or.inl rfl)
  · refine Go.st (fun _ k => XS.ifNo X0.here hx rfl (hb hby at_17) rfl ((if0 _ _).trans (feq hc17).1) k) ?_
    refine Go.st (fun _ k => XS.iconst X0.here hx rfl (hb hby at_20) k) ?_
    refine Go.st (S' := T0.setTop (mkF m 25 #[sI p1, sJ q2, sS, sJ q3, sS, sJ q4, sS, sJ q5, sS, sI n1, sI n2, sU, sU, sU, sU, sU, sU, sU, sU, sU, sU, sU, sU, sU, sU, sU, sU, sU, sU, sU, sU, sU, sU, sU, sU, sU, sU] [(.int (1 : Int32))])) (fun _ k => XS.goto X0.here hx rfl (pc0 := 21) (pc' := 25) rfl (hb hby at_21) (by decide) (by decide) k) ?_
    exact k3 _ (Or.inr rfl)
set_option maxRecDepth 65536 in
set_option maxHeartbeats 400000000 in
theorem comes_1 {Post : Tables → Env → Array Value → State → Outcome → State → Prop} (hpost : ∀ tb e args s v u, (limb_1_1.after args s (.returned v) u = true ∧ limb_1_2.after args s (.returned v) u = true ∧ True) → FrameEnd s (.returned v) u (Jvm.fieldLocs frame_1_writes args s ++ Jvm.arrayLocs frame_1_arrays args s ++ Jvm.staticLocs frame_1_statics s) 56 256 → Post tb e args s (.returned v) u) :
    ArmFor flags0 classFile x code maxLocals ret World_1 tables_1 room_1 Calls_1 rest_1 Pre_1 Post := by
  intro l hfl _ _ p e ha hc hk s m args below hf hA hF happ hP
  obtain ⟨hcalls, hrest, hpre⟩ := hP
  obtain ⟨-, -, -, hnamed, -, -, -, hat⟩ := (Spec.applies_iff hf).mp happ
  obtain ⟨hg, hn⟩ := and_e (Cond.before_iff.mp (show (Jvm.Cond.and given_1 narrow_1).before args s = true from hpre))
  obtain ⟨hg1, hg2⟩ := and_e hg
  obtain ⟨hg3, hg4⟩ := and_e hg2
  obtain ⟨hg5, hg6⟩ := and_e hg4
  obtain ⟨hg7, hg8⟩ := and_e hg6
  obtain ⟨hg9, hg10⟩ := and_e hg8
  obtain ⟨v0, v1, v2, v3, v4, rfl⟩ : ∃ v0 v1 v2 v3 v4 : Value, args = #[v0, v1, v2, v3, v4] := by
    have hs : args.size = 5 := by simpa [Cond.value, given_1] using hg1
    obtain ⟨L⟩ := args
    match L, hs with
    | [v0, v1, v2, v3, v4], _ => exact ⟨v0, v1, v2, v3, v4, rfl⟩
  have hw := fun d (hd : d ∈ tables_1) => atoms_spec (ws := Jvm.Cond.code x code maxLocals ret :: tables_1) hat d (List.mem_cons_of_mem _ hd)
  have hfit : Fit s := fun {y c} hc i hi => by
    obtain ⟨ha, rfl⟩ := Array.getElem?_eq_some_iff.mp hc
    have q := List.all_eq_true.mp ((Array.all_eq_true_iff_forall_mem.mp hF) _ (Array.getElem_mem ha)) i (List.mem_range.mpr hi)
    simpa [Array.getElem?_eq_getElem hi] using q
  obtain ⟨i0, ei0⟩ := is_v hg3
  obtain rfl : v0 = (.int i0) := Option.some.inj ei0
  obtain ⟨i1, ei1⟩ := isL_v hg5
  obtain rfl : v1 = (.long i1) := Option.some.inj ei1
  obtain ⟨i2, ei2⟩ := isL_v hg7
  obtain rfl : v2 = (.long i2) := Option.some.inj ei2
  obtain ⟨i3, ei3⟩ := isL_v hg9
  obtain rfl : v3 = (.long i3) := Option.some.inj ei3
  obtain ⟨i4, ei4⟩ := isL_v hg10
  obtain rfl : v4 = (.long i4) := Option.some.inj ei4
  obtain ⟨hn1, hn2⟩ := and_e hn
  obtain ⟨hn3, hn4⟩ := and_e hn2
  obtain ⟨w_NONE, ev_NONE⟩ := arr_v hn1
  have S_NONE : Sta s s.heap "com/example/palimpsest/palimpsest/CommitTimes" "NONE" "[J" (.ref w_NONE) := Sta.start ev_NONE (Or.inr ⟨(ww hw 4 rfl), (ww hw 15 rfl)⟩)
  obtain ⟨cl_NONE, Ar_NONE⟩ := Arr.start ev_NONE hn1
  have E_NONE : Exa s s.heap w_NONE "[J" := Exa.start ev_NONE hn3
  obtain ⟨k_NONE, V_NONE⟩ : ∃ k, Arv s s.heap w_NONE k .long (0 : Int32) [] (.long (0 : Int64)) := ⟨_, own_arv0 hfit ev_NONE Ar_NONE hn4⟩
  obtain ⟨n, o, h1, h2, h3, _, L, rfl, ⟨rfl, N⟩, hq⟩ := rm0 l s _ hw tables_1 w_NONE k_NONE ⟨S_NONE, E_NONE, V_NONE⟩ i0 i1 i2 i3 i4 s.heap (own_Ext.refl _)  p e ha hc hk s m _ below hf ((Spec.applies_iff_loose hf).mp happ).1 ⟨rfl, State.Warmed39.refl s, rfl⟩ trivial
  refine ⟨n, _, h1, h2, h3, hpost _ _ _ _ _ _ ⟨Cond.after_iff.mpr rfl, Cond.after_iff.mpr (eq_i res_at (Term.int_eval (1)) rfl), trivial⟩ ⟨hq.1, hq.2.1, (hq.2.2.sift fun y hy => Or.inr (N y hy)).mono (by decide) (by decide)⟩⟩
theorem main_1_1 : Claimed_1_1 := comes_1 fun _ _ _ _ _ _ h hF => ⟨h.1, hF⟩
theorem main_1_2 : Claimed_1_2 := comes_1 fun _ _ _ _ _ _ h hF => ⟨h.2.1, hF⟩
end Jvm.Pilot.@@N@@
namespace Jvm.Pilot.@@N@@
open Jvm Jvm.ClassFile Sem Op Lib Jvm.Free Jvm.Stand Jvm.Pilot.@@N@@.Jvm.D
/-! MADE BY PROGRAM (witnessworld.py) out of the Statement's table words and the real class files: 16 classes; the members and pool entries that the words name. The judged class is class 1, her method 3. -/
namespace start1
open Jvm.ClassFile
def u (s : String) : CpInfo := .utf8 (stringToUtf16 s)
/-- a pool by its gaps: so many unusable entries, then the entry; so many at the end -/
def gap : Nat → List CpInfo → List CpInfo
  | 0, r => r
  | n + 1, r => .unusable :: gap n r
def poolList (es : List (Nat × CpInfo)) (last : Nat) : List CpInfo := es.foldr (fun e r => gap e.1 (e.2 :: r)) (gap last [])
def pool (es : List (Nat × CpInfo)) (last : Nat) : Array CpInfo := ⟨poolList es last⟩
def fileOf (pool : Array CpInfo) (this : Nat) (attrs : Array Attribute := #[]) (ms : Array MethodInfo := #[]) (fl : Nat := 33) (sup : Nat := 0) (ifs : Array Nat := #[]) (fds : Array FieldInfo := #[]) : ClassFile where
  minorVersion := 0
  majorVersion := 65
  constantPool := pool
  accessFlags := fl
  thisClass := this
  superClass := sup
  interfaces := ifs
  fields := fds
  methods := ms
  attributes := attrs
def plain (name : String) (sup : Option ClassId) : Class where
  name := name
  kind := .ordinary
  loader := none
  accessFlags := 33
  super := sup
  interfaces := #[]
  cf := none
  fields := #[]
  methods := #[]
  instanceTypes := #[]
  staticTypes := #[]
  resolved := #[]
  callSites := []
  init := .initialized
  statics := none
  mirror := none

def pool0 : Array CpInfo := pool [(5, u "<init>"), (0, u "()V"), (1, .class_ 10), (1, u "java/lang/Object"), (85, u "clone"), (0, u "()Ljava/lang/Object;")] 26

def k0c0 : Code := { maxStack := 0, maxLocals := 1, code := object_method_1_code, exceptionTable := #[], attributes := #[] }
def k0m0 : Method := { name := "<init>", desc := "()V", sig := { parameters := [], returnType := none }, accessFlags := 1, code := some k0c0 }
def k0m1 : Method := { name := "clone", desc := "()Ljava/lang/Object;", sig := { parameters := [], returnType := some (.object "java/lang/Object") }, accessFlags := 260, code := none }
/-- java/lang/Object -/
def k0 : Class := { plain "java/lang/Object" none with
  accessFlags := 33
  interfaces := #[]
  cf := some (fileOf pool0 8 #[] #[{ accessFlags := 1, nameIndex := 5, descriptorIndex := 6, attributes := #[] }, { accessFlags := 260, nameIndex := 96, descriptorIndex := 97, attributes := #[] }] 33 0 #[] #[])
  fields := #[]
  methods := #[k0m0, k0m1]
  instanceTypes := #[]
  staticTypes := #[]
  resolved := Array.replicate 124 none
  statics := none }

def pool1 : Array CpInfo := pool [(2, .class_ 4), (0, .nameAndType 5 6), (0, u "java/lang/Object"), (0, u "<init>"), (0, u "()V"), (0, .methodref 8 9), (0, .class_ 10), (0, .nameAndType 11 12), (0, u "com/example/palimpsest/palimpsest/CommitTimes"), (0, u "add"), (0, u "(JJ)V"), (0, .long 2), (1, .long 2305843009213693951), (1, .long 1152921504606846975), (1, .methodref 8 3), (0, .methodref 21 22), (0, .class_ 23), (0, .nameAndType 24 25), (0, u "com/example/palimpsest/palimpsest/CommitTimesHeapBytesPinLaw"), (0, u "run"), (0, u "(Lcom/example/palimpsest/palimpsest/CommitTimes;JIJ)V"), (0, .methodref 8 27), (0, .nameAndType 28 6), (0, u "trim"), (0, .methodref 8 30), (0, .nameAndType 31 32), (0, u "heapBytes"), (0, u "()J"), (0, .methodref 34 35), (0, .class_ 36), (0, .nameAndType 37 38), (0, u "java/lang/Math"), (0, u "max"), (0, u "(II)I"), (0, .long 8), (1, .long 16), (1, .methodref 21 44), (0, .nameAndType 45 46), (0, u "room"), (0, u "(I)I"), (3, u "law"), (0, u "(IJJJJ)Z")] 2

def k1m0 : Method := { name := "<init>", desc := "()V", sig := { parameters := [], returnType := none }, accessFlags := 1, code := none }
def k1c1 : Code := { maxStack := 7, maxLocals := 6, code := method_2_code, exceptionTable := #[], attributes := #[] }
def k1m1 : Method := { name := "run", desc := "(Lcom/example/palimpsest/palimpsest/CommitTimes;JIJ)V", sig := { parameters := [(.object "com/example/palimpsest/palimpsest/CommitTimes"), .long, .int, .long], returnType := none }, accessFlags := 10, code := some k1c1 }
def k1c2 : Code := { maxStack := 2, maxLocals := 1, code := method_3_code, exceptionTable := #[], attributes := #[] }
def k1m2 : Method := { name := "room", desc := "(I)I", sig := { parameters := [.int], returnType := some .int }, accessFlags := 10, code := some k1c2 }
def k1c3 : Code := { maxStack := 6, maxLocals := 37, code := code, exceptionTable := #[], attributes := #[] }
def k1m3 : Method := { name := "law", desc := "(IJJJJ)Z", sig := { parameters := [.int, .long, .long, .long, .long], returnType := some .boolean }, accessFlags := 9, code := some k1c3 }
/-- com/example/palimpsest/palimpsest/CommitTimesHeapBytesPinLaw -/
def k1 : Class := { plain "com/example/palimpsest/palimpsest/CommitTimesHeapBytesPinLaw" (some 0) with
  accessFlags := 49
  interfaces := #[]
  cf := some (fileOf pool1 21 #[] #[{ accessFlags := 1, nameIndex := 5, descriptorIndex := 6, attributes := #[] }, { accessFlags := 10, nameIndex := 24, descriptorIndex := 25, attributes := #[] }, { accessFlags := 10, nameIndex := 45, descriptorIndex := 46, attributes := #[] }, { accessFlags := 9, nameIndex := 50, descriptorIndex := 51, attributes := #[] }] 49 2 #[] #[])
  fields := #[]
  methods := #[k1m0, k1m1, k1m2, k1m3]
  instanceTypes := #[]
  staticTypes := #[]
  resolved := Array.replicate 54 none
  statics := none }

def pool2 : Array CpInfo := pool [(3, .methodref 4 5), (0, .class_ 6), (0, .nameAndType 7 8), (0, u "java/lang/Object"), (0, u "<init>"), (0, u "()V"), (0, .class_ 10), (0, u "com/example/palimpsest/palimpsest/CommitTimes$Layout"), (0, .fieldref 12 13), (0, .class_ 14), (0, .nameAndType 15 16), (0, u "com/example/palimpsest/palimpsest/CommitTimes"), (0, u "NONE"), (0, u "[J"), (0, .methodref 9 18), (0, .nameAndType 7 19), (0, u "([J[JIJ[J)V"), (0, .fieldref 12 21), (0, .nameAndType 22 23), (0, u "layout"), (0, u "Lcom/example/palimpsest/palimpsest/CommitTimes$Layout;"), (2, u "TEXT"), (0, u "Ljava/time/format/DateTimeFormatter;"), (12, .fieldref 12 41), (0, .nameAndType 42 43), (0, u "newest"), (0, u "J"), (0, .methodref 9 45), (0, .nameAndType 46 47), (0, u "olderThan"), (0, u "(JJ)Lcom/example/palimpsest/palimpsest/CommitTimes$Layout;"), (0, .fieldref 9 49), (0, .nameAndType 50 43), (0, u "floor"), (0, .fieldref 9 52), (0, .nameAndType 53 16), (0, u "slots"), (0, .methodref 9 55), (0, .nameAndType 56 47), (0, u "rebased"), (0, .methodref 9 58), (0, .nameAndType 59 60), (0, u "trimmed"), (0, u "(J)Lcom/example/palimpsest/palimpsest/CommitTimes$Layout;"), (7, .class_ 70), (1, u "com/example/palimpsest/palimpsest/CommitTimes$Older"), (9, .long 8), (1, .fieldref 9 83), (0, .nameAndType 84 16), (0, u "olderTimestamps"), (0, .fieldref 9 86), (0, .nameAndType 87 16), (0, u "olderTimes"), (28, u "UNKNOWN"), (5, u "add"), (0, u "(JJ)V"), (1, u "trim"), (2, u "heapBytes"), (0, u "()J")] 11

def k2c0 : Code := { maxStack := 9, maxLocals := 1, code := prog_7_method_1_code, exceptionTable := #[], attributes := #[] }
def k2m0 : Method := { name := "<init>", desc := "()V", sig := { parameters := [], returnType := none }, accessFlags := 0, code := some k2c0 }
def k2c1 : Code := { maxStack := 6, maxLocals := 9, code := prog_7_method_3_code, exceptionTable := #[], attributes := #[] }
def k2m1 : Method := { name := "add", desc := "(JJ)V", sig := { parameters := [.long, .long], returnType := none }, accessFlags := 0, code := some k2c1 }
def k2c2 : Code := { maxStack := 4, maxLocals := 1, code := prog_7_method_4_code, exceptionTable := #[], attributes := #[] }
def k2m2 : Method := { name := "trim", desc := "()V", sig := { parameters := [], returnType := none }, accessFlags := 0, code := some k2c2 }
def k2c3 : Code := { maxStack := 4, maxLocals := 2, code := prog_7_method_6_code, exceptionTable := #[], attributes := #[] }
def k2m3 : Method := { name := "heapBytes", desc := "()J", sig := { parameters := [], returnType := some .long }, accessFlags := 0, code := some k2c3 }
/-- com/example/palimpsest/palimpsest/CommitTimes -/
def k2 : Class := { plain "com/example/palimpsest/palimpsest/CommitTimes" (some 0) with
  accessFlags := 48
  interfaces := #[]
  cf := some (fileOf pool2 12 #[.nestMembers #[68, 9]] #[{ accessFlags := 0, nameIndex := 7, descriptorIndex := 8, attributes := #[] }, { accessFlags := 0, nameIndex := 122, descriptorIndex := 123, attributes := #[] }, { accessFlags := 0, nameIndex := 125, descriptorIndex := 8, attributes := #[] }, { accessFlags := 0, nameIndex := 128, descriptorIndex := 129, attributes := #[] }] 48 4 #[] #[{ accessFlags := 24, nameIndex := 116, descriptorIndex := 43, attributes := #[] }, { accessFlags := 26, nameIndex := 26, descriptorIndex := 27, attributes := #[] }, { accessFlags := 26, nameIndex := 15, descriptorIndex := 16, attributes := #[] }, { accessFlags := 66, nameIndex := 22, descriptorIndex := 23, attributes := #[] }, { accessFlags := 2, nameIndex := 42, descriptorIndex := 43, attributes := #[] }])
  fields := #[{ name := "UNKNOWN", type := .long, accessFlags := 24, slot := 0, constantValue := 0 }, { name := "TEXT", type := (.object "java/time/format/DateTimeFormatter"), accessFlags := 26, slot := 1, constantValue := 0 }, { name := "NONE", type := (.array .long), accessFlags := 26, slot := 2, constantValue := 0 }, { name := "layout", type := (.object "com/example/palimpsest/palimpsest/CommitTimes$Layout"), accessFlags := 66, slot := 0, constantValue := 0 }, { name := "newest", type := .long, accessFlags := 2, slot := 1, constantValue := 0 }]
  methods := #[k2m0, k2m1, k2m2, k2m3]
  instanceTypes := #[(.object "com/example/palimpsest/palimpsest/CommitTimes$Layout"), .long]
  staticTypes := #[.long, (.object "java/time/format/DateTimeFormatter"), (.array .long)]
  resolved := (((((((Array.replicate 141 none).set! 9 (some (.cls 4))).set! 17 (some (.method ⟨4, 0⟩))).set! 48 (some (.field 4 3))).set! 51 (some (.field 4 4))).set! 82 (some (.field 4 0))).set! 85 (some (.field 4 1)))
  statics := some 0 }

def pool3 : Array CpInfo := pool [(1, .methodref 2 3), (0, .class_ 4), (0, .nameAndType 5 6), (0, u "java/lang/Object"), (0, u "<init>"), (0, u "()V"), (0, .class_ 8), (0, u "java/lang/Record")] 13

def k3c0 : Code := { maxStack := 1, maxLocals := 1, code := jdk_30_method_1_code, exceptionTable := #[], attributes := #[] }
def k3m0 : Method := { name := "<init>", desc := "()V", sig := { parameters := [], returnType := none }, accessFlags := 4, code := some k3c0 }
/-- java/lang/Record -/
def k3 : Class := { plain "java/lang/Record" (some 0) with
  accessFlags := 1057
  interfaces := #[]
  cf := some (fileOf pool3 7 #[] #[{ accessFlags := 4, nameIndex := 5, descriptorIndex := 6, attributes := #[] }] 1057 2 #[] #[])
  fields := #[]
  methods := #[k3m0]
  instanceTypes := #[]
  staticTypes := #[]
  resolved := Array.replicate 22 none
  statics := none }

def pool4 : Array CpInfo := pool [(1, .methodref 2 3), (0, .class_ 4), (0, .nameAndType 5 6), (0, u "java/lang/Record"), (0, u "<init>"), (0, u "()V"), (0, .fieldref 8 9), (0, .class_ 10), (0, .nameAndType 11 12), (0, u "com/example/palimpsest/palimpsest/CommitTimes$Layout"), (0, u "olderTimestamps"), (0, u "[J"), (0, .fieldref 8 14), (0, .nameAndType 15 12), (0, u "olderTimes"), (0, .fieldref 8 17), (0, .nameAndType 18 19), (0, u "olderCount"), (0, u "I"), (0, .fieldref 8 21), (0, .nameAndType 22 23), (0, u "floor"), (0, u "J"), (0, .fieldref 8 25), (0, .nameAndType 26 12), (0, u "slots"), (0, .methodref 28 29), (0, .class_ 30), (0, .nameAndType 31 32), (0, u "java/lang/Math"), (0, u "max"), (0, u "(II)I"), (0, .methodref 34 35), (0, .class_ 36), (0, .nameAndType 37 38), (0, u "java/util/Arrays"), (0, u "copyOf"), (0, u "([JI)[J"), (0, .methodref 8 40), (0, .nameAndType 5 41), (0, u "([J[JIJ[J)V"), (0, .methodref 43 44), (0, .class_ 45), (0, .nameAndType 46 47), (0, u "java/lang/System"), (0, u "arraycopy"), (0, u "(Ljava/lang/Object;ILjava/lang/Object;II)V"), (0, .methodref 28 49), (0, .nameAndType 31 50), (0, u "(JJ)J"), (15, u "olderThan"), (0, u "(JJ)Lcom/example/palimpsest/palimpsest/CommitTimes$Layout;"), (2, u "rebased"), (0, u "trimmed"), (0, u "(J)Lcom/example/palimpsest/palimpsest/CommitTimes$Layout;"), (8, .class_ 82), (0, u "com/example/palimpsest/palimpsest/CommitTimes")] 23

def k4c0 : Code := { maxStack := 3, maxLocals := 7, code := prog_8_method_1_code, exceptionTable := #[], attributes := #[] }
def k4m0 : Method := { name := "<init>", desc := "([J[JIJ[J)V", sig := { parameters := [(.array .long), (.array .long), .int, .long, (.array .long)], returnType := none }, accessFlags := 2, code := some k4c0 }
def k4c1 : Code := { maxStack := 8, maxLocals := 10, code := prog_8_method_2_code, exceptionTable := #[], attributes := #[] }
def k4m1 : Method := { name := "olderThan", desc := "(JJ)Lcom/example/palimpsest/palimpsest/CommitTimes$Layout;", sig := { parameters := [.long, .long], returnType := some (.object "com/example/palimpsest/palimpsest/CommitTimes$Layout") }, accessFlags := 0, code := some k4c1 }
def k4c2 : Code := { maxStack := 8, maxLocals := 7, code := prog_8_method_3_code, exceptionTable := #[], attributes := #[] }
def k4m2 : Method := { name := "rebased", desc := "(JJ)Lcom/example/palimpsest/palimpsest/CommitTimes$Layout;", sig := { parameters := [.long, .long], returnType := some (.object "com/example/palimpsest/palimpsest/CommitTimes$Layout") }, accessFlags := 0, code := some k4c2 }
def k4c3 : Code := { maxStack := 9, maxLocals := 4, code := prog_8_method_4_code, exceptionTable := #[], attributes := #[] }
def k4m3 : Method := { name := "trimmed", desc := "(J)Lcom/example/palimpsest/palimpsest/CommitTimes$Layout;", sig := { parameters := [.long], returnType := some (.object "com/example/palimpsest/palimpsest/CommitTimes$Layout") }, accessFlags := 0, code := some k4c3 }
/-- com/example/palimpsest/palimpsest/CommitTimes$Layout -/
def k4 : Class := { plain "com/example/palimpsest/palimpsest/CommitTimes$Layout" (some 3) with
  accessFlags := 48
  interfaces := #[]
  cf := some (fileOf pool4 8 #[.nestHost 81] #[{ accessFlags := 2, nameIndex := 5, descriptorIndex := 41, attributes := #[] }, { accessFlags := 0, nameIndex := 66, descriptorIndex := 67, attributes := #[] }, { accessFlags := 0, nameIndex := 70, descriptorIndex := 67, attributes := #[] }, { accessFlags := 0, nameIndex := 71, descriptorIndex := 72, attributes := #[] }] 48 2 #[] #[{ accessFlags := 18, nameIndex := 11, descriptorIndex := 12, attributes := #[] }, { accessFlags := 18, nameIndex := 15, descriptorIndex := 12, attributes := #[] }, { accessFlags := 18, nameIndex := 18, descriptorIndex := 19, attributes := #[] }, { accessFlags := 18, nameIndex := 22, descriptorIndex := 23, attributes := #[] }, { accessFlags := 18, nameIndex := 26, descriptorIndex := 12, attributes := #[] }])
  fields := #[{ name := "olderTimestamps", type := (.array .long), accessFlags := 18, slot := 0, constantValue := 0 }, { name := "olderTimes", type := (.array .long), accessFlags := 18, slot := 1, constantValue := 0 }, { name := "olderCount", type := .int, accessFlags := 18, slot := 2, constantValue := 0 }, { name := "floor", type := .long, accessFlags := 18, slot := 3, constantValue := 0 }, { name := "slots", type := (.array .long), accessFlags := 18, slot := 4, constantValue := 0 }]
  methods := #[k4m0, k4m1, k4m2, k4m3]
  instanceTypes := #[(.array .long), (.array .long), .int, .long, (.array .long)]
  staticTypes := #[]
  resolved := Array.replicate 106 none
  statics := none }

def pool5 : Array CpInfo := pool [(1, .class_ 2), (0, u "java/lang/Math"), (1, .class_ 6), (1, u "java/lang/Object"), (0, u "<init>"), (0, u "()V"), (89, .class_ 100), (1, u "java/lang/Math$RandomNumberGeneratorHolder"), (20, u "(JJ)J"), (50, u "negativeZeroFloatBits"), (0, u "J"), (2, u "negativeZeroDoubleBits"), (21, u "max"), (2, u "min"), (43, u "$assertionsDisabled"), (0, u "Z"), (88, u "(II)I"), (2, u "twoToTheDoubleScaleDown"), (0, u "D"), (4, u "twoToTheDoubleScaleUp"), (9, u "E"), (3, u "PI"), (2, u "TAU"), (2, u "DEGREES_TO_RADIANS"), (0, u "RADIANS_TO_DEGREES")] 94

def k5m0 : Method := { name := "<init>", desc := "()V", sig := { parameters := [], returnType := none }, accessFlags := 2, code := none }
def k5c1 : Code := { maxStack := 2, maxLocals := 2, code := jdk_29_method_65_code, exceptionTable := #[], attributes := #[] }
def k5m1 : Method := { name := "max", desc := "(II)I", sig := { parameters := [.int, .int], returnType := some .int }, accessFlags := 9, code := some k5c1 }
def k5c2 : Code := { maxStack := 4, maxLocals := 4, code := jdk_29_method_66_code, exceptionTable := #[], attributes := #[] }
def k5m2 : Method := { name := "max", desc := "(JJ)J", sig := { parameters := [.long, .long], returnType := some .long }, accessFlags := 9, code := some k5c2 }
def k5c3 : Code := { maxStack := 2, maxLocals := 2, code := jdk_29_method_69_code, exceptionTable := #[], attributes := #[] }
def k5m3 : Method := { name := "min", desc := "(II)I", sig := { parameters := [.int, .int], returnType := some .int }, accessFlags := 9, code := some k5c3 }
/-- java/lang/Math -/
def k5 : Class := { plain "java/lang/Math" (some 0) with
  accessFlags := 49
  interfaces := #[]
  cf := some (fileOf pool5 1 #[.nestMembers #[98]] #[{ accessFlags := 2, nameIndex := 7, descriptorIndex := 8, attributes := #[] }, { accessFlags := 9, nameIndex := 198, descriptorIndex := 335, attributes := #[] }, { accessFlags := 9, nameIndex := 198, descriptorIndex := 121, attributes := #[] }, { accessFlags := 9, nameIndex := 201, descriptorIndex := 335, attributes := #[] }] 49 4 #[] #[{ accessFlags := 25, nameIndex := 354, descriptorIndex := 339, attributes := #[] }, { accessFlags := 25, nameIndex := 358, descriptorIndex := 339, attributes := #[] }, { accessFlags := 25, nameIndex := 361, descriptorIndex := 339, attributes := #[] }, { accessFlags := 26, nameIndex := 364, descriptorIndex := 339, attributes := #[] }, { accessFlags := 26, nameIndex := 365, descriptorIndex := 339, attributes := #[] }, { accessFlags := 26, nameIndex := 172, descriptorIndex := 173, attributes := #[] }, { accessFlags := 26, nameIndex := 176, descriptorIndex := 173, attributes := #[] }, { accessFlags := 8, nameIndex := 344, descriptorIndex := 339, attributes := #[] }, { accessFlags := 8, nameIndex := 338, descriptorIndex := 339, attributes := #[] }, { accessFlags := 4120, nameIndex := 245, descriptorIndex := 246, attributes := #[] }])
  fields := #[{ name := "E", type := .double, accessFlags := 25, slot := 0, constantValue := 0 }, { name := "PI", type := .double, accessFlags := 25, slot := 1, constantValue := 0 }, { name := "TAU", type := .double, accessFlags := 25, slot := 2, constantValue := 0 }, { name := "DEGREES_TO_RADIANS", type := .double, accessFlags := 26, slot := 3, constantValue := 0 }, { name := "RADIANS_TO_DEGREES", type := .double, accessFlags := 26, slot := 4, constantValue := 0 }, { name := "negativeZeroFloatBits", type := .long, accessFlags := 26, slot := 5, constantValue := 0 }, { name := "negativeZeroDoubleBits", type := .long, accessFlags := 26, slot := 6, constantValue := 0 }, { name := "twoToTheDoubleScaleUp", type := .double, accessFlags := 8, slot := 7, constantValue := 0 }, { name := "twoToTheDoubleScaleDown", type := .double, accessFlags := 8, slot := 8, constantValue := 0 }, { name := "$assertionsDisabled", type := .boolean, accessFlags := 4120, slot := 9, constantValue := 0 }]
  methods := #[k5m0, k5m1, k5m2, k5m3]
  instanceTypes := #[]
  staticTypes := #[.double, .double, .double, .double, .double, .long, .long, .double, .double, .boolean]
  resolved := Array.replicate 460 none
  statics := none }

def pool6 : Array CpInfo := pool [(2, .class_ 4), (1, u "java/lang/Object"), (0, u "<init>"), (0, u "()V"), (1, .class_ 10), (1, u "java/lang/System"), (0, u "allowSecurityManager"), (0, u "I"), (16, u "cons"), (0, u "Ljava/io/Console;"), (77, .class_ 110), (1, u "java/lang/System$CallersHolder"), (43, u "initialErrStream"), (0, u "Ljava/io/PrintStream;"), (19, u "security"), (0, u "Ljava/lang/SecurityManager;"), (31, .class_ 209), (0, u "java/lang/System$1"), (7, u "props"), (0, u "Ljava/util/Properties;"), (2, u "lineSeparator"), (0, u "Ljava/lang/String;"), (96, .class_ 321), (1, u "java/lang/System$LoggerFinder"), (5, .class_ 328), (0, u "java/lang/System$Logger"), (67, u "err"), (2, u "out"), (91, u "notSupportedJnuEncoding"), (15, u "in"), (17, u "initialIn"), (0, u "Ljava/io/InputStream;"), (35, u "bootLayer"), (0, u "Ljava/lang/ModuleLayer;"), (99, .class_ 664), (0, u "java/lang/System$2"), (9, u "NEVER"), (2, u "MAYBE"), (49, u "arraycopy"), (0, u "(Ljava/lang/Object;ILjava/lang/Object;II)V"), (72, .class_ 802), (0, u "java/lang/System$Logger$Level")] 31

def k6m0 : Method := { name := "<init>", desc := "()V", sig := { parameters := [], returnType := none }, accessFlags := 2, code := none }
def k6m1 : Method := { name := "arraycopy", desc := "(Ljava/lang/Object;ILjava/lang/Object;II)V", sig := { parameters := [(.object "java/lang/Object"), .int, (.object "java/lang/Object"), .int, .int], returnType := none }, accessFlags := 265, code := none }
/-- java/lang/System -/
def k6 : Class := { plain "java/lang/System" (some 0) with
  accessFlags := 49
  interfaces := #[]
  cf := some (fileOf pool6 8 #[.nestMembers #[319, 327, 801, 108, 663, 208]] #[{ accessFlags := 2, nameIndex := 5, descriptorIndex := 6, attributes := #[] }, { accessFlags := 265, nameIndex := 727, descriptorIndex := 728, attributes := #[] }] 49 2 #[] #[{ accessFlags := 25, nameIndex := 507, descriptorIndex := 526, attributes := #[] }, { accessFlags := 25, nameIndex := 399, descriptorIndex := 155, attributes := #[] }, { accessFlags := 25, nameIndex := 396, descriptorIndex := 155, attributes := #[] }, { accessFlags := 10, nameIndex := 525, descriptorIndex := 526, attributes := #[] }, { accessFlags := 26, nameIndex := 674, descriptorIndex := 12, attributes := #[] }, { accessFlags := 26, nameIndex := 677, descriptorIndex := 12, attributes := #[] }, { accessFlags := 10, nameIndex := 11, descriptorIndex := 12, attributes := #[] }, { accessFlags := 74, nameIndex := 175, descriptorIndex := 176, attributes := #[] }, { accessFlags := 10, nameIndex := 491, descriptorIndex := 222, attributes := #[] }, { accessFlags := 74, nameIndex := 29, descriptorIndex := 30, attributes := #[] }, { accessFlags := 74, nameIndex := 154, descriptorIndex := 155, attributes := #[] }, { accessFlags := 10, nameIndex := 217, descriptorIndex := 218, attributes := #[] }, { accessFlags := 10, nameIndex := 221, descriptorIndex := 222, attributes := #[] }, { accessFlags := 8, nameIndex := 562, descriptorIndex := 563, attributes := #[] }])
  fields := #[{ name := "in", type := (.object "java/io/InputStream"), accessFlags := 25, slot := 0, constantValue := 0 }, { name := "out", type := (.object "java/io/PrintStream"), accessFlags := 25, slot := 1, constantValue := 0 }, { name := "err", type := (.object "java/io/PrintStream"), accessFlags := 25, slot := 2, constantValue := 0 }, { name := "initialIn", type := (.object "java/io/InputStream"), accessFlags := 10, slot := 3, constantValue := 0 }, { name := "NEVER", type := .int, accessFlags := 26, slot := 4, constantValue := 0 }, { name := "MAYBE", type := .int, accessFlags := 26, slot := 5, constantValue := 0 }, { name := "allowSecurityManager", type := .int, accessFlags := 10, slot := 6, constantValue := 0 }, { name := "security", type := (.object "java/lang/SecurityManager"), accessFlags := 74, slot := 7, constantValue := 0 }, { name := "notSupportedJnuEncoding", type := (.object "java/lang/String"), accessFlags := 10, slot := 8, constantValue := 0 }, { name := "cons", type := (.object "java/io/Console"), accessFlags := 74, slot := 9, constantValue := 0 }, { name := "initialErrStream", type := (.object "java/io/PrintStream"), accessFlags := 74, slot := 10, constantValue := 0 }, { name := "props", type := (.object "java/util/Properties"), accessFlags := 10, slot := 11, constantValue := 0 }, { name := "lineSeparator", type := (.object "java/lang/String"), accessFlags := 10, slot := 12, constantValue := 0 }, { name := "bootLayer", type := (.object "java/lang/ModuleLayer"), accessFlags := 8, slot := 13, constantValue := 0 }]
  methods := #[k6m0, k6m1]
  instanceTypes := #[]
  staticTypes := #[(.object "java/io/InputStream"), (.object "java/io/PrintStream"), (.object "java/io/PrintStream"), (.object "java/io/InputStream"), .int, .int, .int, (.object "java/lang/SecurityManager"), (.object "java/lang/String"), (.object "java/io/Console"), (.object "java/io/PrintStream"), (.object "java/util/Properties"), (.object "java/lang/String"), (.object "java/lang/ModuleLayer")]
  resolved := Array.replicate 834 none
  statics := none }

def pool7 : Array CpInfo := pool [(2, .class_ 4), (1, u "java/lang/Object"), (0, u "<init>"), (0, u "()V"), (7, .class_ 16), (1, u "java/util/Arrays"), (57, .class_ 76), (1, u "java/util/Arrays$NaturalOrder"), (32, u "()Ljava/lang/Object;"), (3, .class_ 115), (1, u "java/util/Arrays$LegacyMergeSort"), (1, u "Z"), (10, .nameAndType 129 109), (0, u "clone"), (20, .methodref 151 152), (0, .class_ 153), (0, .nameAndType 154 155), (0, u "java/lang/System"), (0, u "arraycopy"), (0, u "(Ljava/lang/Object;ILjava/lang/Object;II)V"), (146, u "copyOf"), (1, .methodref 305 306), (0, .class_ 307), (0, .nameAndType 308 309), (0, u "java/lang/Math"), (0, u "min"), (0, u "(II)I"), (9, .methodref 320 128), (0, .class_ 321), (0, u "[J"), (53, .class_ 376), (0, u "java/util/Arrays$ArrayList"), (68, u "$assertionsDisabled"), (269, u "MIN_ARRAY_SORT_GRAN"), (0, u "I"), (2, u "INSERTIONSORT_THRESHOLD"), (152, u "([JI)[J"), (102, .class_ 976), (0, u "java/util/Arrays$ArrayItr")] 52

def k7m0 : Method := { name := "<init>", desc := "()V", sig := { parameters := [], returnType := none }, accessFlags := 2, code := none }
def k7c1 : Code := { maxStack := 6, maxLocals := 3, code := jdk_65_method_124_code, exceptionTable := #[], attributes := #[] }
def k7m1 : Method := { name := "copyOf", desc := "([JI)[J", sig := { parameters := [(.array .long), .int], returnType := some (.array .long) }, accessFlags := 9, code := some k7c1 }
/-- java/util/Arrays -/
def k7 : Class := { plain "java/util/Arrays" (some 0) with
  accessFlags := 49
  interfaces := #[]
  cf := some (fileOf pool7 14 #[.nestMembers #[975, 375, 113, 74]] #[{ accessFlags := 2, nameIndex := 5, descriptorIndex := 6, attributes := #[] }, { accessFlags := 9, nameIndex := 302, descriptorIndex := 872, attributes := #[] }] 49 2 #[] #[{ accessFlags := 26, nameIndex := 715, descriptorIndex := 716, attributes := #[] }, { accessFlags := 26, nameIndex := 719, descriptorIndex := 716, attributes := #[] }, { accessFlags := 4120, nameIndex := 445, descriptorIndex := 117, attributes := #[] }])
  fields := #[{ name := "MIN_ARRAY_SORT_GRAN", type := .int, accessFlags := 26, slot := 0, constantValue := 0 }, { name := "INSERTIONSORT_THRESHOLD", type := .int, accessFlags := 26, slot := 1, constantValue := 0 }, { name := "$assertionsDisabled", type := .boolean, accessFlags := 4120, slot := 2, constantValue := 0 }]
  methods := #[k7m0, k7m1]
  instanceTypes := #[]
  staticTypes := #[.int, .int, .boolean]
  resolved := Array.replicate 1029 none
  statics := none }

def pool8 : Array CpInfo := pool [(1, .class_ 2), (0, u "java/lang/Cloneable"), (0, .class_ 4), (0, u "java/lang/Object")] 2

/-- java/lang/Cloneable -/
def k8 : Class := { plain "java/lang/Cloneable" (some 0) with
  accessFlags := 1537
  interfaces := #[]
  cf := some (fileOf pool8 1 #[] #[] 1537 3 #[] #[])
  fields := #[]
  methods := #[]
  instanceTypes := #[]
  staticTypes := #[]
  resolved := Array.replicate 7 none
  statics := none }

def pool9 : Array CpInfo := pool [(1, u "java/io/Serializable"), (0, .class_ 1), (0, u "java/lang/Object"), (0, .class_ 3)] 3

/-- java/io/Serializable -/
def k9 : Class := { plain "java/io/Serializable" (some 0) with
  accessFlags := 1537
  interfaces := #[]
  cf := some (fileOf pool9 2 #[] #[] 1537 4 #[] #[])
  fields := #[]
  methods := #[]
  instanceTypes := #[]
  staticTypes := #[]
  resolved := Array.replicate 8 none
  statics := none }

/-- the primitive byte -/
def k10 : Class := { plain "byte" none with kind := .primitive 'B', accessFlags := 0x411 }
/-- [B -/
def k11 : Class := { plain "[B" (some 0) with kind := .array 10 .byte, interfaces := #[8, 9], accessFlags := 1041 }

/-- the primitive int -/
def k12 : Class := { plain "int" none with kind := .primitive 'I', accessFlags := 0x411 }
/-- [I -/
def k13 : Class := { plain "[I" (some 0) with kind := .array 12 .int, interfaces := #[8, 9], accessFlags := 1041 }

/-- the primitive long -/
def k14 : Class := { plain "long" none with kind := .primitive 'J', accessFlags := 0x411 }
/-- [J -/
def k15 : Class := { plain "[J" (some 0) with kind := .array 14 .long, interfaces := #[8, 9], accessFlags := 1041 }

def heap : Heap := #[{ cls := 2, slots := #[.long 0, .null, .ref 1], vm := .statics 2 },
  { cls := 15, slots := #[], vm := .none }]
def classes : Array Class := #[k0, k1, k2, k3, k4, k5, k6, k7, k8, k9, k10, k11, k12, k13, k14, k15]
def interned : List (Array UInt16 × Addr) := []
def slotsUsed : Nat := 3
def theMethod : MethodId := ⟨1, 3⟩
def args0 : Array Value := #[.int 5, .long 3, .long 7, .long 2, .long 9]
def aboutOver (below : List Frame) : State where
  vm := { classes := classes, interned := interned.toArray }
  heap := heap
  slotsUsed := slotsUsed
  threads := #[{ frames := .invoking theMethod args0 :: below }]
def below0 : List Frame := [.native { method := ⟨0, 0⟩, args := #[] }]
def about1 : State := aboutOver below0
def p0 : Program := .bare "" "" ""
def e0 : Env := launch0.env 0 0 0
theorem w_frames : about1.frames = Frame.invoking theMethod args0 :: below0 := rfl
set_option maxRecDepth 65536 in
theorem w_args : argsFit about1.vm theMethod args0 = true := by decide +kernel
set_option maxRecDepth 65536 in
theorem w_heap : heapFits about1 = true := by decide +kernel
set_option maxRecDepth 65536 in
theorem w_runnable : about1.curStatus? = some .runnable := by decide +kernel
set_option maxRecDepth 65536 in
theorem w_alone : about1.alone = true := by decide +kernel
set_option maxRecDepth 65536 in
theorem w_named : about1.methodNamed? x = some theMethod := by decide +kernel
set_option maxRecDepth 65536 in
theorem w_hears : about1.hears theMethod below0 = true := by decide +kernel
set_option maxRecDepth 65536 in
theorem w_ripe : about1.ripe theMethod args0 below0 = true := by decide +kernel
theorem w_running : about1.status = .running := rfl
set_option maxRecDepth 65536 in
theorem w_room : about1.hasRoom e0.platform room_1 = true :=
  launch0.hasRoom_least _ room_1 (by decide +kernel) (by decide +kernel) (by decide +kernel) (by decide +kernel) (by decide +kernel) (by decide +kernel)
theorem allAtoms_all (ts : List Jvm.Cond) (a : Array Jvm.Value) (st : Jvm.State) : (allAtoms ts).before a st = ts.all (fun c => c.before a st) := by
  induction ts with
  | nil => rfl
  | cons c t ih =>
    show (Jvm.Cond.and c (allAtoms t)).before a st = _
    rw [Jvm.Cond.before_and, ih, List.all_cons]
def words1 : List Jvm.Cond := Jvm.Cond.code x code maxLocals ret :: tables_1
/-- a 'code' word, met by the world's own term for the bytes: nothing is compared byte by byte -/
theorem code_word {y : MethodName} {bytes : ByteArray} {mx : Nat} {rt : Option FieldType} {a : Array Value} {s : State} {m : MethodId} {meth : Method} {c : Code} (h1 : s.methodNamed? y = some m) (h2 : s.vm.method? m = some meth) (h3 : meth.code = some c) (h4 : c.code = bytes)
    (h5 : (c.maxLocals == mx && c.exceptionTable.isEmpty && decide (c.maxStack ≤ mostOperands) && decide (meth.sig.returnType = rt) && !meth.locks && decide (parseMethodDescriptor y.desc = some meth.sig)) = true) : (Jvm.Cond.code y bytes mx rt).before a s = true := by
  simp only [Bool.and_eq_true, beq_iff_eq, Bool.not_eq_true', decide_eq_true_eq] at h5
  obtain ⟨⟨⟨⟨⟨g1, g2⟩, g3⟩, g4⟩, g5⟩, g6⟩ := h5
  simp [Cond.before, Cond.holds, Cond.value, h1, h2, h3, h4, g1, g2, g3, g4, g5, g6]
def isCode : Jvm.Cond → Bool
  | .code _ _ _ _ => true
  | _ => false
theorem all_split {L : List Jvm.Cond} {P : Jvm.Cond → Bool} (h1 : L.all (fun c => isCode c || P c) = true) (h2 : ∀ c ∈ L.filter isCode, P c = true) : L.all P = true := by
  refine List.all_eq_true.mpr fun c hc => ?_
  have h := List.all_eq_true.mp h1 c hc
  rcases Bool.eq_false_or_eq_true (isCode c) with hi | hi
  · exact h2 c (List.mem_filter.mpr ⟨hc, hi⟩)
  · simpa [hi] using h
set_option maxRecDepth 65536 in
theorem w_c0 : (Jvm.Cond.code x code maxLocals ret).before args0 about1 = true := code_word (m := ⟨1, 3⟩) (meth := k1m3) (c := k1c3) (by decide +kernel) rfl rfl rfl (by decide +kernel)
set_option maxRecDepth 65536 in
theorem w_c1 : (Jvm.Cond.code ({ cls := "com/example/palimpsest/palimpsest/CommitTimes", name := "<init>", desc := "()V" } : Jvm.MethodName) prog_7_method_1_code (1 : Nat) (Option.none : Option Jvm.ClassFile.FieldType)).before args0 about1 = true := code_word (m := ⟨2, 0⟩) (meth := k2m0) (c := k2c0) (by decide +kernel) rfl rfl rfl (by decide +kernel)
set_option maxRecDepth 65536 in
theorem w_c2 : (Jvm.Cond.code ({ cls := "java/lang/Object", name := "<init>", desc := "()V" } : Jvm.MethodName) object_method_1_code (1 : Nat) (Option.none : Option Jvm.ClassFile.FieldType)).before args0 about1 = true := code_word (m := ⟨0, 0⟩) (meth := k0m0) (c := k0c0) (by decide +kernel) rfl rfl rfl (by decide +kernel)
set_option maxRecDepth 65536 in
theorem w_c3 : (Jvm.Cond.code ({ cls := "com/example/palimpsest/palimpsest/CommitTimes$Layout", name := "<init>", desc := "([J[JIJ[J)V" } : Jvm.MethodName) prog_8_method_1_code (7 : Nat) (Option.none : Option Jvm.ClassFile.FieldType)).before args0 about1 = true := code_word (m := ⟨4, 0⟩) (meth := k4m0) (c := k4c0) (by decide +kernel) rfl rfl rfl (by decide +kernel)
set_option maxRecDepth 65536 in
theorem w_c4 : (Jvm.Cond.code ({ cls := "java/lang/Record", name := "<init>", desc := "()V" } : Jvm.MethodName) jdk_30_method_1_code (1 : Nat) (Option.none : Option Jvm.ClassFile.FieldType)).before args0 about1 = true := code_word (m := ⟨3, 0⟩) (meth := k3m0) (c := k3c0) (by decide +kernel) rfl rfl rfl (by decide +kernel)
set_option maxRecDepth 65536 in
theorem w_c5 : (Jvm.Cond.code ({ cls := "com/example/palimpsest/palimpsest/CommitTimesHeapBytesPinLaw", name := "run", desc := "(Lcom/example/palimpsest/palimpsest/CommitTimes;JIJ)V" } : Jvm.MethodName) method_2_code (6 : Nat) (Option.none : Option Jvm.ClassFile.FieldType)).before args0 about1 = true := code_word (m := ⟨1, 1⟩) (meth := k1m1) (c := k1c1) (by decide +kernel) rfl rfl rfl (by decide +kernel)
set_option maxRecDepth 65536 in
theorem w_c6 : (Jvm.Cond.code ({ cls := "com/example/palimpsest/palimpsest/CommitTimes", name := "heapBytes", desc := "()J" } : Jvm.MethodName) prog_7_method_6_code (2 : Nat) (Option.some Jvm.ClassFile.FieldType.long)).before args0 about1 = true := code_word (m := ⟨2, 3⟩) (meth := k2m3) (c := k2c3) (by decide +kernel) rfl rfl rfl (by decide +kernel)
set_option maxRecDepth 65536 in
theorem w_c7 : (Jvm.Cond.code ({ cls := "com/example/palimpsest/palimpsest/CommitTimesHeapBytesPinLaw", name := "room", desc := "(I)I" } : Jvm.MethodName) method_3_code (1 : Nat) (Option.some Jvm.ClassFile.FieldType.int)).before args0 about1 = true := code_word (m := ⟨1, 2⟩) (meth := k1m2) (c := k1c2) (by decide +kernel) rfl rfl rfl (by decide +kernel)
set_option maxRecDepth 65536 in
theorem w_c8 : (Jvm.Cond.code ({ cls := "com/example/palimpsest/palimpsest/CommitTimes", name := "add", desc := "(JJ)V" } : Jvm.MethodName) prog_7_method_3_code (9 : Nat) (Option.none : Option Jvm.ClassFile.FieldType)).before args0 about1 = true := code_word (m := ⟨2, 1⟩) (meth := k2m1) (c := k2c1) (by decide +kernel) rfl rfl rfl (by decide +kernel)
set_option maxRecDepth 65536 in
theorem w_c9 : (Jvm.Cond.code ({ cls := "com/example/palimpsest/palimpsest/CommitTimes$Layout", name := "olderThan", desc := "(JJ)Lcom/example/palimpsest/palimpsest/CommitTimes$Layout;" } : Jvm.MethodName) prog_8_method_2_code (10 : Nat) (Option.some (Jvm.ClassFile.FieldType.object "com/example/palimpsest/palimpsest/CommitTimes$Layout"))).before args0 about1 = true := code_word (m := ⟨4, 1⟩) (meth := k4m1) (c := k4c1) (by decide +kernel) rfl rfl rfl (by decide +kernel)
set_option maxRecDepth 65536 in
theorem w_c10 : (Jvm.Cond.code ({ cls := "com/example/palimpsest/palimpsest/CommitTimes$Layout", name := "rebased", desc := "(JJ)Lcom/example/palimpsest/palimpsest/CommitTimes$Layout;" } : Jvm.MethodName) prog_8_method_3_code (7 : Nat) (Option.some (Jvm.ClassFile.FieldType.object "com/example/palimpsest/palimpsest/CommitTimes$Layout"))).before args0 about1 = true := code_word (m := ⟨4, 2⟩) (meth := k4m2) (c := k4c2) (by decide +kernel) rfl rfl rfl (by decide +kernel)
set_option maxRecDepth 65536 in
theorem w_c11 : (Jvm.Cond.code ({ cls := "java/lang/Math", name := "max", desc := "(II)I" } : Jvm.MethodName) jdk_29_method_65_code (2 : Nat) (Option.some Jvm.ClassFile.FieldType.int)).before args0 about1 = true := code_word (m := ⟨5, 1⟩) (meth := k5m1) (c := k5c1) (by decide +kernel) rfl rfl rfl (by decide +kernel)
set_option maxRecDepth 65536 in
theorem w_c12 : (Jvm.Cond.code ({ cls := "java/util/Arrays", name := "copyOf", desc := "([JI)[J" } : Jvm.MethodName) jdk_65_method_124_code (3 : Nat) (Option.some (Jvm.ClassFile.FieldType.array Jvm.ClassFile.FieldType.long))).before args0 about1 = true := code_word (m := ⟨7, 1⟩) (meth := k7m1) (c := k7c1) (by decide +kernel) rfl rfl rfl (by decide +kernel)
set_option maxRecDepth 65536 in
theorem w_c13 : (Jvm.Cond.code ({ cls := "java/lang/Math", name := "min", desc := "(II)I" } : Jvm.MethodName) jdk_29_method_69_code (2 : Nat) (Option.some Jvm.ClassFile.FieldType.int)).before args0 about1 = true := code_word (m := ⟨5, 3⟩) (meth := k5m3) (c := k5c3) (by decide +kernel) rfl rfl rfl (by decide +kernel)
set_option maxRecDepth 65536 in
theorem w_c14 : (Jvm.Cond.code ({ cls := "com/example/palimpsest/palimpsest/CommitTimes", name := "trim", desc := "()V" } : Jvm.MethodName) prog_7_method_4_code (1 : Nat) (Option.none : Option Jvm.ClassFile.FieldType)).before args0 about1 = true := code_word (m := ⟨2, 2⟩) (meth := k2m2) (c := k2c2) (by decide +kernel) rfl rfl rfl (by decide +kernel)
set_option maxRecDepth 65536 in
theorem w_c15 : (Jvm.Cond.code ({ cls := "com/example/palimpsest/palimpsest/CommitTimes$Layout", name := "trimmed", desc := "(J)Lcom/example/palimpsest/palimpsest/CommitTimes$Layout;" } : Jvm.MethodName) prog_8_method_4_code (4 : Nat) (Option.some (Jvm.ClassFile.FieldType.object "com/example/palimpsest/palimpsest/CommitTimes$Layout"))).before args0 about1 = true := code_word (m := ⟨4, 3⟩) (meth := k4m3) (c := k4c3) (by decide +kernel) rfl rfl rfl (by decide +kernel)
set_option maxRecDepth 65536 in
theorem w_c16 : (Jvm.Cond.code ({ cls := "java/lang/Math", name := "max", desc := "(JJ)J" } : Jvm.MethodName) jdk_29_method_66_code (4 : Nat) (Option.some Jvm.ClassFile.FieldType.long)).before args0 about1 = true := code_word (m := ⟨5, 2⟩) (meth := k5m2) (c := k5c2) (by decide +kernel) rfl rfl rfl (by decide +kernel)
def codes1 : List Jvm.Cond := [Jvm.Cond.code x code maxLocals ret, Jvm.Cond.code ({ cls := "com/example/palimpsest/palimpsest/CommitTimes", name := "<init>", desc := "()V" } : Jvm.MethodName) prog_7_method_1_code (1 : Nat) (Option.none : Option Jvm.ClassFile.FieldType), Jvm.Cond.code ({ cls := "java/lang/Object", name := "<init>", desc := "()V" } : Jvm.MethodName) object_method_1_code (1 : Nat) (Option.none : Option Jvm.ClassFile.FieldType), Jvm.Cond.code ({ cls := "com/example/palimpsest/palimpsest/CommitTimes$Layout", name := "<init>", desc := "([J[JIJ[J)V" } : Jvm.MethodName) prog_8_method_1_code (7 : Nat) (Option.none : Option Jvm.ClassFile.FieldType), Jvm.Cond.code ({ cls := "java/lang/Record", name := "<init>", desc := "()V" } : Jvm.MethodName) jdk_30_method_1_code (1 : Nat) (Option.none : Option Jvm.ClassFile.FieldType), Jvm.Cond.code ({ cls := "com/example/palimpsest/palimpsest/CommitTimesHeapBytesPinLaw", name := "run", desc := "(Lcom/example/palimpsest/palimpsest/CommitTimes;JIJ)V" } : Jvm.MethodName) method_2_code (6 : Nat) (Option.none : Option Jvm.ClassFile.FieldType), Jvm.Cond.code ({ cls := "com/example/palimpsest/palimpsest/CommitTimes", name := "heapBytes", desc := "()J" } : Jvm.MethodName) prog_7_method_6_code (2 : Nat) (Option.some Jvm.ClassFile.FieldType.long), Jvm.Cond.code ({ cls := "com/example/palimpsest/palimpsest/CommitTimesHeapBytesPinLaw", name := "room", desc := "(I)I" } : Jvm.MethodName) method_3_code (1 : Nat) (Option.some Jvm.ClassFile.FieldType.int), Jvm.Cond.code ({ cls := "com/example/palimpsest/palimpsest/CommitTimes", name := "add", desc := "(JJ)V" } : Jvm.MethodName) prog_7_method_3_code (9 : Nat) (Option.none : Option Jvm.ClassFile.FieldType), Jvm.Cond.code ({ cls := "com/example/palimpsest/palimpsest/CommitTimes$Layout", name := "olderThan", desc := "(JJ)Lcom/example/palimpsest/palimpsest/CommitTimes$Layout;" } : Jvm.MethodName) prog_8_method_2_code (10 : Nat) (Option.some (Jvm.ClassFile.FieldType.object "com/example/palimpsest/palimpsest/CommitTimes$Layout")), Jvm.Cond.code ({ cls := "com/example/palimpsest/palimpsest/CommitTimes$Layout", name := "rebased", desc := "(JJ)Lcom/example/palimpsest/palimpsest/CommitTimes$Layout;" } : Jvm.MethodName) prog_8_method_3_code (7 : Nat) (Option.some (Jvm.ClassFile.FieldType.object "com/example/palimpsest/palimpsest/CommitTimes$Layout")), Jvm.Cond.code ({ cls := "java/lang/Math", name := "max", desc := "(II)I" } : Jvm.MethodName) jdk_29_method_65_code (2 : Nat) (Option.some Jvm.ClassFile.FieldType.int), Jvm.Cond.code ({ cls := "java/util/Arrays", name := "copyOf", desc := "([JI)[J" } : Jvm.MethodName) jdk_65_method_124_code (3 : Nat) (Option.some (Jvm.ClassFile.FieldType.array Jvm.ClassFile.FieldType.long)), Jvm.Cond.code ({ cls := "java/lang/Math", name := "min", desc := "(II)I" } : Jvm.MethodName) jdk_29_method_69_code (2 : Nat) (Option.some Jvm.ClassFile.FieldType.int), Jvm.Cond.code ({ cls := "com/example/palimpsest/palimpsest/CommitTimes", name := "trim", desc := "()V" } : Jvm.MethodName) prog_7_method_4_code (1 : Nat) (Option.none : Option Jvm.ClassFile.FieldType), Jvm.Cond.code ({ cls := "com/example/palimpsest/palimpsest/CommitTimes$Layout", name := "trimmed", desc := "(J)Lcom/example/palimpsest/palimpsest/CommitTimes$Layout;" } : Jvm.MethodName) prog_8_method_4_code (4 : Nat) (Option.some (Jvm.ClassFile.FieldType.object "com/example/palimpsest/palimpsest/CommitTimes$Layout")), Jvm.Cond.code ({ cls := "java/lang/Math", name := "max", desc := "(JJ)J" } : Jvm.MethodName) jdk_29_method_66_code (4 : Nat) (Option.some Jvm.ClassFile.FieldType.long)]
set_option maxRecDepth 65536 in
theorem codes_eq : words1.filter isCode = codes1 := rfl
theorem w_codes : ∀ c ∈ words1.filter isCode, c.before args0 about1 = true := by
  rw [codes_eq]
  intro c hc
  simp only [codes1, List.mem_cons, List.not_mem_nil, or_false] at hc
  rcases hc with rfl | rfl | rfl | rfl | rfl | rfl | rfl | rfl | rfl | rfl | rfl | rfl | rfl | rfl | rfl | rfl | rfl
  · exact w_c0
  · exact w_c1
  · exact w_c2
  · exact w_c3
  · exact w_c4
  · exact w_c5
  · exact w_c6
  · exact w_c7
  · exact w_c8
  · exact w_c9
  · exact w_c10
  · exact w_c11
  · exact w_c12
  · exact w_c13
  · exact w_c14
  · exact w_c15
  · exact w_c16
set_option maxRecDepth 65536 in
theorem w_t1 : (words1.take 24).all (fun c => isCode c || c.before args0 about1) = true := by decide +kernel
set_option maxRecDepth 65536 in
theorem w_t2 : ((words1.drop 24).take 24).all (fun c => isCode c || c.before args0 about1) = true := by decide +kernel
set_option maxRecDepth 65536 in
theorem w_t3 : (((words1.drop 24).drop 24).take 24).all (fun c => isCode c || c.before args0 about1) = true := by decide +kernel
set_option maxRecDepth 65536 in
theorem w_t4 : ((((words1.drop 24).drop 24).drop 24).take 24).all (fun c => isCode c || c.before args0 about1) = true := by decide +kernel
set_option maxRecDepth 65536 in
theorem w_t5 : ((((words1.drop 24).drop 24).drop 24).drop 24).all (fun c => isCode c || c.before args0 about1) = true := by decide +kernel
theorem w_tables : (allAtoms (Jvm.Cond.code x code maxLocals ret :: tables_1)).before args0 about1 = true := by
  rw [allAtoms_all]
  show words1.all (fun c => c.before args0 about1) = true
  refine all_split ?_ w_codes
  rw [← List.take_append_drop 24 words1, List.all_append, w_t1, ← List.take_append_drop 24 (words1.drop 24), List.all_append, w_t2, ← List.take_append_drop 24 ((words1.drop 24).drop 24), List.all_append, w_t3, ← List.take_append_drop 24 (((words1.drop 24).drop 24).drop 24), List.all_append, w_t4, w_t5]
  rfl
set_option maxRecDepth 65536 in
theorem w_case : (Jvm.Cond.and given_1 narrow_1).before args0 about1 = true := by decide +kernel
theorem w_applies : (headSpec (Jvm.Cond.code x code maxLocals ret :: tables_1) room_1).applies x e0.platform about1 = true :=
  (Spec.applies_iff w_frames).mpr ⟨w_running, w_runnable, w_alone, w_named, w_hears, w_ripe, w_room, w_tables⟩
theorem atStart : AtStart classFile x code maxLocals ret World_1 tables_1 room_1 Calls_1 rest_1 Pre_1 launch0 p0 e0 about1 theMethod args0 below0 :=
  ⟨lists_1, trivial, launch0.admits_env _ _ _, launch0.least_env, fairChoices_fair.cas, fairChoices_fair.clock, w_frames, w_args, w_heap, w_applies, trivial, trivial, w_case⟩
end start1
theorem witness_1 : WitnessClaimed_1 := ⟨start1.p0, start1.e0, start1.about1, start1.theMethod, start1.args0, start1.below0, start1.atStart⟩
end Jvm.Pilot.@@N@@
