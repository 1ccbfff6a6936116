import JvmDerived
import JvmDerived.Pilot.@@N@@Statement
import JvmDerived.Pilot.@@N@@Code
set_option linter.unusedVariables false
set_option linter.unusedSimpArgs false
@@BLOCK:NumsL.lean.txt@@
namespace Jvm.Pilot.@@N@@
open Jvm Jvm.ClassFile Sem Op Lib Jvm.Free Jvm.Stand Jvm.LawKit Jvm.RoadKit Bundle Jvm.Pilot.@@N@@.Jvm.D
section OwnKit
variable {p : Program} {l : Launch} {e : Env} {R : Room} {s : State} {m : MethodId} {args : Array Value} {below : List Frame} {meth : Method} {c : Code} {T : State} {locs : List Loc} {cells slots : Nat} {Z : State} {a0 : Array Value} {h h' : Heap}
/-- from S the run comes to an end of which P holds -/
def Go (p : Program) (e : Env) (below : List Frame) (P : State → Outcome → Prop) (S : State) : Prop :=
  ∃ s₂ o, Steps p.tables e below S s₂ ∧ s₂.status = .running ∧ Ended s₂ below o ∧ P s₂ o
/-- what a contract says of the end -/
def Ret (s : State) (Q : Option Value → Heap → List Loc → Prop) (cs sl : Nat) : State → Outcome → Prop :=
  fun s₂ o => ∃ v L, o = .returned v ∧ Q v s₂.heap L ∧ FrameEnd s o s₂ L cs sl
theorem Go.st {P : State → Outcome → Prop} {S S' : State} (k : ∀ t, Steps p.tables e below S' t → Steps p.tables e below S t) (g : Go p e below P S') : Go p e below P S := by
  obtain ⟨t, o, q, r⟩ := g
  exact ⟨t, o, k t q, r⟩
/-- a contract in this family: entered with these arguments on this heap -/
abbrev Con (l : Launch) (Z : State) (h0 : Heap) (y : MethodName) (bytes : ByteArray) (maxL : Nat) (ret : Option FieldType) (ws : List Jvm.Cond) (rm : Room) (as' : Array Value) (Q : Option Value → Heap → List Loc → Prop) : Prop :=
  MetFree l y (head1 (Jvm.Cond.code y bytes maxL ret :: ws) rm) (fun a U => a = as' ∧ Z.Warmed39 U.vm ∧ U.heap = h0) (fun _ _ _ _ _ => True) (fun _ U o U' => ∃ v L, o = .returned v ∧ Q v U'.heap L ∧ FrameEnd U o U' L rm.cells rm.slots)
theorem own_con {h0 : Heap} {y : MethodName} {bytes : ByteArray} {maxL : Nat} {ret : Option FieldType} {ws : List Jvm.Cond} {rm : Room} {as' : Array Value} {Q : Option Value → Heap → List Loc → Prop} (hpl : plainFor y = true)
    (body : ∀ (p : Program) (e : Env) (s : State) (m : MethodId) (below : List Frame) (meth : Method) (c : Code) (T : State), Stand p l e rm s m as' below meth c T [] 0 0 → p.tables.exec = Jvm.exec → c.code = bytes → c.maxLocals = maxL → s.vm.findClass y.cls = some m.cls → meth.name = y.name → meth.sig.returnType = ret → meth.locks = false → Z.Warmed39 s.vm → T.heap = h0 →
      Go p e below (Ret s Q rm.cells rm.slots) (T.setTop (entryFrame m as' maxL))) : Con l Z h0 y bytes maxL ret ws rm as' Q := by
  refine MetFree.of_bodySF hpl hisR ?_
  intro p e s m args below meth c s₁ Bd hml0 hP hK
  obtain ⟨rfl, hZ, hh⟩ := hP
  exact body p e s m below meth c s₁ (Stand.of_body Bd) Bd.exec Bd.bytes hml0 (findClass_of_methodNamed Bd.named) (name_of_methodNamed Bd.named Bd.method).1 Bd.returns Bd.notSynchronized hZ (by rw [← hh, Bd.state]; rfl)
theorem own_callS (X : Stand p l e R s m args below meth c T locs cells slots) (hx : p.tables.exec = Jvm.exec) (hZ : Z.Warmed39 s.vm)
    {own : String} {index : Nat} {y : MethodName} {bytes : ByteArray} {maxL : Nat} {ret : Option FieldType} {rm : Room} {as' : Array Value} {Q : Option Value → Heap → List Loc → Prop}
    (hown : s.vm.findClass own = some m.cls) (w1 : (Jvm.Cond.methodLink own index y).before a0 Z = true) (w2 : (Jvm.Cond.static y).before a0 Z = true) (w3 : (Jvm.Cond.initialized y.cls).before a0 Z = true) (w4 : (Jvm.Cond.code y bytes maxL ret).before a0 Z = true)
    (hy : y.cls ≠ "java/lang/invoke/MethodHandle" ∧ y.cls ≠ "java/lang/invoke/VarHandle") (eT : T.heap = h) (hM : Con l Z h y bytes maxL ret [] rm as' Q)
    (W : Nat) (hf : rm.frames + 1 ≤ R.frames) (hl : W + (maxL + 11) + rm.locals ≤ R.locals) (hc : cells + rm.cells ≤ R.cells) (hs : slots + rm.slots ≤ R.slots)
    {g : JFrame} (hg : g.method = m) (hsize : g.locals.size = c.maxLocals) (argsL rest : List Value) (has : argsL.toArray = as') (hlen : ∀ sig, parseMethodDescriptor y.desc = some sig → argsL.length = sig.parameters.length) (hstack : g.stack = argsL.reverse ++ rest) (hW : 2 * g.monitorRoom + (rest.map fun v => v.category).sum ≤ W)
    (hd : decode c.code g.pc = .ok (.invokestatic index, 3)) :
    ∃ (v : Option Value) (T' : State) (L : List Loc), Stand p l e R s m args below meth c T' (locs ++ L) (cells + rm.cells) (slots + rm.slots) ∧ Q v T'.heap L ∧ ∀ t, Steps p.tables e below (T'.setTop { g with pc := g.pc + 3, stack := v.toList ++ rest }) t → Steps p.tables e below (T.setTop g) t := by
  obtain ⟨v, _, ⟨T', L', k', n'⟩, -, X', ⟨L, hQ, l1, l2, l3⟩, st⟩ := Jvm.LawKit.callS X hx hown (mvT hZ w1) (mvT hZ w2) (mvT hZ w3) (mvT hZ w4) hy (backOf (W := W) hM hZ w4 w3 hf hl) hg hsize hlen hstack hW hd (fun _ _ => ⟨has, eT, hc, hs⟩)
  dsimp only [Pt.U, Pt.locs, Pt.cells, Pt.slots] at X' l1 l2 l3 st hQ
  subst l1 l2 l3
  exact ⟨v, T', L, X', hQ, st⟩
theorem own_callV (X : Stand p l e R s m args below meth c T locs cells slots) (hx : p.tables.exec = Jvm.exec) (hZ : Z.Warmed39 s.vm)
    {own C : String} {index : Nat} {y z : MethodName} {bytes : ByteArray} {maxL : Nat} {ret : Option FieldType} {rm : Room} {as' : Array Value} {Q : Option Value → Heap → List Loc → Prop} {b : Addr}
    (hown : s.vm.findClass own = some m.cls) (w1 : (Jvm.Cond.methodLink own index y).before a0 Z = true) (w2 : (Jvm.Cond.declares y).before a0 Z = true) (hnf : NotFace s y) (w4 : (Jvm.Cond.selects C y z).before a0 Z = true) (w5 : (Jvm.Cond.instanceMethod z).before a0 Z = true) (w3 : (Jvm.Cond.initialized z.cls).before a0 Z = true) (w6 : (Jvm.Cond.code z bytes maxL ret).before a0 Z = true)
    (hy : y.cls ≠ "java/lang/invoke/MethodHandle" ∧ y.cls ≠ "java/lang/invoke/VarHandle") (eT : T.heap = h) (E : Exa Z h b C) (hM : Con l Z h z bytes maxL ret [] rm as' Q)
    (W : Nat) (hf : rm.frames + 1 ≤ R.frames) (hl : W + (maxL + 11) + rm.locals ≤ R.locals) (hc : cells + rm.cells ≤ R.cells) (hs : slots + rm.slots ≤ R.slots)
    {g : JFrame} (hg : g.method = m) (hsize : g.locals.size = c.maxLocals) (argsL rest : List Value) (has : (.ref b :: argsL).toArray = as') (hlen : ∀ sig, parseMethodDescriptor y.desc = some sig → argsL.length = sig.parameters.length) (hstack : g.stack = argsL.reverse ++ .ref b :: rest) (hW : 2 * g.monitorRoom + (rest.map fun v => v.category).sum ≤ W)
    (hd : decode c.code g.pc = .ok (.invokevirtual index, 3)) :
    ∃ (v : Option Value) (T' : State) (L : List Loc), Stand p l e R s m args below meth c T' (locs ++ L) (cells + rm.cells) (slots + rm.slots) ∧ Q v T'.heap L ∧ ∀ t, Steps p.tables e below (T'.setTop { g with pc := g.pc + 3, stack := v.toList ++ rest }) t → Steps p.tables e below (T.setTop g) t := by
  obtain ⟨cq, kq, qa, qb, qc⟩ := isOf hZ eT E
  obtain ⟨v, _, ⟨T', L', k', n'⟩, -, X', ⟨L, hQ, l1, l2, l3⟩, st⟩ := X.virtualBack hx hown (mvT hZ w1) (mvT hZ w2) hnf (mvT hZ w4) (mvT hZ w5) hy (backOf (W := W) hM hZ w6 w3 hf hl) qa qc hg hsize (Steps.refl _) hlen hstack hW hd (fun _ _ => ⟨has, eT, hc, hs⟩)
  dsimp only [Pt.U, Pt.locs, Pt.cells, Pt.slots] at X' l1 l2 l3 st hQ
  subst l1 l2 l3
  exact ⟨v, T', L, X', hQ, fun t k => st.trans k⟩
theorem own_callI (X : Stand p l e R s m args below meth c T locs cells slots) (hx : p.tables.exec = Jvm.exec) (hZ : Z.Warmed39 s.vm)
    {own : String} {index : Nat} {y : MethodName} {bytes : ByteArray} {maxL : Nat} {rm : Room} {as' : Array Value} {Q : Option Value → Heap → List Loc → Prop} {b : Addr} (hy1 : y.name = "<init>")
    (hown : s.vm.findClass own = some m.cls) (w1 : (Jvm.Cond.methodLink own index y).before a0 Z = true) (w5 : (Jvm.Cond.instanceMethod y).before a0 Z = true) (w3 : (Jvm.Cond.initialized y.cls).before a0 Z = true) (w6 : (Jvm.Cond.code y bytes maxL none).before a0 Z = true)
    (hy : y.cls ≠ "java/lang/invoke/MethodHandle" ∧ y.cls ≠ "java/lang/invoke/VarHandle") (eT : T.heap = h) (hM : Con l Z h y bytes maxL none [] rm as' Q)
    (W : Nat) (hf : rm.frames + 1 ≤ R.frames) (hl : W + (maxL + 11) + rm.locals ≤ R.locals) (hc : cells + rm.cells ≤ R.cells) (hs : slots + rm.slots ≤ R.slots)
    {g : JFrame} (hg : g.method = m) (hsize : g.locals.size = c.maxLocals) (argsL rest : List Value) (has : (.ref b :: argsL).toArray = as') (hlen : ∀ sig, parseMethodDescriptor y.desc = some sig → argsL.length = sig.parameters.length) (hstack : g.stack = argsL.reverse ++ .ref b :: rest) (hW : 2 * g.monitorRoom + (rest.map fun v => v.category).sum ≤ W)
    (hd : decode c.code g.pc = .ok (.invokespecial index, 3)) :
    ∃ (v : Option Value) (T' : State) (L : List Loc), Stand p l e R s m args below meth c T' (locs ++ L) (cells + rm.cells) (slots + rm.slots) ∧ Q v T'.heap L ∧ ∀ t, Steps p.tables e below (T'.setTop { g with pc := g.pc + 3, stack := v.toList ++ rest }) t → Steps p.tables e below (T.setTop g) t := by
  obtain ⟨v, _, ⟨T', L', k', n'⟩, -, X', ⟨L, hQ, l1, l2, l3⟩, st⟩ := X.specialBack hx hy1 hown (mvT hZ w1) (mvT hZ w5) (mvT hZ w6) hy (backOf (W := W) hM hZ w6 w3 hf hl) hg hsize (Steps.refl _) hlen hstack hW hd (fun _ _ => ⟨has, eT, hc, hs⟩)
  dsimp only [Pt.U, Pt.locs, Pt.cells, Pt.slots] at X' l1 l2 l3 st hQ
  subst l1 l2 l3
  exact ⟨v, T', L, X', hQ, fun t k => st.trans k⟩
/-- the end of a walk -/
theorem own_fin (X : Stand p l e R s m args below meth c T locs cells slots) (hlk : meth.locks = false) {v : Option Value} (hv : meth.sig.returnType = none → v = none) {Q : Option Value → Heap → List Loc → Prop} {cs sl : Nat} (eT : T.heap = h) (hQ : Q v h locs) (hc : cells ≤ cs) (hs : slots ≤ sl) {S : State}
    (k : ∀ fs : List Frame, (∀ (f : JFrame) (acts : List Action), f.method = m → f.locked = none → f.entered = [] → (doReturn e (T.setTop f) acts v).1 = T.setFrames fs) → Steps p.tables e below S (T.setFrames fs)) : Go p e below (Ret s Q cs sl) S := by
  obtain ⟨fs, hr, hrun, hended, hW, hsame⟩ := X.leave hv hlk
  refine ⟨_, _, k fs hr, hrun, hended, _, _, rfl, ?_, ⟨_, rfl⟩, hW, hsame.mono hc hs⟩
  have q : (T.setFrames fs).heap = h := eT
  rw [q]; exact hQ
theorem own_retO (X : Stand p l e R s m args below meth c T locs cells slots) (hx : p.tables.exec = Jvm.exec) (hlk : meth.locks = false) {pc : Nat} {Ls : Array Slot} {w : Value} {t : FieldType} {i : Instr} {rest : List Value} (hret : meth.sig.returnType = some t) (hn : narrow t w = w)
    (hi : (i = .ireturn ∧ (t = .int ∨ t = .boolean ∨ t = .byte ∨ t = .char ∨ t = .short) ∧ ∃ z, w = .int z) ∨ (i = .lreturn ∧ t = .long ∧ ∃ z, w = .long z) ∨ (i = .dreturn ∧ t = .double ∧ ∃ z, w = .double z) ∨ (i = .freturn ∧ t = .float ∧ ∃ z, w = .float z) ∨ (i = .areturn ∧ t.isReference = true ∧ w.isRef = true))
    (hd : decode c.code pc = .ok (i, 1)) {Q : Option Value → Heap → List Loc → Prop} {cs sl : Nat} (eT : T.heap = h) (hQ : Q (some w) h locs) (hc : cells ≤ cs) (hs : slots ≤ sl) : Go p e below (Ret s Q cs sl) (T.setTop (mkF m pc Ls (w :: rest))) :=
  own_fin X hlk (fun q => by rw [hret] at q; cases q) eT hQ hc hs fun fs hr => retOut X hx hret hn hi hd hr
theorem own_retI (X : Stand p l e R s m args below meth c T locs cells slots) (hx : p.tables.exec = Jvm.exec) (hlk : meth.locks = false) {pc : Nat} {Ls : Array Slot} {w : Int32} {rest : List Value} (hret : meth.sig.returnType = some .int)
    (hd : decode c.code pc = .ok (.ireturn, 1)) {Q : Option Value → Heap → List Loc → Prop} {cs sl : Nat} (eT : T.heap = h) (hQ : Q (some (.int w)) h locs) (hc : cells ≤ cs) (hs : slots ≤ sl) : Go p e below (Ret s Q cs sl) (T.setTop (mkF m pc Ls (.int w :: rest))) :=
  own_retO X hx hlk hret rfl (Or.inl ⟨rfl, Or.inl rfl, _, rfl⟩) hd eT hQ hc hs
theorem own_retJ (X : Stand p l e R s m args below meth c T locs cells slots) (hx : p.tables.exec = Jvm.exec) (hlk : meth.locks = false) {pc : Nat} {Ls : Array Slot} {w : Int64} {rest : List Value} (hret : meth.sig.returnType = some .long)
    (hd : decode c.code pc = .ok (.lreturn, 1)) {Q : Option Value → Heap → List Loc → Prop} {cs sl : Nat} (eT : T.heap = h) (hQ : Q (some (.long w)) h locs) (hc : cells ≤ cs) (hs : slots ≤ sl) : Go p e below (Ret s Q cs sl) (T.setTop (mkF m pc Ls (.long w :: rest))) :=
  own_retO X hx hlk hret rfl (Or.inr (Or.inl ⟨rfl, rfl, _, rfl⟩)) hd eT hQ hc hs
theorem own_retA (X : Stand p l e R s m args below meth c T locs cells slots) (hx : p.tables.exec = Jvm.exec) (hlk : meth.locks = false) {pc : Nat} {Ls : Array Slot} {w : Value} {t : FieldType} {rest : List Value} (hret : meth.sig.returnType = some t) (hn : narrow t w = w) (ht : t.isReference = true) (hw : w.isRef = true)
    (hd : decode c.code pc = .ok (.areturn, 1)) {Q : Option Value → Heap → List Loc → Prop} {cs sl : Nat} (eT : T.heap = h) (hQ : Q (some w) h locs) (hc : cells ≤ cs) (hs : slots ≤ sl) : Go p e below (Ret s Q cs sl) (T.setTop (mkF m pc Ls (w :: rest))) :=
  own_retO X hx hlk hret hn (Or.inr (Or.inr (Or.inr (Or.inr ⟨rfl, ht, hw⟩)))) hd eT hQ hc hs
theorem own_retN (X : Stand p l e R s m args below meth c T locs cells slots) (hx : p.tables.exec = Jvm.exec) (hlk : meth.locks = false) {pc : Nat} {Ls : Array Slot} {z : Int32} {t : FieldType} {rest : List Value} (hret : meth.sig.returnType = some t) (ht : t = .boolean ∨ t = .byte ∨ t = .char ∨ t = .short)
    (hd : decode c.code pc = .ok (.ireturn, 1)) {Q : Option Value → Heap → List Loc → Prop} {cs sl : Nat} (eT : T.heap = h) (hQ : Q (some (.int (nar t z))) h locs) (hc : cells ≤ cs) (hs : slots ≤ sl) : Go p e below (Ret s Q cs sl) (T.setTop (mkF m pc Ls (.int z :: rest))) :=
  own_fin X hlk (fun q => by rw [hret] at q; cases q) eT hQ hc hs fun fs hr => retN X hx hret ht hd hr
theorem own_retV (X : Stand p l e R s m args below meth c T locs cells slots) (hx : p.tables.exec = Jvm.exec) (hlk : meth.locks = false) {pc : Nat} {Ls : Array Slot} (hret : meth.sig.returnType = none)
    (hd : decode c.code pc = .ok (.return_, 1)) {Q : Option Value → Heap → List Loc → Prop} {cs sl : Nat} (eT : T.heap = h) (hQ : Q none h locs) (hc : cells ≤ cs) (hs : slots ≤ sl) : Go p e below (Ret s Q cs sl) (T.setTop (mkF m pc Ls [])) :=
  own_fin X hlk (fun _ => rfl) eT hQ hc hs fun fs hr => X.returnOut hx hret hd hr
theorem own_Llt {x y : Int64} (h : x < y) : ifCond.holds .lt (lcmpW x y) = true ∧ ifCond.holds .ge (lcmpW x y) = false := by
  have q := (lc_lt x y).mpr h; rw [← lcW] at q; exact ⟨(if0 _ _).trans (tlt q).1, (if0 _ _).trans (tlt q).2.1⟩
theorem own_Lnlt {x y : Int64} (h : ¬ x < y) : ifCond.holds .lt (lcmpW x y) = false ∧ ifCond.holds .ge (lcmpW x y) = true := by
  have q : ¬ lcmpW x y < 0 := fun r => h ((lc_lt x y).mp (by rw [← lcW]; exact r)); exact ⟨(if0 _ _).trans (flt q).1, (if0 _ _).trans (flt q).2.1⟩
theorem own_Lgt {x y : Int64} (h : y < x) : ifCond.holds .gt (lcmpW x y) = true ∧ ifCond.holds .le (lcmpW x y) = false := by
  have q := (lc_gt x y).mpr h; rw [← lcW] at q; exact ⟨(if0 _ _).trans (tlt q).2.2.1, (if0 _ _).trans (tlt q).2.2.2⟩
theorem own_Lngt {x y : Int64} (h : ¬ y < x) : ifCond.holds .gt (lcmpW x y) = false ∧ ifCond.holds .le (lcmpW x y) = true := by
  have q : ¬ 0 < lcmpW x y := fun r => h ((lc_gt x y).mp (by rw [← lcW]; exact r)); exact ⟨(if0 _ _).trans (flt q).2.2.1, (if0 _ _).trans (flt q).2.2.2⟩
theorem own_Leq {x y : Int64} (h : x = y) : ifCond.holds .eq (lcmpW x y) = true ∧ ifCond.holds .ne (lcmpW x y) = false := by
  have q := (lc_eq x y).mpr h; rw [← lcW] at q; exact ⟨(if0 _ _).trans (teq q).1, (if0 _ _).trans (teq q).2⟩
theorem own_Lne {x y : Int64} (h : ¬ x = y) : ifCond.holds .eq (lcmpW x y) = false ∧ ifCond.holds .ne (lcmpW x y) = true := by
  have q : ¬ lcmpW x y = 0 := fun r => h ((lc_eq x y).mp (by rw [← lcW]; exact r)); exact ⟨(if0 _ _).trans (feq q).1, (if0 _ _).trans (feq q).2⟩
theorem own_Ext.refl (h : Heap) : Ext h h := ⟨Nat.le_refl _, fun _ _ q => q⟩
theorem own_Ext.trans {h1 h2 h3 : Heap} (a : Ext h1 h2) (b : Ext h2 h3) : Ext h1 h3 := ⟨Nat.le_trans a.1 b.1, fun x c q => b.2 x c (a.2 x c q)⟩
theorem own_Ext.wr {h0 : Heap} {a : Addr} {sl : Nat} {v : Value} (E : Ext h0 h) (W : Wr h h' a sl v) (q : h0.size ≤ a) : Ext h0 h' := by
  have K : Keep h0 h [] := ⟨E.1, fun x c r _ => E.2 x c r, fun x c r => ⟨c, E.2 x c r, rfl, rfl, rfl⟩⟩
  have K' := K.wr W (Or.inr q)
  exact ⟨K'.1, fun x c r => K'.2.1 x c r (fun z => nomatch z)⟩
theorem own_Ext.keep {h0 : Heap} {ws : List Addr} (E : Ext h0 h) (K : Keep h h' ws) (q : ∀ x ∈ ws, h0.size ≤ x) : Ext h0 h' := by
  refine ⟨Nat.le_trans E.1 K.1, fun x c r => K.2.1 x c (E.2 x c r) fun z => ?_⟩
  have lt : x < h0.size := (Array.getElem?_eq_some_iff.mp r).1
  exact absurd (q x z) (Nat.not_le_of_lt lt)
theorem own_fldI {t : Term} {x : Addr} {C n d : String} {k : Int32} (ev : t.eval args s none [] s = some (.ref x)) (hq : (Jvm.Cond.eq (.field t C n d) (.int k)).value args s none s [] = some true) : Fld s s.heap x C n d (.int k) := by
  obtain ⟨u, v, e1, e2, k1, k2⟩ := cmp_v (Or.inl hq)
  obtain rfl : v = .int k := (Option.some.inj (e2.symm.trans (Term.int_eval k)))
  obtain ⟨z, rfl⟩ := k2
  obtain rfl : z = k := gotT (Jvm.Cond.eq_ints e1 (Term.int_eval k)) hq
  exact Fld.start ((fld_at ev).symm.trans e1)
theorem own_fldJ {t : Term} {x : Addr} {C n d : String} {k : Int64} (ev : t.eval args s none [] s = some (.ref x)) (hq : (Jvm.Cond.eq (.field t C n d) (.long k)).value args s none s [] = some true) : Fld s s.heap x C n d (.long k) := by
  obtain ⟨u, v, e1, e2, k1, k2⟩ := cmp_v (Or.inl hq)
  obtain rfl : v = .long k := (Option.some.inj (e2.symm.trans (long_at k)))
  obtain ⟨z, rfl⟩ := k2
  obtain rfl : z = k := gotT (eq_L e1 (long_at k)) hq
  exact Fld.start ((fld_at ev).symm.trans e1)
theorem own_len0 {t : Term} {x : Addr} {ty : FieldType} {cl : Cell} (ev : t.eval args s none [] s = some (.ref x)) (A : Arr s s.heap x cl ty) (hq : (Jvm.Cond.eq (.length t) (.int 0)).value args s none s [] = some true) : True := trivial
end OwnKit
/-- the sheet's i-th word -/
theorem ww {Z : State} {a0 : Array Value} (hw : ∀ d ∈ tables_1, d.before a0 Z = true) (i : Nat) {d : Jvm.Cond} (h : tables_1[i]? = some d) : d.before a0 Z = true := hw _ (List.mem_of_getElem? h)
section OwnHeap
variable {p : Program} {l : Launch} {e : Env} {R : Room} {s : State} {m : MethodId} {args : Array Value} {below : List Frame} {meth : Method} {c : Code} {T : State} {locs : List Loc} {cells slots : Nat} {Z : State} {a0 : Array Value} {h h' : Heap} {a : Addr} {k : ClassId} {ty : FieldType} {z j : Int32} {vs : List Value} {dv v : Value} {g : JFrame} {rest : List Value}
theorem own_arvset {i : Nat} (F : Arv Z h a k ty z vs dv) (hv : fits ty v = true) (W : Wr h h' a j.toNatClampNeg v) (hi : j.toNatClampNeg = i) (hl : i < vs.length) : Arv Z h' a k ty z (vs.set i v) dv := by
  obtain ⟨cl, A, q, S, N, H, G⟩ := F
  exact Arv.set A q S N H G hv W i hi hl
theorem own_stI (X : Stand p l e R s m args below meth c T locs cells slots) (hx : p.tables.exec = Jvm.exec) (hZ : Z.Warmed39 s.vm) (eT : T.heap = h) (F : Arv Z h a k .int z vs dv) {x : Int32} (hj : ¬ j < 0 ∧ j < z) (i : Nat) (hi : j.toNatClampNeg = i) (hl : i < vs.length) (hg : g.method = m) (hs : g.stack = .int x :: .int j :: .ref a :: rest) (hd : decode c.code g.pc = .ok (.iastore, 1)) :
    ∃ T' h', Stand p l e R s m args below meth c T' (locs ++ [⟨a, j.toNatClampNeg⟩]) cells slots ∧ T'.heap = h' ∧ Wr h h' a j.toNatClampNeg (.int x) ∧ Arv Z h' a k .int z (vs.set i (.int x)) dv ∧ ∀ target, Steps p.tables e below (T'.setTop { g with pc := g.pc + 1, stack := rest }) target → Steps p.tables e below (T.setTop g) target := by
  obtain ⟨cl, A, q, S, N, H, G⟩ := id F
  obtain ⟨T', h', X', e', W, st⟩ := stI X hx hZ eT A (inb_of S hj) hg hs hd
  exact ⟨T', h', X', e', W, own_arvset F rfl W hi hl, st⟩
theorem own_stJ (X : Stand p l e R s m args below meth c T locs cells slots) (hx : p.tables.exec = Jvm.exec) (hZ : Z.Warmed39 s.vm) (eT : T.heap = h) (F : Arv Z h a k .long z vs dv) {x : Int64} (hj : ¬ j < 0 ∧ j < z) (i : Nat) (hi : j.toNatClampNeg = i) (hl : i < vs.length) (hg : g.method = m) (hs : g.stack = .long x :: .int j :: .ref a :: rest) (hd : decode c.code g.pc = .ok (.lastore, 1)) :
    ∃ T' h', Stand p l e R s m args below meth c T' (locs ++ [⟨a, j.toNatClampNeg⟩]) cells slots ∧ T'.heap = h' ∧ Wr h h' a j.toNatClampNeg (.long x) ∧ Arv Z h' a k .long z (vs.set i (.long x)) dv ∧ ∀ target, Steps p.tables e below (T'.setTop { g with pc := g.pc + 1, stack := rest }) target → Steps p.tables e below (T.setTop g) target := by
  obtain ⟨cl, A, q, S, N, H, G⟩ := id F
  obtain ⟨T', h', X', e', W, st⟩ := stJ X hx hZ eT A (inb_of S hj) hg hs hd
  exact ⟨T', h', X', e', W, own_arvset F rfl W hi hl, st⟩
theorem own_stB (X : Stand p l e R s m args below meth c T locs cells slots) (hx : p.tables.exec = Jvm.exec) (hZ : Z.Warmed39 s.vm) (eT : T.heap = h) (F : Arv Z h a k .byte z vs dv) {x : Int32} (hj : ¬ j < 0 ∧ j < z) (i : Nat) (hi : j.toNatClampNeg = i) (hl : i < vs.length) (hg : g.method = m) (hs : g.stack = .int x :: .int j :: .ref a :: rest) (hd : decode c.code g.pc = .ok (.bastore, 1)) :
    ∃ T' h', Stand p l e R s m args below meth c T' (locs ++ [⟨a, j.toNatClampNeg⟩]) cells slots ∧ T'.heap = h' ∧ Wr h h' a j.toNatClampNeg (.int (nar .byte x)) ∧ Arv Z h' a k .byte z (vs.set i (.int (nar .byte x))) dv ∧ ∀ target, Steps p.tables e below (T'.setTop { g with pc := g.pc + 1, stack := rest }) target → Steps p.tables e below (T.setTop g) target := by
  obtain ⟨cl, A, q, S, N, H, G⟩ := id F
  obtain ⟨T', h', X', e', W, st⟩ := stB X hx hZ eT A (inb_of S hj) hg hs hd
  exact ⟨T', h', X', e', W, own_arvset F (fits_nar_byte _) W hi hl, st⟩
theorem own_stC (X : Stand p l e R s m args below meth c T locs cells slots) (hx : p.tables.exec = Jvm.exec) (hZ : Z.Warmed39 s.vm) (eT : T.heap = h) (F : Arv Z h a k .char z vs dv) {x : Int32} (hj : ¬ j < 0 ∧ j < z) (i : Nat) (hi : j.toNatClampNeg = i) (hl : i < vs.length) (hg : g.method = m) (hs : g.stack = .int x :: .int j :: .ref a :: rest) (hd : decode c.code g.pc = .ok (.castore, 1)) :
    ∃ T' h', Stand p l e R s m args below meth c T' (locs ++ [⟨a, j.toNatClampNeg⟩]) cells slots ∧ T'.heap = h' ∧ Wr h h' a j.toNatClampNeg (.int (nar .char x)) ∧ Arv Z h' a k .char z (vs.set i (.int (nar .char x))) dv ∧ ∀ target, Steps p.tables e below (T'.setTop { g with pc := g.pc + 1, stack := rest }) target → Steps p.tables e below (T.setTop g) target := by
  obtain ⟨cl, A, q, S, N, H, G⟩ := id F
  obtain ⟨T', h', X', e', W, st⟩ := stC X hx hZ eT A (inb_of S hj) hg hs hd
  exact ⟨T', h', X', e', W, own_arvset F (fits_nar_char _) W hi hl, st⟩
theorem own_stR (X : Stand p l e R s m args below meth c T locs cells slots) (hx : p.tables.exec = Jvm.exec) (hZ : Z.Warmed39 s.vm) (eT : T.heap = h) {C : String} {y : Addr} (F : Arv Z h a k (.object C) z vs dv) (O : Ovr Z k C) (I : Ins Z h y C true) (hj : ¬ j < 0 ∧ j < z) (i : Nat) (hi : j.toNatClampNeg = i) (hl : i < vs.length) (hg : g.method = m) (hs : g.stack = .ref y :: .int j :: .ref a :: rest) (hd : decode c.code g.pc = .ok (.aastore, 1)) :
    ∃ T' h', Stand p l e R s m args below meth c T' (locs ++ [⟨a, j.toNatClampNeg⟩]) cells slots ∧ T'.heap = h' ∧ Wr h h' a j.toNatClampNeg (.ref y) ∧ Arv Z h' a k (.object C) z (vs.set i (.ref y)) dv ∧ ∀ target, Steps p.tables e below (T'.setTop { g with pc := g.pc + 1, stack := rest }) target → Steps p.tables e below (T.setTop g) target := by
  obtain ⟨cl, A, q, S, N, H, G⟩ := id F
  obtain ⟨T', h', X', e', W, st⟩ := stR X hx hZ eT A (inb_of S hj) rfl (Sto.ofV A q O I) hg hs hd
  exact ⟨T', h', X', e', W, own_arvset F rfl W hi hl, st⟩
theorem own_ldR (X : Stand p l e R s m args below meth c T locs cells slots) (hx : p.tables.exec = Jvm.exec) (hZ : Z.Warmed39 s.vm) (eT : T.heap = h) (F : Arv Z h a k ty z vs dv) (hty : ty.isReference = true) (hj : ¬ j < 0 ∧ j < z) (hv : vs.getD j.toNatClampNeg dv = v) (hg : g.method = m) (hs : g.stack = .int j :: .ref a :: rest) (hd : decode c.code g.pc = .ok (.aaload, 1)) :
    ∀ target, Steps p.tables e below (T.setTop { g with pc := g.pc + 1, stack := v :: rest }) target → Steps p.tables e below (T.setTop g) target := by
  obtain ⟨cl, A, q, S, N, H, G⟩ := F
  exact fun t k => X.aaload hx (by rw [eT]; exact A.1) (State.isArrayOf_alike hZ.alike A.2.1) hty A.2.2 (inb_of S hj) (H.at (inb_of S hj) hv) hg hs hd t k
theorem own_ldJ (X : Stand p l e R s m args below meth c T locs cells slots) (hx : p.tables.exec = Jvm.exec) (hZ : Z.Warmed39 s.vm) (eT : T.heap = h) (F : Arv Z h a k .long z vs dv) (hj : ¬ j < 0 ∧ j < z) (hv : vs.getD j.toNatClampNeg dv = v) (hg : g.method = m) (hs : g.stack = .int j :: .ref a :: rest) (hd : decode c.code g.pc = .ok (.laload, 1)) :
    ∀ target, Steps p.tables e below (T.setTop { g with pc := g.pc + 1, stack := v :: rest }) target → Steps p.tables e below (T.setTop g) target := by
  obtain ⟨cl, A, q, S, N, H, G⟩ := F
  exact fun t k => X.laload hx (by rw [eT]; exact A.1) (State.isArrayOf_alike hZ.alike A.2.1) A.2.2 (inb_of S hj) (H.at (inb_of S hj) hv) hg hs hd t k
theorem own_ldI (X : Stand p l e R s m args below meth c T locs cells slots) (hx : p.tables.exec = Jvm.exec) (hZ : Z.Warmed39 s.vm) (eT : T.heap = h) (F : Arv Z h a k .int z vs dv) (hj : ¬ j < 0 ∧ j < z) (hv : vs.getD j.toNatClampNeg dv = v) (hg : g.method = m) (hs : g.stack = .int j :: .ref a :: rest) (hd : decode c.code g.pc = .ok (.iaload, 1)) :
    ∀ target, Steps p.tables e below (T.setTop { g with pc := g.pc + 1, stack := v :: rest }) target → Steps p.tables e below (T.setTop g) target := by
  obtain ⟨cl, A, q, S, N, H, G⟩ := F
  exact fun t k => X.iaload hx (by rw [eT]; exact A.1) (State.isArrayOf_alike hZ.alike A.2.1) A.2.2 (inb_of S hj) (H.at (inb_of S hj) hv) hg hs hd t k
theorem own_ldB (X : Stand p l e R s m args below meth c T locs cells slots) (hx : p.tables.exec = Jvm.exec) (hZ : Z.Warmed39 s.vm) (eT : T.heap = h) (F : Arv Z h a k .byte z vs dv) (hj : ¬ j < 0 ∧ j < z) (hv : vs.getD j.toNatClampNeg dv = v) (hg : g.method = m) (hs : g.stack = .int j :: .ref a :: rest) (hd : decode c.code g.pc = .ok (.baload, 1)) :
    ∀ target, Steps p.tables e below (T.setTop { g with pc := g.pc + 1, stack := v :: rest }) target → Steps p.tables e below (T.setTop g) target := by
  obtain ⟨cl, A, q, S, N, H, G⟩ := F
  exact fun t k => X.baloadBytes hx (by rw [eT]; exact A.1) (State.isArrayOf_alike hZ.alike A.2.1) A.2.2 (inb_of S hj) (H.at (inb_of S hj) hv) hg hs hd t k
theorem own_alen (X : Stand p l e R s m args below meth c T locs cells slots) (hx : p.tables.exec = Jvm.exec) (hZ : Z.Warmed39 s.vm) (eT : T.heap = h) (F : Arv Z h a k ty z vs dv) (hg : g.method = m) (hs : g.stack = .ref a :: rest) (hd : decode c.code g.pc = .ok (.arraylength, 1)) :
    ∀ target, Steps p.tables e below (T.setTop { g with pc := g.pc + 1, stack := .int z :: rest }) target → Steps p.tables e below (T.setTop g) target := by
  obtain ⟨cl, A, q, S, N, H, G⟩ := F
  intro t k
  refine X.arraylength hx (by rw [eT]; exact A.1) (State.isArrayOf_alike hZ.alike A.2.1) hg hs hd t ?_
  rw [len_of S N]; exact k
theorem own_lt_ne {x y : Addr} (q : x < h.size) (g : y = h.size) : x ≠ y := Nat.ne_of_lt (g ▸ q)
theorem own_lt_ne' {x y : Addr} (q : x < h.size) (g : h.size ≤ y) : x ≠ y := Nat.ne_of_lt (Nat.lt_of_lt_of_le q g)
theorem own_callVU (X : Stand p l e R s m args below meth c T locs cells slots) (hx : p.tables.exec = Jvm.exec) (hZ : Z.Warmed39 s.vm)
    {own C owner : String} {index : Nat} {y z : MethodName} {bytes : ByteArray} {maxL : Nat} {ret : Option FieldType} {rm : Room} {as' : Array Value} {Q : Option Value → Heap → List Loc → Prop} {b : Addr}
    (hown : s.vm.findClass own = some m.cls) (w1 : (Jvm.Cond.methodLink own index y).before a0 Z = true) (w2 : (Jvm.Cond.sameMethod y.cls owner y.name y.desc).before a0 Z = true) (w7 : (Jvm.Cond.declares ⟨owner, y.name, y.desc⟩).before a0 Z = true) (ho : owner ≠ "java/lang/invoke/MethodHandle" ∧ owner ≠ "java/lang/invoke/VarHandle") (w4 : (Jvm.Cond.selects C y z).before a0 Z = true) (w5 : (Jvm.Cond.instanceMethod z).before a0 Z = true) (w3 : (Jvm.Cond.initialized z.cls).before a0 Z = true) (w6 : (Jvm.Cond.code z bytes maxL ret).before a0 Z = true)
    (eT : T.heap = h) (E : Exa Z h b C) (hM : Con l Z h z bytes maxL ret [] rm as' Q)
    (W : Nat) (hf : rm.frames + 1 ≤ R.frames) (hl : W + (maxL + 11) + rm.locals ≤ R.locals) (hc : cells + rm.cells ≤ R.cells) (hs : slots + rm.slots ≤ R.slots)
    {g : JFrame} (hg : g.method = m) (hsize : g.locals.size = c.maxLocals) (argsL rest : List Value) (has : (.ref b :: argsL).toArray = as') (hlen : ∀ sig, parseMethodDescriptor y.desc = some sig → argsL.length = sig.parameters.length) (hstack : g.stack = argsL.reverse ++ .ref b :: rest) (hW : 2 * g.monitorRoom + (rest.map fun v => v.category).sum ≤ W)
    (hd : decode c.code g.pc = .ok (.invokevirtual index, 3)) :
    ∃ (v : Option Value) (T' : State) (L : List Loc), Stand p l e R s m args below meth c T' (locs ++ L) (cells + rm.cells) (slots + rm.slots) ∧ Q v T'.heap L ∧ ∀ t, Steps p.tables e below (T'.setTop { g with pc := g.pc + 3, stack := v.toList ++ rest }) t → Steps p.tables e below (T.setTop g) t := by
  obtain ⟨cq, kq, qa, qb, qc⟩ := isOf hZ eT E
  obtain ⟨v, _, ⟨T', L', k', n'⟩, -, X', ⟨L, hQ, l1, l2, l3⟩, st⟩ := X.virtualBackUp hx hown (mvT hZ w1) (mvT hZ w2) (mvT hZ w7) ho (mvT hZ w4) (mvT hZ w5) (backOf (W := W) hM hZ w6 w3 hf hl) qa qc hg hsize (Steps.refl _) hlen hstack hW hd (fun _ _ => ⟨has, eT, hc, hs⟩)
  dsimp only [Pt.U, Pt.locs, Pt.cells, Pt.slots] at X' l1 l2 l3 st hQ
  subst l1 l2 l3
  exact ⟨v, T', L, X', hQ, fun t k => st.trans k⟩
theorem own_callF (X : Stand p l e R s m args below meth c T locs cells slots) (hx : p.tables.exec = Jvm.exec) (hZ : Z.Warmed39 s.vm)
    {own C : String} {index count : Nat} {y z : MethodName} {bytes : ByteArray} {maxL : Nat} {ret : Option FieldType} {rm : Room} {as' : Array Value} {Q : Option Value → Heap → List Loc → Prop} {b : Addr}
    (hown : s.vm.findClass own = some m.cls) (w1 : (Jvm.Cond.methodLink own index y).before a0 Z = true) (w2 : (Jvm.Cond.declares y).before a0 Z = true) (w7 : (Jvm.Cond.interfaceMethod y.cls y.cls y.name y.desc).before a0 Z = true) (w4 : (Jvm.Cond.selects C y z).before a0 Z = true) (w5 : (Jvm.Cond.instanceMethod z).before a0 Z = true) (w8 : (Jvm.Cond.publicMethod z).before a0 Z = true) (w9 : (Jvm.Cond.unhidden C y.name y.desc).before a0 Z = true) (w10 : (Jvm.Cond.castable C y.cls).before a0 Z = true) (w3 : (Jvm.Cond.initialized z.cls).before a0 Z = true) (w6 : (Jvm.Cond.code z bytes maxL ret).before a0 Z = true)
    (hy : y.cls ≠ "java/lang/invoke/MethodHandle" ∧ y.cls ≠ "java/lang/invoke/VarHandle") (eT : T.heap = h) (E : Exa Z h b C) (hM : Con l Z h z bytes maxL ret [] rm as' Q)
    (W : Nat) (hf : rm.frames + 1 ≤ R.frames) (hl : W + (maxL + 11) + rm.locals ≤ R.locals) (hc : cells + rm.cells ≤ R.cells) (hs : slots + rm.slots ≤ R.slots)
    {g : JFrame} (hg : g.method = m) (hsize : g.locals.size = c.maxLocals) (argsL rest : List Value) (has : (.ref b :: argsL).toArray = as') (hlen : ∀ sig, parseMethodDescriptor y.desc = some sig → argsL.length = sig.parameters.length) (hstack : g.stack = argsL.reverse ++ .ref b :: rest) (hW : 2 * g.monitorRoom + (rest.map fun v => v.category).sum ≤ W)
    (hd : decode c.code g.pc = .ok (.invokeinterface index count, 5)) :
    ∃ (v : Option Value) (T' : State) (L : List Loc), Stand p l e R s m args below meth c T' (locs ++ L) (cells + rm.cells) (slots + rm.slots) ∧ Q v T'.heap L ∧ ∀ t, Steps p.tables e below (T'.setTop { g with pc := g.pc + 5, stack := v.toList ++ rest }) t → Steps p.tables e below (T.setTop g) t := by
  obtain ⟨cq, kq, qa, qb, qc⟩ := isOf hZ eT E
  obtain ⟨v, _, ⟨T', L', k', n'⟩, -, X', ⟨L, hQ, l1, l2, l3⟩, st⟩ := X.interfaceBack hx hown (mvT hZ w1) (mvT hZ w2) (mvT hZ w7 (by simp [Cond.onTables, Cond.keepsFace, Cond.keeps, Cond.steady, Cond.faceAtom, hy.1, hy.2])) (mvT hZ w4) (mvT hZ w5) (mvT hZ w8) (mvT hZ w9) (mvT hZ w10) hy (backOf (W := W) hM hZ w6 w3 hf hl) qa qb qc hg hsize (Steps.refl _) hlen hstack hW hd (fun _ _ => ⟨has, eT, hc, hs⟩)
  dsimp only [Pt.U, Pt.locs, Pt.cells, Pt.slots] at X' l1 l2 l3 st hQ
  subst l1 l2 l3
  exact ⟨v, T', L, X', hQ, fun t k => st.trans k⟩
theorem own_callP (X : Stand p l e R s m args below meth c T locs cells slots) (hx : p.tables.exec = Jvm.exec) (hZ : Z.Warmed39 s.vm)
    {own : String} {index n : Nat} {y : MethodName} {bytes : ByteArray} {maxL : Nat} {ret : Option FieldType} {rm : Room} {as' : Array Value} {Q : Option Value → Heap → List Loc → Prop} {b : Addr} {C : String}
    (hown : s.vm.findClass own = some m.cls) (w1 : (Jvm.Cond.methodLink own index y).before a0 Z = true) (w5 : (Jvm.Cond.instanceMethod y).before a0 Z = true) (w2 : (Jvm.Cond.privateMethod y).before a0 Z = true) (wi : (Jvm.Cond.instantiable y.cls n).before a0 Z = true) (w3 : (Jvm.Cond.initialized y.cls).before a0 Z = true) (w6 : (Jvm.Cond.code y bytes maxL ret).before a0 Z = true)
    (hy : y.cls ≠ "java/lang/invoke/MethodHandle" ∧ y.cls ≠ "java/lang/invoke/VarHandle") (eT : T.heap = h) (E : Exa Z h b C) (hM : Con l Z h y bytes maxL ret [] rm as' Q)
    (W : Nat) (hf : rm.frames + 1 ≤ R.frames) (hl : W + (maxL + 11) + rm.locals ≤ R.locals) (hc : cells + rm.cells ≤ R.cells) (hs : slots + rm.slots ≤ R.slots)
    {g : JFrame} (hg : g.method = m) (hsize : g.locals.size = c.maxLocals) (argsL rest : List Value) (has : (.ref b :: argsL).toArray = as') (hlen : ∀ sig, parseMethodDescriptor y.desc = some sig → argsL.length = sig.parameters.length) (hstack : g.stack = argsL.reverse ++ .ref b :: rest) (hW : 2 * g.monitorRoom + (rest.map fun v => v.category).sum ≤ W)
    (hd : decode c.code g.pc = .ok (.invokevirtual index, 3)) :
    ∃ (v : Option Value) (T' : State) (L : List Loc), Stand p l e R s m args below meth c T' (locs ++ L) (cells + rm.cells) (slots + rm.slots) ∧ Q v T'.heap L ∧ ∀ t, Steps p.tables e below (T'.setTop { g with pc := g.pc + 3, stack := v.toList ++ rest }) t → Steps p.tables e below (T.setTop g) t := by
  obtain ⟨cq, q1, q2⟩ := E.cell
  have hpriv := Cond.privateMethod_at (mvP hZ w2 (args := args))
  have wi' : (Jvm.Cond.instantiable y.cls n).before args s = true := mvT hZ wi
  obtain ⟨ci, ki, i1, i2, -, i4, -⟩ := Cond.instantiable_spec wi'
  have hni : ki.isInterface = false := by cases hh : ki.isInterface <;> simp [hh] at i4 ⊢
  obtain ⟨v, _, ⟨T', L', k', n'⟩, -, X', ⟨L, hQ, l1, l2, l3⟩, st⟩ := X.privateBack hx hown (mvT hZ w1) (mvT hZ w5) (selects_self_of_private i1 i2 hni hpriv (mvT hZ w5) hy) hpriv (mvT hZ w6) hy (backOf (W := W) hM hZ w6 w3 hf hl) hg hsize (Steps.refl _) (by rw [eT]; exact q1) q2 hlen hstack hW hd (fun _ _ => ⟨has, eT, hc, hs⟩)
  dsimp only [Pt.U, Pt.locs, Pt.cells, Pt.slots] at X' l1 l2 l3 st hQ
  subst l1 l2 l3
  exact ⟨v, T', L, X', hQ, fun t k => st.trans k⟩
theorem own_nosub {C K O : String} {n : Nat} (w : (Jvm.Cond.superclass C O).before a0 Z = true) (wo : (Jvm.Cond.noSuperclass O).before a0 Z = true) (wk : (Jvm.Cond.instantiable K n).before a0 Z = true) (h1 : C ≠ K) (h2 : O ≠ K) :
    ∃ c t, Z.vm.findClass C = some c ∧ Z.vm.findClass K = some t ∧ Z.vm.assignable c t = false := by
  obtain ⟨c, f0⟩ := found_sup w
  obtain ⟨t, kt, g1, g2, g3, g4, -⟩ := Cond.instantiable_spec wk
  have g5 : kt.isInterface = false := by cases hh : kt.isInterface <;> simp [hh] at g4 ⊢
  obtain ⟨q, k, kp, f1, f2, f3, f4, f5, -, f7⟩ := Cond.superclass_spec f0 w
  obtain ⟨co, ko, o1, o2, o3, -, -⟩ := Cond.noSuperclass_spec wo
  cases o1.symm.trans f1
  have ne1 := ids_ne f0 g1 h1
  have ne2 := ids_ne o1 g1 h2
  have sub : ∀ fuel, Z.vm.isSubclassAux fuel c t = false := by
    intro fuel
    cases fuel with
    | zero => rfl
    | succ f =>
      have r : Z.vm.isSubclassAux f q t = false := by
        cases f with
        | zero => rfl
        | succ f' => simp [Vm.isSubclassAux, ne2, o2, o3]
      simp [Vm.isSubclassAux, ne1, f2, f4, r]
  refine ⟨c, t, f0, g1, ?_⟩
  show Z.vm.assignableAux (255 + 1) c t = false
  simp [Vm.assignableAux, ne1, f2, g2, f5, g3, g5, Vm.isSubclass, sub]
theorem own_arv0 {t : Term} {w : Addr} {cl : Cell} (hf : Fit s) (ev : t.eval args s none [] s = some (.ref w)) (A : Arr s s.heap w cl ty) (hq : (Jvm.Cond.eq (.length t) (.int 0)).value args s none s [] = some true) : Arv s s.heap w cl.cls ty 0 [] dv := by
  have ha : s.arrayAt? w = some cl := Arr.fin (Vm.Alike.refl _) A
  obtain ⟨u, v, e1, e2, k1, k2⟩ := cmp_v (Or.inl hq)
  obtain rfl : v = .int 0 := Option.some.inj (e2.symm.trans (Term.int_eval 0))
  obtain ⟨z, rfl⟩ := k2
  obtain rfl : z = 0 := gotT (Jvm.Cond.eq_ints e1 (Term.int_eval 0)) hq
  by_cases hl : cl.slots.size < 2 ^ 31
  · have q := (len_f ev ha hl).symm.trans e1
    exact Arv.start hf A hl (Value.int.inj (Option.some.inj q)) (by decide) rfl trivial
  · exfalso
    simp [Term.eval, ev, ha, hl] at e1
end OwnHeap
theorem own_rem {x : Int32} {n : Int32} (hn : 0 < n.toInt) : 0 ≤ ((x &&& 2147483647) % n).toInt ∧ ((x &&& 2147483647) % n).toInt < n.toInt := by
  have e1 : (x &&& 2147483647).toInt = x.toInt % 2 ^ 31 := Jvm.Kit.i32_mask x 2147483647 (k := 31) (by decide) (by decide)
  have e2 := Jvm.Kit.i32_rem_nonneg (x := (x &&& 2147483647)) (y := n) (by omega)
  rw [e2]
  exact ⟨Int.emod_nonneg _ (by omega), Int.emod_lt_of_pos _ hn⟩
theorem own_i32 {x : Int32} {k : Int} (h : x.toInt = k) : x = Int32.ofInt k := by
  rw [← h, Int32.ofInt_toInt]
theorem own_lremE (x y : Int64) : x - (x / y) * y = x % y := Int64.toInt_inj.mp ((Jvm.Kit.i64_rem x y).trans (Int64.toInt_mod x y).symm)
def CF (Z : State) (w : Addr) : Prop := ∃ cl, Arr Z Z.heap w cl (.object "java/lang/Integer") ∧ cl.slots.size = 256 ∧ ∀ j : Nat, j < 256 → ∃ y, cl.slots[j]? = some (.ref y) ∧ Exa Z Z.heap y "java/lang/Integer" ∧ Fld Z Z.heap y "java/lang/Integer" "value" "I" (.int (Int32.ofNat j - 128))
theorem own_ext (p : Int32) : (p.toInt64) = ((p.toInt64).toInt32).toInt64 := by simp
theorem own_32 (p : Int32) : (p.toInt64).toInt32 = p := by simp
theorem own_cix (p : Int32) (h1 : ¬ p < -128) (h2 : ¬ 127 < p) : ¬ (p + 128 < 0) ∧ (p + 128).toNatClampNeg < 256 ∧ Int32.ofNat (p + 128).toNatClampNeg - 128 = p := by
  have e0 : (0 : Int32).toInt = 0 := by decide
  have e1 : (128 : Int32).toInt = 128 := by decide
  have e2 : (127 : Int32).toInt = 127 := by decide
  have e3 : (-128 : Int32).toInt = -128 := by decide
  rw [Int32.lt_iff_toInt_lt, e3] at h1
  rw [Int32.lt_iff_toInt_lt, e2] at h2
  have ea : (p + 128).toInt = p.toInt + 128 := by rw [Jvm.Kit.i32_add (by omega) (by omega), e1]
  have hneg : ¬ (p + 128 < 0) := by rw [Int32.lt_iff_toInt_lt, e0, ea]; omega
  have en : ((p + 128).toNatClampNeg : Int) = (p + 128).toInt := (nat_of hneg).symm
  refine ⟨hneg, by omega, ?_⟩
  have eo : (Int32.ofNat (p + 128).toNatClampNeg).toInt = ((p + 128).toNatClampNeg : Int) := Int32.toInt_ofNat_of_lt (by omega)
  apply Int32.toInt_inj.mp
  rw [Jvm.Kit.i32_sub (by omega) (by omega), eo, e1, en, ea]; omega
theorem own_foldall (f : Nat → Option Bool) : ∀ (l : List Nat) (acc : Option Bool), l.foldl (fun acc i => match acc with | some true => f i | x => x) acc = some true → acc = some true ∧ ∀ i ∈ l, f i = some true
  | [], acc, h => ⟨h, fun i hi => nomatch hi⟩
  | j :: l, acc, h => by
    obtain ⟨h1, h2⟩ := own_foldall f l _ h
    have ha : acc = some true := by
      match acc, h1 with
      | some true, _ => rfl
    subst ha
    refine ⟨rfl, fun i hi => ?_⟩
    rcases List.mem_cons.mp hi with rfl | hi
    · exact h1
    · exact h2 i hi
theorem own_all {args : Array Value} {s : State} {t : Term} {d : Jvm.Cond} {a : Addr} {cell : Cell} (ev : t.eval args s none [] s = some (.ref a)) (ha : s.arrayAt? a = some cell) (h : (Jvm.Cond.all t d).value args s none s [] = some true) : ∀ i, i < cell.slots.size → d.value args s none s [i] = some true := by
  intro i hi
  have h' : (List.range cell.slots.size).foldl (fun acc i => match acc with | some true => d.value args s none s [i] | x => x) (some true) = some true := by
    have q := h
    simp only [Cond.value, ev, ha] at q
    exact q
  exact (own_foldall _ _ _ h').2 i (List.mem_range.mpr hi)
/-- what stands at the start: the statics, their classes and fields -/
def SF (Z : State) (w_cache : Addr) : Prop := Sta Z Z.heap "java/lang/Integer$IntegerCache" "high" "I" (.int 127) ∧ Sta Z Z.heap "java/lang/Integer$IntegerCache" "cache" "[Ljava/lang/Integer;" (.ref w_cache) ∧ CF Z w_cache
theorem d2_0 : decode prog_36_method_1_code 0 = .ok (.aload_n 0, 1) := by decide +kernel
theorem d2_1 : decode prog_36_method_1_code 1 = .ok (.invokespecial 1, 3) := by decide +kernel
theorem d2_4 : decode prog_36_method_1_code 4 = .ok (.aload_n 0, 1) := by decide +kernel
theorem d2_5 : decode prog_36_method_1_code 5 = .ok (.lload_n 1, 1) := by decide +kernel
theorem d2_6 : decode prog_36_method_1_code 6 = .ok (.putfield 7, 3) := by decide +kernel
theorem d2_9 : decode prog_36_method_1_code 9 = .ok (.aload_n 0, 1) := by decide +kernel
theorem d2_10 : decode prog_36_method_1_code 10 = .ok (.aload_n 3, 1) := by decide +kernel
theorem d2_11 : decode prog_36_method_1_code 11 = .ok (.putfield 13, 3) := by decide +kernel
theorem d2_14 : decode prog_36_method_1_code 14 = .ok (.aload_n 0, 1) := by decide +kernel
theorem d2_15 : decode prog_36_method_1_code 15 = .ok (.aload 4, 2) := by decide +kernel
theorem d2_17 : decode prog_36_method_1_code 17 = .ok (.putfield 17, 3) := by decide +kernel
theorem d2_20 : decode prog_36_method_1_code 20 = .ok (.return_, 1) := by decide +kernel
theorem sn_577025_left_value {Z : State} {a0 : Array Value} (hw : ∀ d ∈ tables_1, d.before a0 Z = true) : Jvm.RoadKit.slotOf Z "com/example/pathwise/pathwise/ExactInteger" "left" "Ljava/lang/Object;" ≠ Jvm.RoadKit.slotOf Z "com/example/pathwise/pathwise/ExactInteger" "value" "J" := slot_ne (Or.inr (ww hw 15 rfl)) (Or.inr (ww hw 13 rfl)) (by decide) (t := (.object "java/lang/Object")) (t' := .long) (by decide) (by decide)
theorem sn_577025_right_value {Z : State} {a0 : Array Value} (hw : ∀ d ∈ tables_1, d.before a0 Z = true) : Jvm.RoadKit.slotOf Z "com/example/pathwise/pathwise/ExactInteger" "right" "Ljava/lang/Object;" ≠ Jvm.RoadKit.slotOf Z "com/example/pathwise/pathwise/ExactInteger" "value" "J" := slot_ne (Or.inr (ww hw 17 rfl)) (Or.inr (ww hw 13 rfl)) (by decide) (t := (.object "java/lang/Object")) (t' := .long) (by decide) (by decide)
theorem sn_577025_right_left {Z : State} {a0 : Array Value} (hw : ∀ d ∈ tables_1, d.before a0 Z = true) : Jvm.RoadKit.slotOf Z "com/example/pathwise/pathwise/ExactInteger" "right" "Ljava/lang/Object;" ≠ Jvm.RoadKit.slotOf Z "com/example/pathwise/pathwise/ExactInteger" "left" "Ljava/lang/Object;" := slot_ne (Or.inr (ww hw 17 rfl)) (Or.inr (ww hw 15 rfl)) (by decide) (t := (.object "java/lang/Object")) (t' := (.object "java/lang/Object")) (by decide) (by decide)
theorem sn_577025_value_left {Z : State} {a0 : Array Value} (hw : ∀ d ∈ tables_1, d.before a0 Z = true) : Jvm.RoadKit.slotOf Z "com/example/pathwise/pathwise/ExactInteger" "value" "J" ≠ Jvm.RoadKit.slotOf Z "com/example/pathwise/pathwise/ExactInteger" "left" "Ljava/lang/Object;" := slot_ne (Or.inr (ww hw 13 rfl)) (Or.inr (ww hw 15 rfl)) (by decide) (t := .long) (t' := (.object "java/lang/Object")) (by decide) (by decide)
theorem sn_577025_value_right {Z : State} {a0 : Array Value} (hw : ∀ d ∈ tables_1, d.before a0 Z = true) : Jvm.RoadKit.slotOf Z "com/example/pathwise/pathwise/ExactInteger" "value" "J" ≠ Jvm.RoadKit.slotOf Z "com/example/pathwise/pathwise/ExactInteger" "right" "Ljava/lang/Object;" := slot_ne (Or.inr (ww hw 13 rfl)) (Or.inr (ww hw 17 rfl)) (by decide) (t := .long) (t' := (.object "java/lang/Object")) (by decide) (by decide)
theorem sn_577025_left_right {Z : State} {a0 : Array Value} (hw : ∀ d ∈ tables_1, d.before a0 Z = true) : Jvm.RoadKit.slotOf Z "com/example/pathwise/pathwise/ExactInteger" "left" "Ljava/lang/Object;" ≠ Jvm.RoadKit.slotOf Z "com/example/pathwise/pathwise/ExactInteger" "right" "Ljava/lang/Object;" := slot_ne (Or.inr (ww hw 15 rfl)) (Or.inr (ww hw 17 rfl)) (by decide) (t := (.object "java/lang/Object")) (t' := (.object "java/lang/Object")) (by decide) (by decide)
theorem pn_100142 : plainName "com/example/pathwise/pathwise/ExactInteger" = true := by first | (simp [plainName, overriddenIn]; done) | decide +kernel
theorem ef_rmEI (m : MethodId) (x0 : Addr) (x1 : Int64) : entryFrame m #[(.ref x0), (.long x1), .null, .null] 5 = mkF m 0 #[.val (.ref x0), .val (.long x1), .second, .val .null, .val .null] [] := by first | (simp [entryFrame, mkF, argsToLocals, Value.category]; done) | rfl
set_option maxRecDepth 65536 in
set_option maxHeartbeats 400000000 in
theorem rmEI (l : Launch) (Z : State) (a0 : Array Value) (hw : ∀ d ∈ tables_1, d.before a0 Z = true) (ws : List Jvm.Cond) (w_cache : Addr) (hS : SF Z w_cache) (a1 : Addr) (q2 : Int64) (h0 : Heap) (O0 : Ext Z.heap h0) (ga : Z.heap.size ≤ a1) (EA : Exa Z h0 a1 "com/example/pathwise/pathwise/ExactInteger") (F_value : Fld Z h0 a1 "com/example/pathwise/pathwise/ExactInteger" "value" "J" (.long (0 : Int64))) (F_left : Fld Z h0 a1 "com/example/pathwise/pathwise/ExactInteger" "left" "Ljava/lang/Object;" .null) (F_right : Fld Z h0 a1 "com/example/pathwise/pathwise/ExactInteger" "right" "Ljava/lang/Object;" .null) :
    Con l Z h0 (⟨"com/example/pathwise/pathwise/ExactInteger", "<init>", "(JLjava/lang/Object;Ljava/lang/Object;)V"⟩ : MethodName) prog_36_method_1_code 5 none ws ({ frames := 1, cells := 0, slots := 0, locals := 12 } : Room) #[(.ref a1), (.long q2), .null, .null] (fun v h L => v = none ∧ Fr Z.heap.size L ∧ Keep h0 h [a1] ∧ Fld Z h a1 "com/example/pathwise/pathwise/ExactInteger" "value" "J" (.long q2) ∧ Fld Z h a1 "com/example/pathwise/pathwise/ExactInteger" "left" "Ljava/lang/Object;" .null ∧ Fld Z h a1 "com/example/pathwise/pathwise/ExactInteger" "right" "Ljava/lang/Object;" .null) := by
  obtain ⟨S_high, S_cache, C_cache⟩ := id hS
  refine own_con (plainFor_of_name pn_100142) ?_
  intro p e s m below meth c T0 X0 hx hby hml hown hnm hret hlk hZ e0
  have hown : s.vm.findClass "com/example/pathwise/pathwise/ExactInteger" = some m.cls := hown
  have N0 := Fr.nil Z.heap.size
  have KP0 : Keep h0 h0 [a1] := Keep.refl h0 _
  refine Go.st (S' := T0.setTop (mkF m 0 #[.val (.ref a1), .val (.long q2), .second, .val .null, .val .null] [])) (fun _ k => castTop (ef_rmEI m a1 q2) k) ?_
  refine Go.st (S' := T0.setTop (mkF m 1 #[.val (.ref a1), .val (.long q2), .second, .val .null, .val .null] [(.ref a1)])) (fun _ k => XS.aloadN X0.here hx rfl (hb hby d2_0) rfl rfl k) ?_
  obtain ⟨T1, X1, e1, st1⟩ := initO X0 hx hZ hown (ww hw 9 rfl) (ww hw 10 rfl) (ww hw 11 rfl) e0 (g := (mkF m 1 #[.val (.ref a1), .val (.long q2), .second, .val .null, .val .null] [(.ref a1)])) rfl (by rw [hml]; rfl) rfl (hb hby d2_1) (by decide) (W := 0) (by show 2 * 0 + _ ≤ _; exact Nat.le_of_eq rfl) (by decide)
  refine Go.st (S' := T1.setTop (mkF m 4 #[.val (.ref a1), .val (.long q2), .second, .val .null, .val .null] [])) st1 ?_
  refine Go.st (S' := T1.setTop (mkF m 5 #[.val (.ref a1), .val (.long q2), .second, .val .null, .val .null] [(.ref a1)])) (fun _ k => XS.aloadN X1.here hx rfl (hb hby d2_4) rfl rfl k) ?_
  refine Go.st (S' := T1.setTop (mkF m 6 #[.val (.ref a1), .val (.long q2), .second, .val .null, .val .null] [(.long q2), (.ref a1)])) (fun _ k => XS.lloadN X1.here hx rfl (hb hby d2_5) rfl k) ?_
  obtain ⟨T2, h2, X2, e2, W2, st2⟩ := putF X1 hx hZ hown (host := "") (Or.inl (ww hw 12 rfl)) Via.refl e1 F_value EA (Or.inr ⟨(ww hw 13 rfl), rfl, hnm⟩) (ww hw 5 rfl) (ty := .long) (by decide) rfl rfl (g := (mkF m 6 #[.val (.ref a1), .val (.long q2), .second, .val .null, .val .null] [(.long q2), (.ref a1)])) rfl rfl (hb hby d2_6)
  have N2 := Fr.snoc X2 N0 ga
  have Fw2 := F_value.same W2
  have O2 : Ext Z.heap h2 := own_Ext.wr O0 W2 ga
  have KP2 : Keep h0 h2 [a1] := KP0.wr W2 (Or.inl (List.mem_of_getElem? (i := 0) rfl))
  refine Go.st (S' := T2.setTop (mkF m 9 #[.val (.ref a1), .val (.long q2), .second, .val .null, .val .null] [])) st2 ?_
  refine Go.st (S' := T2.setTop (mkF m 10 #[.val (.ref a1), .val (.long q2), .second, .val .null, .val .null] [(.ref a1)])) (fun _ k => XS.aloadN X2.here hx rfl (hb hby d2_9) rfl rfl k) ?_
  refine Go.st (S' := T2.setTop (mkF m 11 #[.val (.ref a1), .val (.long q2), .second, .val .null, .val .null] [.null, (.ref a1)])) (fun _ k => XS.aloadN X2.here hx rfl (hb hby d2_10) rfl rfl k) ?_
  obtain ⟨T3, h3, X3, e3, W3, st3⟩ := putF X2 hx hZ hown (host := "") (Or.inl (ww hw 14 rfl)) Via.refl e2 (F_left.other W2 (Or.inr (sn_577025_left_value hw))) (EA.wr W2) (Or.inr ⟨(ww hw 15 rfl), rfl, hnm⟩) (ww hw 5 rfl) (ty := (.object "java/lang/Object")) (by decide) rfl rfl (g := (mkF m 11 #[.val (.ref a1), .val (.long q2), .second, .val .null, .val .null] [.null, (.ref a1)])) rfl rfl (hb hby d2_11)
  have N3 := Fr.snoc X3 N2 ga
  have Fw3 := (F_left.other W2 (Or.inr (sn_577025_left_value hw))).same W3
  have O3 : Ext Z.heap h3 := own_Ext.wr O2 W3 ga
  have KP3 : Keep h0 h3 [a1] := KP2.wr W3 (Or.inl (List.mem_of_getElem? (i := 0) rfl))
  refine Go.st (S' := T3.setTop (mkF m 14 #[.val (.ref a1), .val (.long q2), .second, .val .null, .val .null] [])) st3 ?_
  refine Go.st (S' := T3.setTop (mkF m 15 #[.val (.ref a1), .val (.long q2), .second, .val .null, .val .null] [(.ref a1)])) (fun _ k => XS.aloadN X3.here hx rfl (hb hby d2_14) rfl rfl k) ?_
  refine Go.st (S' := T3.setTop (mkF m 17 #[.val (.ref a1), .val (.long q2), .second, .val .null, .val .null] [.null, (.ref a1)])) (fun _ k => XS.aload X3.here hx rfl (hb hby d2_15) rfl rfl k) ?_
  obtain ⟨T4, h4, X4, e4, W4, st4⟩ := putF X3 hx hZ hown (host := "") (Or.inl (ww hw 16 rfl)) Via.refl e3 ((F_right.other W2 (Or.inr (sn_577025_right_value hw))).other W3 (Or.inr (sn_577025_right_left hw))) ((EA.wr W2).wr W3) (Or.inr ⟨(ww hw 17 rfl), rfl, hnm⟩) (ww hw 5 rfl) (ty := (.object "java/lang/Object")) (by decide) rfl rfl (g := (mkF m 17 #[.val (.ref a1), .val (.long q2), .second, .val .null, .val .null] [.null, (.ref a1)])) rfl rfl (hb hby d2_17)
  have N4 := Fr.snoc X4 N3 ga
  have Fw4 := ((F_right.other W2 (Or.inr (sn_577025_right_value hw))).other W3 (Or.inr (sn_577025_right_left hw))).same W4
  have O4 : Ext Z.heap h4 := own_Ext.wr O3 W4 ga
  have KP4 : Keep h0 h4 [a1] := KP3.wr W4 (Or.inl (List.mem_of_getElem? (i := 0) rfl))
  refine Go.st (S' := T4.setTop (mkF m 20 #[.val (.ref a1), .val (.long q2), .second, .val .null, .val .null] [])) st4 ?_
  exact own_retV X4 hx hlk hret (hb hby d2_20) e4 ⟨rfl, N4, KP4, ((Fw2.other W3 (Or.inr (sn_577025_value_left hw))).other W4 (Or.inr (sn_577025_value_right hw))), (Fw3.other W4 (Or.inr (sn_577025_left_right hw))), Fw4⟩ (by decide) (by decide)
theorem d1_0 : decode prog_36_method_2_code 0 = .ok (.new 8, 3) := by decide +kernel
theorem d1_3 : decode prog_36_method_2_code 3 = .ok (.dup, 1) := by decide +kernel
theorem d1_4 : decode prog_36_method_2_code 4 = .ok (.iload_n 0, 1) := by decide +kernel
theorem d1_5 : decode prog_36_method_2_code 5 = .ok (.i2l, 1) := by decide +kernel
theorem d1_6 : decode prog_36_method_2_code 6 = .ok (.aconst_null, 1) := by decide +kernel
theorem d1_7 : decode prog_36_method_2_code 7 = .ok (.aconst_null, 1) := by decide +kernel
theorem d1_8 : decode prog_36_method_2_code 8 = .ok (.invokespecial 20, 3) := by decide +kernel
theorem d1_11 : decode prog_36_method_2_code 11 = .ok (.areturn, 1) := by decide +kernel
theorem pd_175913 : parseMethodDescriptor "(JLjava/lang/Object;Ljava/lang/Object;)V" = some ⟨[.long, (.object "java/lang/Object"), (.object "java/lang/Object")], none⟩ := by decide +kernel
theorem ef_rmOf (m : MethodId) (x0 : Int32) : entryFrame m #[(.int x0)] 1 = mkF m 0 #[.val (.int x0)] [] := by first | (simp [entryFrame, mkF, argsToLocals, Value.category]; done) | rfl
set_option maxRecDepth 65536 in
set_option maxHeartbeats 400000000 in
theorem rmOf (l : Launch) (Z : State) (a0 : Array Value) (hw : ∀ d ∈ tables_1, d.before a0 Z = true) (ws : List Jvm.Cond) (w_cache : Addr) (hS : SF Z w_cache) (p1 : Int32) (h0 : Heap) (O0 : Ext Z.heap h0)  :
    Con l Z h0 (⟨"com/example/pathwise/pathwise/ExactInteger", "of", "(I)Ljava/lang/Object;"⟩ : MethodName) prog_36_method_2_code 1 (some (.object "java/lang/Object")) ws ({ frames := 2, cells := 1, slots := 3, locals := 29 } : Room) #[(.int p1)] (fun v h L => (∃ b, v = some (.ref b) ∧ h0.size ≤ b ∧ Exa Z h b "com/example/pathwise/pathwise/ExactInteger" ∧ Fld Z h b "com/example/pathwise/pathwise/ExactInteger" "value" "J" (.long (p1.toInt64)) ∧ Fld Z h b "com/example/pathwise/pathwise/ExactInteger" "left" "Ljava/lang/Object;" .null ∧ Fld Z h b "com/example/pathwise/pathwise/ExactInteger" "right" "Ljava/lang/Object;" .null) ∧ Fr Z.heap.size L ∧ Keep h0 h []) := by
  obtain ⟨S_high, S_cache, C_cache⟩ := id hS
  refine own_con (plainFor_of_name pn_100142) ?_
  intro p e s m below meth c T0 X0 hx hby hml hown hnm hret hlk hZ e0
  have hown : s.vm.findClass "com/example/pathwise/pathwise/ExactInteger" = some m.cls := hown
  have N0 := Fr.nil Z.heap.size
  have KP0 : Keep h0 h0 [] := Keep.refl h0 _
  refine Go.st (S' := T0.setTop (mkF m 0 #[.val (.int p1)] [])) (fun _ k => castTop (ef_rmOf m p1) k) ?_
  obtain ⟨T5, h5, X5, e5, E5, A5, D5, -, st5⟩ := newO X0 hx hZ hown (ww hw 4 rfl) (ww hw 5 rfl) (ww hw 2 rfl) e0 (g := (mkF m 0 #[.val (.int p1)] [])) rfl (hb hby d1_0) (by decide) (by decide)
  obtain ⟨b5, g5⟩ : ∃ z, z = h0.size := ⟨_, rfl⟩
  rw [← g5] at A5 D5 st5
  have gz5 : Z.heap.size ≤ b5 := Nat.le_trans O0.1 (Nat.le_of_eq g5.symm)
  have sz5 : h0.size ≤ b5 := Nat.le_trans KP0.1 (Nat.le_of_eq g5.symm)
  have O5 : Ext Z.heap h5 := own_Ext.trans O0 E5
  have KP5 : Keep h0 h5 [] := KP0.ext E5
  have F5_value : Fld Z h5 b5 "com/example/pathwise/pathwise/ExactInteger" "value" "J" (.long (0 : Int64)) := D5 (Or.inr (ww hw 13 rfl)) (ty := .long) (by decide)
  have F5_left : Fld Z h5 b5 "com/example/pathwise/pathwise/ExactInteger" "left" "Ljava/lang/Object;" .null := D5 (Or.inr (ww hw 15 rfl)) (ty := (.object "java/lang/Object")) (by decide)
  have F5_right : Fld Z h5 b5 "com/example/pathwise/pathwise/ExactInteger" "right" "Ljava/lang/Object;" .null := D5 (Or.inr (ww hw 17 rfl)) (ty := (.object "java/lang/Object")) (by decide)
  refine Go.st (S' := T5.setTop (mkF m 3 #[.val (.int p1)] [(.ref b5)])) st5 ?_
  refine Go.st (S' := T5.setTop (mkF m 4 #[.val (.int p1)] [(.ref b5), (.ref b5)])) (fun _ k => XS.dup X5.here hx rfl (hb hby d1_3) rfl rfl k) ?_
  refine Go.st (S' := T5.setTop (mkF m 5 #[.val (.int p1)] [(.int p1), (.ref b5), (.ref b5)])) (fun _ k => XS.iloadN X5.here hx rfl (hb hby d1_4) rfl k) ?_
  refine Go.st (S' := T5.setTop (mkF m 6 #[.val (.int p1)] [(.long (p1.toInt64)), (.ref b5), (.ref b5)])) (fun _ k => XS.i2l X5.here hx rfl (hb hby d1_5) rfl k) ?_
  refine Go.st (S' := T5.setTop (mkF m 7 #[.val (.int p1)] [.null, (.long (p1.toInt64)), (.ref b5), (.ref b5)])) (fun _ k => XS.aconstNull X5.here hx rfl (hb hby d1_6) k) ?_
  refine Go.st (S' := T5.setTop (mkF m 8 #[.val (.int p1)] [.null, .null, (.long (p1.toInt64)), (.ref b5), (.ref b5)])) (fun _ k => XS.aconstNull X5.here hx rfl (hb hby d1_7) k) ?_
  obtain ⟨_, T6, L6, X6, ⟨rfl, Nq6, kp6, fv6, fl6, fr6⟩, st6⟩ := own_callI X5 hx hZ rfl hown (ww hw 6 rfl) (ww hw 7 rfl) (ww hw 2 rfl) (ww hw 8 rfl) (by decide) e5 (rmEI l Z a0 hw [] w_cache hS b5 (p1.toInt64) h5 O5 gz5 A5 F5_value F5_left F5_right) 1 (by decide) (by decide) (by decide) (by decide) (g := (mkF m 8 #[.val (.int p1)] [.null, .null, (.long (p1.toInt64)), (.ref b5), (.ref b5)])) rfl (by rw [hml]; rfl) [(.long (p1.toInt64)), .null, .null] [(.ref b5)] rfl (lenOf pd_175913 rfl) rfl (by show 2 * 0 + _ ≤ _; exact Nat.le_of_eq rfl) (hb hby d1_8)
  have N6 := Fr.app N0 Nq6
  have O6 : Ext Z.heap T6.heap := own_Ext.keep O5 kp6 (allS gz5 all0)
  have KP6 : Keep h0 T6.heap [] := KP5.trans kp6 (allS (Or.inr sz5) all0)
  refine Go.st (S' := T6.setTop (mkF m 11 #[.val (.int p1)] [(.ref b5)])) st6 ?_
  exact own_retA X6 hx hlk hret rfl rfl rfl (hb hby d1_11) rfl ⟨⟨_, rfl, sz5, (A5.keep kp6), fv6, fl6, fr6⟩, N6, KP6⟩ (by decide) (by decide)
theorem d7_0 : decode prog_36_method_16_code 0 = .ok (.aload_n 0, 1) := by decide +kernel
theorem d7_1 : decode prog_36_method_16_code 1 = .ok (.instanceof 8, 3) := by decide +kernel
theorem d7_4 : decode prog_36_method_16_code 4 = .ok (.ifCond .eq 19, 3) := by decide +kernel
theorem d7_23 : decode prog_36_method_16_code 23 = .ok (.iconst 0, 1) := by decide +kernel
theorem d7_24 : decode prog_36_method_16_code 24 = .ok (.ireturn, 1) := by decide +kernel
theorem ef_rmLo (m : MethodId)  : entryFrame m #[.null] 2 = mkF m 0 #[.val .null, .unset] [] := by first | (simp [entryFrame, mkF, argsToLocals, Value.category]; done) | rfl
set_option maxRecDepth 65536 in
set_option maxHeartbeats 400000000 in
theorem rmLo (l : Launch) (Z : State) (a0 : Array Value) (hw : ∀ d ∈ tables_1, d.before a0 Z = true) (ws : List Jvm.Cond) (w_cache : Addr) (hS : SF Z w_cache)   (h0 : Heap) (O0 : Ext Z.heap h0)  :
    Con l Z h0 (⟨"com/example/pathwise/pathwise/ExactInteger", "isLong", "(Ljava/lang/Object;)Z"⟩ : MethodName) prog_36_method_16_code 2 (some .boolean) ws ({ frames := 0, cells := 0, slots := 0, locals := 0 } : Room) #[.null] (fun v h L => v = some (.int 0) ∧ Fr Z.heap.size L ∧ h = h0) := by
  obtain ⟨S_high, S_cache, C_cache⟩ := id hS
  refine own_con (plainFor_of_name pn_100142) ?_
  intro p e s m below meth c T0 X0 hx hby hml hown hnm hret hlk hZ e0
  have hown : s.vm.findClass "com/example/pathwise/pathwise/ExactInteger" = some m.cls := hown
  have N0 := Fr.nil Z.heap.size
  refine Go.st (S' := T0.setTop (mkF m 0 #[.val .null, .unset] [])) (fun _ k => castTop (ef_rmLo m ) k) ?_
  refine Go.st (S' := T0.setTop (mkF m 1 #[.val .null, .unset] [.null])) (fun _ k => XS.aloadN X0.here hx rfl (hb hby d7_0) rfl rfl k) ?_
  refine Go.st (S' := T0.setTop (mkF m 4 #[.val .null, .unset] [(.int (0 : Int32))])) (X0.instanceofNull hx (g := (mkF m 1 #[.val .null, .unset] [.null])) rfl rfl (hb hby d7_1)) ?_
  refine Go.st (S' := T0.setTop (mkF m 23 #[.val .null, .unset] [])) (fun _ k => XS.ifYes X0.here hx rfl (pc0 := 4) (pc' := 23) rfl (hb hby d7_4) rfl ((if0 _ _).trans (teq (by decide)).1) (by decide) (by decide) k) ?_
  refine Go.st (S' := T0.setTop (mkF m 24 #[.val .null, .unset] [(.int (0 : Int32))])) (fun _ k => XS.iconst X0.here hx rfl (hb hby d7_23) k) ?_
  exact own_retN X0 hx hlk hret (by simp) (hb hby d7_24) e0 ⟨rfl, N0, rfl⟩ (by decide) (by decide)
theorem d6_0 : decode prog_36_method_14_code 0 = .ok (.aload_n 0, 1) := by decide +kernel
theorem d6_1 : decode prog_36_method_14_code 1 = .ok (.getfield 7, 3) := by decide +kernel
theorem d6_4 : decode prog_36_method_14_code 4 = .ok (.aload_n 0, 1) := by decide +kernel
theorem d6_5 : decode prog_36_method_14_code 5 = .ok (.getfield 7, 3) := by decide +kernel
theorem d6_8 : decode prog_36_method_14_code 8 = .ok (.l2i, 1) := by decide +kernel
theorem d6_9 : decode prog_36_method_14_code 9 = .ok (.i2l, 1) := by decide +kernel
theorem d6_10 : decode prog_36_method_14_code 10 = .ok (.lcmp, 1) := by decide +kernel
theorem d6_11 : decode prog_36_method_14_code 11 = .ok (.ifCond .ne 23, 3) := by decide +kernel
theorem d6_14 : decode prog_36_method_14_code 14 = .ok (.aload_n 0, 1) := by decide +kernel
theorem d6_15 : decode prog_36_method_14_code 15 = .ok (.getfield 13, 3) := by decide +kernel
theorem d6_18 : decode prog_36_method_14_code 18 = .ok (.invokestatic 64, 3) := by decide +kernel
theorem d6_21 : decode prog_36_method_14_code 21 = .ok (.ifCond .ne 13, 3) := by decide +kernel
theorem d6_24 : decode prog_36_method_14_code 24 = .ok (.aload_n 0, 1) := by decide +kernel
theorem d6_25 : decode prog_36_method_14_code 25 = .ok (.getfield 17, 3) := by decide +kernel
theorem d6_28 : decode prog_36_method_14_code 28 = .ok (.invokestatic 64, 3) := by decide +kernel
theorem d6_31 : decode prog_36_method_14_code 31 = .ok (.ifCond .eq 7, 3) := by decide +kernel
theorem d6_38 : decode prog_36_method_14_code 38 = .ok (.iconst 0, 1) := by decide +kernel
theorem d6_39 : decode prog_36_method_14_code 39 = .ok (.ireturn, 1) := by decide +kernel
theorem pd_43457 : parseMethodDescriptor "(Ljava/lang/Object;)Z" = some ⟨[(.object "java/lang/Object")], some .boolean⟩ := by decide +kernel
theorem ef_rmIsL (m : MethodId) (x0 : Addr) : entryFrame m #[(.ref x0)] 1 = mkF m 0 #[.val (.ref x0)] [] := by first | (simp [entryFrame, mkF, argsToLocals, Value.category]; done) | rfl
set_option maxRecDepth 65536 in
set_option maxHeartbeats 400000000 in
theorem rmIsL (l : Launch) (Z : State) (a0 : Array Value) (hw : ∀ d ∈ tables_1, d.before a0 Z = true) (ws : List Jvm.Cond) (w_cache : Addr) (hS : SF Z w_cache) (a1 : Addr) (x : Int32) (h0 : Heap) (O0 : Ext Z.heap h0) (EA : Exa Z h0 a1 "com/example/pathwise/pathwise/ExactInteger") (F_value : Fld Z h0 a1 "com/example/pathwise/pathwise/ExactInteger" "value" "J" (.long (x.toInt64))) (F_left : Fld Z h0 a1 "com/example/pathwise/pathwise/ExactInteger" "left" "Ljava/lang/Object;" .null) (F_right : Fld Z h0 a1 "com/example/pathwise/pathwise/ExactInteger" "right" "Ljava/lang/Object;" .null) :
    Con l Z h0 (⟨"com/example/pathwise/pathwise/ExactInteger", "isLong", "()Z"⟩ : MethodName) prog_36_method_14_code 1 (some .boolean) ws ({ frames := 1, cells := 0, slots := 0, locals := 13 } : Room) #[(.ref a1)] (fun v h L => v = some (.int 0) ∧ Fr Z.heap.size L ∧ h = h0) := by
  obtain ⟨S_high, S_cache, C_cache⟩ := id hS
  refine own_con (plainFor_of_name pn_100142) ?_
  intro p e s m below meth c T0 X0 hx hby hml hown hnm hret hlk hZ e0
  have hown : s.vm.findClass "com/example/pathwise/pathwise/ExactInteger" = some m.cls := hown
  have N0 := Fr.nil Z.heap.size
  refine Go.st (S' := T0.setTop (mkF m 0 #[.val (.ref a1)] [])) (fun _ k => castTop (ef_rmIsL m a1) k) ?_
  refine Go.st (S' := T0.setTop (mkF m 1 #[.val (.ref a1)] [(.ref a1)])) (fun _ k => XS.aloadN X0.here hx rfl (hb hby d6_0) rfl rfl k) ?_
  obtain ⟨T8, X8, e8, st8⟩ := getF X0 hx hZ hown (host := "") (Or.inl (ww hw 12 rfl)) Via.refl e0 F_value (g := (mkF m 1 #[.val (.ref a1)] [(.ref a1)])) rfl rfl (hb hby d6_1)
  refine Go.st (S' := T8.setTop (mkF m 4 #[.val (.ref a1)] [(.long (x.toInt64))])) st8 ?_
  refine Go.st (S' := T8.setTop (mkF m 5 #[.val (.ref a1)] [(.ref a1), (.long (x.toInt64))])) (fun _ k => XS.aloadN X8.here hx rfl (hb hby d6_4) rfl rfl k) ?_
  obtain ⟨T9, X9, e9, st9⟩ := getF X8 hx hZ hown (host := "") (Or.inl (ww hw 12 rfl)) Via.refl e8 F_value (g := (mkF m 5 #[.val (.ref a1)] [(.ref a1), (.long (x.toInt64))])) rfl rfl (hb hby d6_5)
  refine Go.st (S' := T9.setTop (mkF m 8 #[.val (.ref a1)] [(.long (x.toInt64)), (.long (x.toInt64))])) st9 ?_
  refine Go.st (S' := T9.setTop (mkF m 9 #[.val (.ref a1)] [(.int ((x.toInt64).toInt32)), (.long (x.toInt64))])) (fun _ k => XS.l2i X9.here hx rfl (hb hby d6_8) rfl k) ?_
  refine Go.st (S' := T9.setTop (mkF m 10 #[.val (.ref a1)] [(.long (((x.toInt64).toInt32).toInt64)), (.long (x.toInt64))])) (fun _ k => XS.i2l X9.here hx rfl (hb hby d6_9) rfl k) ?_
  refine Go.st (S' := T9.setTop (mkF m 11 #[.val (.ref a1)] [(.int (lcmpW (x.toInt64) (((x.toInt64).toInt32).toInt64)))])) (fun _ k => XS.lcmp X9.here hx rfl (hb hby d6_10) rfl k) ?_
  refine Go.st (S' := T9.setTop (mkF m 14 #[.val (.ref a1)] [])) (fun _ k => XS.ifNo X9.here hx rfl (hb hby d6_11) rfl (own_Leq (own_ext x)).2 k) ?_
  refine Go.st (S' := T9.setTop (mkF m 15 #[.val (.ref a1)] [(.ref a1)])) (fun _ k => XS.aloadN X9.here hx rfl (hb hby d6_14) rfl rfl k) ?_
  obtain ⟨T10, X10, e10, st10⟩ := getF X9 hx hZ hown (host := "") (Or.inl (ww hw 14 rfl)) Via.refl e9 F_left (g := (mkF m 15 #[.val (.ref a1)] [(.ref a1)])) rfl rfl (hb hby d6_15)
  refine Go.st (S' := T10.setTop (mkF m 18 #[.val (.ref a1)] [.null])) st10 ?_
  obtain ⟨_, T11, L11, X11, ⟨rfl, Nq11, eq11⟩, st11⟩ := own_callS X10 hx hZ hown (ww hw 31 rfl) (ww hw 32 rfl) (ww hw 2 rfl) (ww hw 33 rfl) (by decide) e10 (rmLo l Z a0 hw [] w_cache hS h0 O0) 0 (by decide) (by decide) (by decide) (by decide) (g := (mkF m 18 #[.val (.ref a1)] [.null])) rfl (by rw [hml]; rfl) [.null] [] rfl (lenOf pd_43457 rfl) rfl (by show 2 * 0 + _ ≤ _; exact Nat.le_of_eq rfl) (hb hby d6_18)
  have N11 := Fr.app N0 Nq11
  refine Go.st (S' := T11.setTop (mkF m 21 #[.val (.ref a1)] [(.int (0 : Int32))])) st11 ?_
  refine Go.st (S' := T11.setTop (mkF m 24 #[.val (.ref a1)] [])) (fun _ k => XS.ifNo X11.here hx rfl (hb hby d6_21) rfl ((if0 _ _).trans (teq (by decide)).2) k) ?_
  refine Go.st (S' := T11.setTop (mkF m 25 #[.val (.ref a1)] [(.ref a1)])) (fun _ k => XS.aloadN X11.here hx rfl (hb hby d6_24) rfl rfl k) ?_
  obtain ⟨T12, X12, e12, st12⟩ := getF X11 hx hZ hown (host := "") (Or.inl (ww hw 16 rfl)) Via.refl eq11 F_right (g := (mkF m 25 #[.val (.ref a1)] [(.ref a1)])) rfl rfl (hb hby d6_25)
  refine Go.st (S' := T12.setTop (mkF m 28 #[.val (.ref a1)] [.null])) st12 ?_
  obtain ⟨_, T13, L13, X13, ⟨rfl, Nq13, eq13⟩, st13⟩ := own_callS X12 hx hZ hown (ww hw 31 rfl) (ww hw 32 rfl) (ww hw 2 rfl) (ww hw 33 rfl) (by decide) e12 (rmLo l Z a0 hw [] w_cache hS h0 O0) 0 (by decide) (by decide) (by decide) (by decide) (g := (mkF m 28 #[.val (.ref a1)] [.null])) rfl (by rw [hml]; rfl) [.null] [] rfl (lenOf pd_43457 rfl) rfl (by show 2 * 0 + _ ≤ _; exact Nat.le_of_eq rfl) (hb hby d6_28)
  have N13 := Fr.app N11 Nq13
  refine Go.st (S' := T13.setTop (mkF m 31 #[.val (.ref a1)] [(.int (0 : Int32))])) st13 ?_
  refine Go.st (S' := T13.setTop (mkF m 38 #[.val (.ref a1)] [])) (fun _ k => XS.ifYes X13.here hx rfl (pc0 := 31) (pc' := 38) rfl (hb hby d6_31) rfl ((if0 _ _).trans (teq (by decide)).1) (by decide) (by decide) k) ?_
  refine Go.st (S' := T13.setTop (mkF m 39 #[.val (.ref a1)] [(.int (0 : Int32))])) (fun _ k => XS.iconst X13.here hx rfl (hb hby d6_38) k) ?_
  exact own_retN X13 hx hlk hret (by simp) (hb hby d6_39) eq13 ⟨rfl, N13, rfl⟩ (by decide) (by decide)
theorem d16_0 : decode jdk_18_method_1_code 0 = .ok (.aload_n 0, 1) := by decide +kernel
theorem d16_1 : decode jdk_18_method_1_code 1 = .ok (.invokespecial 1, 3) := by decide +kernel
theorem d16_4 : decode jdk_18_method_1_code 4 = .ok (.return_, 1) := by decide +kernel
theorem pn_666428 : plainName "java/lang/Number" = true := by first | (simp [plainName, overriddenIn]; done) | decide +kernel
theorem ef_rmNum (m : MethodId) (x0 : Addr) : entryFrame m #[(.ref x0)] 1 = mkF m 0 #[.val (.ref x0)] [] := by first | (simp [entryFrame, mkF, argsToLocals, Value.category]; done) | rfl
set_option maxRecDepth 65536 in
set_option maxHeartbeats 400000000 in
theorem rmNum (l : Launch) (Z : State) (a0 : Array Value) (hw : ∀ d ∈ tables_1, d.before a0 Z = true) (ws : List Jvm.Cond) (w_cache : Addr) (hS : SF Z w_cache) (a1 : Addr) (h0 : Heap) (O0 : Ext Z.heap h0)  :
    Con l Z h0 (⟨"java/lang/Number", "<init>", "()V"⟩ : MethodName) jdk_18_method_1_code 1 none ws ({ frames := 1, cells := 0, slots := 0, locals := 12 } : Room) #[(.ref a1)] (fun v h L => v = none ∧ Fr Z.heap.size L ∧ h = h0) := by
  obtain ⟨S_high, S_cache, C_cache⟩ := id hS
  refine own_con (plainFor_of_name pn_666428) ?_
  intro p e s m below meth c T0 X0 hx hby hml hown hnm hret hlk hZ e0
  have hown : s.vm.findClass "java/lang/Number" = some m.cls := hown
  have N0 := Fr.nil Z.heap.size
  refine Go.st (S' := T0.setTop (mkF m 0 #[.val (.ref a1)] [])) (fun _ k => castTop (ef_rmNum m a1) k) ?_
  refine Go.st (S' := T0.setTop (mkF m 1 #[.val (.ref a1)] [(.ref a1)])) (fun _ k => XS.aloadN X0.here hx rfl (hb hby d16_0) rfl rfl k) ?_
  obtain ⟨T14, X14, e14, st14⟩ := initO X0 hx hZ hown (ww hw 81 rfl) (ww hw 10 rfl) (ww hw 11 rfl) e0 (g := (mkF m 1 #[.val (.ref a1)] [(.ref a1)])) rfl (by rw [hml]; rfl) rfl (hb hby d16_1) (by decide) (W := 0) (by show 2 * 0 + _ ≤ _; exact Nat.le_of_eq rfl) (by decide)
  refine Go.st (S' := T14.setTop (mkF m 4 #[.val (.ref a1)] [])) st14 ?_
  exact own_retV X14 hx hlk hret (hb hby d16_4) e14 ⟨rfl, N0, rfl⟩ (by decide) (by decide)
theorem d15_0 : decode jdk_33_method_23_code 0 = .ok (.aload_n 0, 1) := by decide +kernel
theorem d15_1 : decode jdk_33_method_23_code 1 = .ok (.invokespecial 202, 3) := by decide +kernel
theorem d15_4 : decode jdk_33_method_23_code 4 = .ok (.aload_n 0, 1) := by decide +kernel
theorem d15_5 : decode jdk_33_method_23_code 5 = .ok (.iload_n 1, 1) := by decide +kernel
theorem d15_6 : decode jdk_33_method_23_code 6 = .ok (.putfield 205, 3) := by decide +kernel
theorem d15_9 : decode jdk_33_method_23_code 9 = .ok (.return_, 1) := by decide +kernel
theorem pd_428486 : parseMethodDescriptor "()V" = some ⟨[], none⟩ := by decide +kernel
theorem pn_41729 : plainName "java/lang/Integer" = true := by first | (simp [plainName, overriddenIn]; done) | decide +kernel
theorem ef_rmIV (m : MethodId) (x0 : Addr) (x1 : Int32) : entryFrame m #[(.ref x0), (.int x1)] 2 = mkF m 0 #[.val (.ref x0), .val (.int x1)] [] := by first | (simp [entryFrame, mkF, argsToLocals, Value.category]; done) | rfl
set_option maxRecDepth 65536 in
set_option maxHeartbeats 400000000 in
theorem rmIV (l : Launch) (Z : State) (a0 : Array Value) (hw : ∀ d ∈ tables_1, d.before a0 Z = true) (ws : List Jvm.Cond) (w_cache : Addr) (hS : SF Z w_cache) (a1 : Addr) (p2 : Int32) (h0 : Heap) (O0 : Ext Z.heap h0) (ga : Z.heap.size ≤ a1) (EA : Exa Z h0 a1 "java/lang/Integer") (F_value : Fld Z h0 a1 "java/lang/Integer" "value" "I" (.int (0 : Int32))) :
    Con l Z h0 (⟨"java/lang/Integer", "<init>", "(I)V"⟩ : MethodName) jdk_33_method_23_code 2 none ws ({ frames := 2, cells := 0, slots := 0, locals := 24 } : Room) #[(.ref a1), (.int p2)] (fun v h L => v = none ∧ Fr Z.heap.size L ∧ Keep h0 h [a1] ∧ Fld Z h a1 "java/lang/Integer" "value" "I" (.int p2)) := by
  obtain ⟨S_high, S_cache, C_cache⟩ := id hS
  refine own_con (plainFor_of_name pn_41729) ?_
  intro p e s m below meth c T0 X0 hx hby hml hown hnm hret hlk hZ e0
  have hown : s.vm.findClass "java/lang/Integer" = some m.cls := hown
  have N0 := Fr.nil Z.heap.size
  have KP0 : Keep h0 h0 [a1] := Keep.refl h0 _
  refine Go.st (S' := T0.setTop (mkF m 0 #[.val (.ref a1), .val (.int p2)] [])) (fun _ k => castTop (ef_rmIV m a1 p2) k) ?_
  refine Go.st (S' := T0.setTop (mkF m 1 #[.val (.ref a1), .val (.int p2)] [(.ref a1)])) (fun _ k => XS.aloadN X0.here hx rfl (hb hby d15_0) rfl rfl k) ?_
  obtain ⟨_, T15, L15, X15, ⟨rfl, Nq15, eq15⟩, st15⟩ := own_callI X0 hx hZ rfl hown (ww hw 75 rfl) (ww hw 76 rfl) (ww hw 79 rfl) (ww hw 80 rfl) (by decide) e0 (rmNum l Z a0 hw [] w_cache hS a1 h0 O0) 0 (by decide) (by decide) (by decide) (by decide) (g := (mkF m 1 #[.val (.ref a1), .val (.int p2)] [(.ref a1)])) rfl (by rw [hml]; rfl) [] [] rfl (lenOf pd_428486 rfl) rfl (by show 2 * 0 + _ ≤ _; exact Nat.le_of_eq rfl) (hb hby d15_1)
  have N15 := Fr.app N0 Nq15
  refine Go.st (S' := T15.setTop (mkF m 4 #[.val (.ref a1), .val (.int p2)] [])) st15 ?_
  refine Go.st (S' := T15.setTop (mkF m 5 #[.val (.ref a1), .val (.int p2)] [(.ref a1)])) (fun _ k => XS.aloadN X15.here hx rfl (hb hby d15_4) rfl rfl k) ?_
  refine Go.st (S' := T15.setTop (mkF m 6 #[.val (.ref a1), .val (.int p2)] [(.int p2), (.ref a1)])) (fun _ k => XS.iloadN X15.here hx rfl (hb hby d15_5) rfl k) ?_
  obtain ⟨T16, h16, X16, e16, W16, st16⟩ := putF X15 hx hZ hown (host := "") (Or.inl (ww hw 48 rfl)) Via.refl eq15 F_value EA (Or.inr ⟨(ww hw 49 rfl), rfl, hnm⟩) (ww hw 71 rfl) (ty := .int) (by decide) rfl rfl (g := (mkF m 6 #[.val (.ref a1), .val (.int p2)] [(.int p2), (.ref a1)])) rfl rfl (hb hby d15_6)
  have N16 := Fr.snoc X16 N15 ga
  have Fw16 := F_value.same W16
  have O16 : Ext Z.heap h16 := own_Ext.wr O0 W16 ga
  have KP16 : Keep h0 h16 [a1] := KP0.wr W16 (Or.inl (List.mem_of_getElem? (i := 0) rfl))
  refine Go.st (S' := T16.setTop (mkF m 9 #[.val (.ref a1), .val (.int p2)] [])) st16 ?_
  exact own_retV X16 hx hlk hret (hb hby d15_9) e16 ⟨rfl, N16, KP16, Fw16⟩ (by decide) (by decide)
theorem d8_0 : decode jdk_33_method_22_code 0 = .ok (.iload_n 0, 1) := by decide +kernel
theorem d8_1 : decode jdk_33_method_22_code 1 = .ok (.bipush (-128), 2) := by decide +kernel
theorem d8_3 : decode jdk_33_method_22_code 3 = .ok (.if_icmp .lt 20, 3) := by decide +kernel
theorem d8_6 : decode jdk_33_method_22_code 6 = .ok (.iload_n 0, 1) := by decide +kernel
theorem d8_7 : decode jdk_33_method_22_code 7 = .ok (.getstatic 191, 3) := by decide +kernel
theorem d8_10 : decode jdk_33_method_22_code 10 = .ok (.if_icmp .gt 13, 3) := by decide +kernel
theorem d8_13 : decode jdk_33_method_22_code 13 = .ok (.getstatic 195, 3) := by decide +kernel
theorem d8_16 : decode jdk_33_method_22_code 16 = .ok (.iload_n 0, 1) := by decide +kernel
theorem d8_17 : decode jdk_33_method_22_code 17 = .ok (.sipush 128, 3) := by decide +kernel
theorem d8_20 : decode jdk_33_method_22_code 20 = .ok (.iadd, 1) := by decide +kernel
theorem d8_21 : decode jdk_33_method_22_code 21 = .ok (.aaload, 1) := by decide +kernel
theorem d8_22 : decode jdk_33_method_22_code 22 = .ok (.areturn, 1) := by decide +kernel
theorem d8_23 : decode jdk_33_method_22_code 23 = .ok (.new 1, 3) := by decide +kernel
theorem d8_26 : decode jdk_33_method_22_code 26 = .ok (.dup, 1) := by decide +kernel
theorem d8_27 : decode jdk_33_method_22_code 27 = .ok (.iload_n 0, 1) := by decide +kernel
theorem d8_28 : decode jdk_33_method_22_code 28 = .ok (.invokespecial 199, 3) := by decide +kernel
theorem d8_31 : decode jdk_33_method_22_code 31 = .ok (.areturn, 1) := by decide +kernel
theorem pd_674841 : parseMethodDescriptor "(I)V" = some ⟨[.int], none⟩ := by decide +kernel
theorem ef_rmVO (m : MethodId) (x0 : Int32) : entryFrame m #[(.int x0)] 1 = mkF m 0 #[.val (.int x0)] [] := by first | (simp [entryFrame, mkF, argsToLocals, Value.category]; done) | rfl
set_option maxRecDepth 65536 in
set_option maxHeartbeats 400000000 in
theorem rmVO (l : Launch) (Z : State) (a0 : Array Value) (hw : ∀ d ∈ tables_1, d.before a0 Z = true) (ws : List Jvm.Cond) (w_cache : Addr) (hS : SF Z w_cache) (p1 : Int32) (h0 : Heap) (O0 : Ext Z.heap h0)  :
    Con l Z h0 (⟨"java/lang/Integer", "valueOf", "(I)Ljava/lang/Integer;"⟩ : MethodName) jdk_33_method_22_code 1 (some (.object "java/lang/Integer")) ws ({ frames := 3, cells := 1, slots := 1, locals := 38 } : Room) #[(.int p1)] (fun v h L => (∃ w, v = some (.ref w) ∧ Exa Z h w "java/lang/Integer" ∧ Fld Z h w "java/lang/Integer" "value" "I" (.int p1)) ∧ Fr Z.heap.size L ∧ Keep h0 h []) := by
  obtain ⟨S_high, S_cache, C_cache⟩ := id hS
  refine own_con (plainFor_of_name pn_41729) ?_
  intro p e s m below meth c T0 X0 hx hby hml hown hnm hret hlk hZ e0
  have hown : s.vm.findClass "java/lang/Integer" = some m.cls := hown
  have N0 := Fr.nil Z.heap.size
  have KP0 : Keep h0 h0 [] := Keep.refl h0 _
  refine Go.st (S' := T0.setTop (mkF m 0 #[.val (.int p1)] [])) (fun _ k => castTop (ef_rmVO m p1) k) ?_
  refine Go.st (S' := T0.setTop (mkF m 1 #[.val (.int p1)] [(.int p1)])) (fun _ k => XS.iloadN X0.here hx rfl (hb hby d8_0) rfl k) ?_
  refine Go.st (S' := T0.setTop (mkF m 3 #[.val (.int p1)] [(.int (-128 : Int32)), (.int p1)])) (fun _ k => XS.bipush X0.here hx rfl (hb hby d8_1) k) ?_
  by_cases hc3 : p1 < (-128 : Int32)
  · refine Go.st (S' := T0.setTop (mkF m 23 #[.val (.int p1)] [])) (fun _ k => XS.icmpYes X0.here hx rfl (pc0 := 3) (pc' := 23) rfl (hb hby d8_3) rfl (tlt hc3).1 (by decide) (by decide) k) ?_
    obtain ⟨T17, h17, X17, e17, E17, A17, D17, -, st17⟩ := newO X0 hx hZ hown (ww hw 70 rfl) (ww hw 71 rfl) (ww hw 36 rfl) e0 (g := (mkF m 23 #[.val (.int p1)] [])) rfl (hb hby d8_23) (by decide) (by decide)
    obtain ⟨b17, g17⟩ : ∃ z, z = h0.size := ⟨_, rfl⟩
    rw [← g17] at A17 D17 st17
    have gz17 : Z.heap.size ≤ b17 := Nat.le_trans O0.1 (Nat.le_of_eq g17.symm)
    have sz17 : h0.size ≤ b17 := Nat.le_trans KP0.1 (Nat.le_of_eq g17.symm)
    have O17 : Ext Z.heap h17 := own_Ext.trans O0 E17
    have KP17 : Keep h0 h17 [] := KP0.ext E17
    have F17_value : Fld Z h17 b17 "java/lang/Integer" "value" "I" (.int (0 : Int32)) := D17 (Or.inr (ww hw 49 rfl)) (ty := .int) (by decide)
    refine Go.st (S' := T17.setTop (mkF m 26 #[.val (.int p1)] [(.ref b17)])) st17 ?_
    refine Go.st (S' := T17.setTop (mkF m 27 #[.val (.int p1)] [(.ref b17), (.ref b17)])) (fun _ k => XS.dup X17.here hx rfl (hb hby d8_26) rfl rfl k) ?_
    refine Go.st (S' := T17.setTop (mkF m 28 #[.val (.int p1)] [(.int p1), (.ref b17), (.ref b17)])) (fun _ k => XS.iloadN X17.here hx rfl (hb hby d8_27) rfl k) ?_
    obtain ⟨_, T18, L18, X18, ⟨rfl, Nq18, kp18, fv18⟩, st18⟩ := own_callI X17 hx hZ rfl hown (ww hw 72 rfl) (ww hw 73 rfl) (ww hw 36 rfl) (ww hw 74 rfl) (by decide) e17 (rmIV l Z a0 hw [] w_cache hS b17 p1 h17 O17 gz17 A17 F17_value) 1 (by decide) (by decide) (by decide) (by decide) (g := (mkF m 28 #[.val (.int p1)] [(.int p1), (.ref b17), (.ref b17)])) rfl (by rw [hml]; rfl) [(.int p1)] [(.ref b17)] rfl (lenOf pd_674841 rfl) rfl (by show 2 * 0 + _ ≤ _; exact Nat.le_of_eq rfl) (hb hby d8_28)
    have N18 := Fr.app N0 Nq18
    have O18 : Ext Z.heap T18.heap := own_Ext.keep O17 kp18 (allS gz17 all0)
    have KP18 : Keep h0 T18.heap [] := KP17.trans kp18 (allS (Or.inr sz17) all0)
    refine Go.st (S' := T18.setTop (mkF m 31 #[.val (.int p1)] [(.ref b17)])) st18 ?_
    exact own_retA X18 hx hlk hret rfl rfl rfl (hb hby d8_31) rfl ⟨⟨_, rfl, (A17.keep kp18), fv18⟩, N18, KP18⟩ (by decide) (by decide)
  · refine Go.st (S' := T0.setTop (mkF m 6 #[.val (.int p1)] [])) (fun _ k => XS.icmpNo X0.here hx rfl (hb hby d8_3) rfl (flt hc3).1 k) ?_
    refine Go.st (S' := T0.setTop (mkF m 7 #[.val (.int p1)] [(.int p1)])) (fun _ k => XS.iloadN X0.here hx rfl (hb hby d8_6) rfl k) ?_
    obtain ⟨T19, X19, e19, st19⟩ := getS2 X0 hx hZ hown (host := "") (Or.inl (ww hw 38 rfl)) Via.refl e0 (S_high.ext O0) (g := (mkF m 7 #[.val (.int p1)] [(.int p1)])) rfl (hb hby d8_7)
    refine Go.st (S' := T19.setTop (mkF m 10 #[.val (.int p1)] [(.int (127 : Int32)), (.int p1)])) st19 ?_
    by_cases hc10 : (127 : Int32) < p1
    · refine Go.st (S' := T19.setTop (mkF m 23 #[.val (.int p1)] [])) (fun _ k => XS.icmpYes X19.here hx rfl (pc0 := 10) (pc' := 23) rfl (hb hby d8_10) rfl (tlt hc10).2.2.1 (by decide) (by decide) k) ?_
      obtain ⟨T20, h20, X20, e20, E20, A20, D20, -, st20⟩ := newO X19 hx hZ hown (ww hw 70 rfl) (ww hw 71 rfl) (ww hw 36 rfl) e19 (g := (mkF m 23 #[.val (.int p1)] [])) rfl (hb hby d8_23) (by decide) (by decide)
      obtain ⟨b20, g20⟩ : ∃ z, z = h0.size := ⟨_, rfl⟩
      rw [← g20] at A20 D20 st20
      have gz20 : Z.heap.size ≤ b20 := Nat.le_trans O0.1 (Nat.le_of_eq g20.symm)
      have sz20 : h0.size ≤ b20 := Nat.le_trans KP0.1 (Nat.le_of_eq g20.symm)
      have O20 : Ext Z.heap h20 := own_Ext.trans O0 E20
      have KP20 : Keep h0 h20 [] := KP0.ext E20
      have F20_value : Fld Z h20 b20 "java/lang/Integer" "value" "I" (.int (0 : Int32)) := D20 (Or.inr (ww hw 49 rfl)) (ty := .int) (by decide)
      refine Go.st (S' := T20.setTop (mkF m 26 #[.val (.int p1)] [(.ref b20)])) st20 ?_
      refine Go.st (S' := T20.setTop (mkF m 27 #[.val (.int p1)] [(.ref b20), (.ref b20)])) (fun _ k => XS.dup X20.here hx rfl (hb hby d8_26) rfl rfl k) ?_
      refine Go.st (S' := T20.setTop (mkF m 28 #[.val (.int p1)] [(.int p1), (.ref b20), (.ref b20)])) (fun _ k => XS.iloadN X20.here hx rfl (hb hby d8_27) rfl k) ?_
      obtain ⟨_, T21, L21, X21, ⟨rfl, Nq21, kp21, fv21⟩, st21⟩ := own_callI X20 hx hZ rfl hown (ww hw 72 rfl) (ww hw 73 rfl) (ww hw 36 rfl) (ww hw 74 rfl) (by decide) e20 (rmIV l Z a0 hw [] w_cache hS b20 p1 h20 O20 gz20 A20 F20_value) 1 (by decide) (by decide) (by decide) (by decide) (g := (mkF m 28 #[.val (.int p1)] [(.int p1), (.ref b20), (.ref b20)])) rfl (by rw [hml]; rfl) [(.int p1)] [(.ref b20)] rfl (lenOf pd_674841 rfl) rfl (by show 2 * 0 + _ ≤ _; exact Nat.le_of_eq rfl) (hb hby d8_28)
      have N21 := Fr.app N0 Nq21
      have O21 : Ext Z.heap T21.heap := own_Ext.keep O20 kp21 (allS gz20 all0)
      have KP21 : Keep h0 T21.heap [] := KP20.trans kp21 (allS (Or.inr sz20) all0)
      refine Go.st (S' := T21.setTop (mkF m 31 #[.val (.int p1)] [(.ref b20)])) st21 ?_
      exact own_retA X21 hx hlk hret rfl rfl rfl (hb hby d8_31) rfl ⟨⟨_, rfl, (A20.keep kp21), fv21⟩, N21, KP21⟩ (by decide) (by decide)
    · refine Go.st (S' := T19.setTop (mkF m 13 #[.val (.int p1)] [])) (fun _ k => XS.icmpNo X19.here hx rfl (hb hby d8_10) rfl (flt hc10).2.2.1 k) ?_
      obtain ⟨T22, X22, e22, st22⟩ := getS2 X19 hx hZ hown (host := "") (Or.inl (ww hw 40 rfl)) Via.refl e19 (S_cache.ext O0) (g := (mkF m 13 #[.val (.int p1)] [])) rfl (hb hby d8_13)
      refine Go.st (S' := T22.setTop (mkF m 16 #[.val (.int p1)] [(.ref w_cache)])) st22 ?_
      refine Go.st (S' := T22.setTop (mkF m 17 #[.val (.int p1)] [(.int p1), (.ref w_cache)])) (fun _ k => XS.iloadN X22.here hx rfl (hb hby d8_16) rfl k) ?_
      refine Go.st (S' := T22.setTop (mkF m 20 #[.val (.int p1)] [(.int (128 : Int32)), (.int p1), (.ref w_cache)])) (fun _ k => XS.sipush X22.here hx rfl (hb hby d8_17) k) ?_
      refine Go.st (S' := T22.setTop (mkF m 21 #[.val (.int p1)] [(.int (p1 + (128 : Int32))), (.ref w_cache)])) (fun _ k => XS.iadd X22.here hx rfl (hb hby d8_20) rfl k) ?_
      obtain ⟨cl, Ar, Sz, hall⟩ := id C_cache
      obtain ⟨i1, i2, i3⟩ := own_cix p1 hc3 hc10
      obtain ⟨y, y1, y2, y3⟩ := hall _ i2
      rw [i3] at y3
      refine Go.st (S' := T22.setTop (mkF m 22 #[.val (.int p1)] [(.ref y)])) (fun _ k => X22.aaload hx (j := p1 + (128 : Int32)) (by rw [e22]; exact (Ar.ext O0).1) (State.isArrayOf_alike hZ.alike Ar.2.1) rfl Ar.2.2 (fun q => q.elim i1 (fun q => by omega)) y1 (g := (mkF m 21 #[.val (.int p1)] [(.int (p1 + (128 : Int32))), (.ref w_cache)])) rfl rfl (hb hby d8_21) _ k) ?_
      exact own_retA X22 hx hlk hret rfl rfl rfl (hb hby d8_22) e22 ⟨⟨_, rfl, (y2.ext O0), (y3.ext O0)⟩, N0, KP0⟩ (by decide) (by decide)
theorem d9_0 : decode jdk_33_method_27_code 0 = .ok (.aload_n 0, 1) := by decide +kernel
theorem d9_1 : decode jdk_33_method_27_code 1 = .ok (.getfield 205, 3) := by decide +kernel
theorem d9_4 : decode jdk_33_method_27_code 4 = .ok (.ireturn, 1) := by decide +kernel
theorem ef_rmInt (m : MethodId) (x0 : Addr) : entryFrame m #[(.ref x0)] 1 = mkF m 0 #[.val (.ref x0)] [] := by first | (simp [entryFrame, mkF, argsToLocals, Value.category]; done) | rfl
set_option maxRecDepth 65536 in
set_option maxHeartbeats 400000000 in
theorem rmInt (l : Launch) (Z : State) (a0 : Array Value) (hw : ∀ d ∈ tables_1, d.before a0 Z = true) (ws : List Jvm.Cond) (w_cache : Addr) (hS : SF Z w_cache) (a1 : Addr) (r : Int32) (h0 : Heap) (O0 : Ext Z.heap h0) (F : Fld Z h0 a1 "java/lang/Integer" "value" "I" (.int r)) :
    Con l Z h0 (⟨"java/lang/Integer", "intValue", "()I"⟩ : MethodName) jdk_33_method_27_code 1 (some .int) ws ({ frames := 0, cells := 0, slots := 0, locals := 0 } : Room) #[(.ref a1)] (fun v h L => v = some (.int r) ∧ Fr Z.heap.size L ∧ h = h0) := by
  obtain ⟨S_high, S_cache, C_cache⟩ := id hS
  refine own_con (plainFor_of_name pn_41729) ?_
  intro p e s m below meth c T0 X0 hx hby hml hown hnm hret hlk hZ e0
  have hown : s.vm.findClass "java/lang/Integer" = some m.cls := hown
  have N0 := Fr.nil Z.heap.size
  refine Go.st (S' := T0.setTop (mkF m 0 #[.val (.ref a1)] [])) (fun _ k => castTop (ef_rmInt m a1) k) ?_
  refine Go.st (S' := T0.setTop (mkF m 1 #[.val (.ref a1)] [(.ref a1)])) (fun _ k => XS.aloadN X0.here hx rfl (hb hby d9_0) rfl rfl k) ?_
  obtain ⟨T23, X23, e23, st23⟩ := getF X0 hx hZ hown (host := "") (Or.inl (ww hw 48 rfl)) Via.refl e0 F (g := (mkF m 1 #[.val (.ref a1)] [(.ref a1)])) rfl rfl (hb hby d9_1)
  refine Go.st (S' := T23.setTop (mkF m 4 #[.val (.ref a1)] [(.int r)])) st23 ?_
  exact own_retI X23 hx hlk hret (hb hby d9_4) e23 ⟨rfl, N0, rfl⟩ (by decide) (by decide)
theorem d5_0 : decode prog_36_method_13_code 0 = .ok (.aload_n 0, 1) := by decide +kernel
theorem d5_1 : decode prog_36_method_13_code 1 = .ok (.invokevirtual 51, 3) := by decide +kernel
theorem d5_4 : decode prog_36_method_13_code 4 = .ok (.ifCond .eq 13, 3) := by decide +kernel
theorem d5_17 : decode prog_36_method_13_code 17 = .ok (.aload_n 0, 1) := by decide +kernel
theorem d5_18 : decode prog_36_method_13_code 18 = .ok (.getfield 7, 3) := by decide +kernel
theorem d5_21 : decode prog_36_method_13_code 21 = .ok (.l2i, 1) := by decide +kernel
theorem d5_22 : decode prog_36_method_13_code 22 = .ok (.invokestatic 59, 3) := by decide +kernel
theorem d5_25 : decode prog_36_method_13_code 25 = .ok (.areturn, 1) := by decide +kernel
theorem pd_428490 : parseMethodDescriptor "()Z" = some ⟨[], some .boolean⟩ := by decide +kernel
theorem pd_272272 : parseMethodDescriptor "(I)Ljava/lang/Integer;" = some ⟨[.int], some (.object "java/lang/Integer")⟩ := by decide +kernel
theorem ef_rmBox (m : MethodId) (x0 : Addr) : entryFrame m #[(.ref x0)] 1 = mkF m 0 #[.val (.ref x0)] [] := by first | (simp [entryFrame, mkF, argsToLocals, Value.category]; done) | rfl
set_option maxRecDepth 65536 in
set_option maxHeartbeats 400000000 in
theorem rmBox (l : Launch) (Z : State) (a0 : Array Value) (hw : ∀ d ∈ tables_1, d.before a0 Z = true) (ws : List Jvm.Cond) (w_cache : Addr) (hS : SF Z w_cache) (a1 : Addr) (x : Int32) (h0 : Heap) (O0 : Ext Z.heap h0) (EA : Exa Z h0 a1 "com/example/pathwise/pathwise/ExactInteger") (F_value : Fld Z h0 a1 "com/example/pathwise/pathwise/ExactInteger" "value" "J" (.long (x.toInt64))) (F_left : Fld Z h0 a1 "com/example/pathwise/pathwise/ExactInteger" "left" "Ljava/lang/Object;" .null) (F_right : Fld Z h0 a1 "com/example/pathwise/pathwise/ExactInteger" "right" "Ljava/lang/Object;" .null) :
    Con l Z h0 (⟨"com/example/pathwise/pathwise/ExactInteger", "boxed", "()Ljava/lang/Object;"⟩ : MethodName) prog_36_method_13_code 1 (some (.object "java/lang/Object")) ws ({ frames := 4, cells := 1, slots := 1, locals := 50 } : Room) #[(.ref a1)] (fun v h L => (∃ w, v = some (.ref w) ∧ Exa Z h w "java/lang/Integer" ∧ Fld Z h w "java/lang/Integer" "value" "I" (.int x)) ∧ Fr Z.heap.size L ∧ Keep h0 h []) := by
  obtain ⟨S_high, S_cache, C_cache⟩ := id hS
  refine own_con (plainFor_of_name pn_100142) ?_
  intro p e s m below meth c T0 X0 hx hby hml hown hnm hret hlk hZ e0
  have hown : s.vm.findClass "com/example/pathwise/pathwise/ExactInteger" = some m.cls := hown
  have N0 := Fr.nil Z.heap.size
  have KP0 : Keep h0 h0 [] := Keep.refl h0 _
  refine Go.st (S' := T0.setTop (mkF m 0 #[.val (.ref a1)] [])) (fun _ k => castTop (ef_rmBox m a1) k) ?_
  refine Go.st (S' := T0.setTop (mkF m 1 #[.val (.ref a1)] [(.ref a1)])) (fun _ k => XS.aloadN X0.here hx rfl (hb hby d5_0) rfl rfl k) ?_
  obtain ⟨_, T24, L24, X24, ⟨rfl, Nq24, eq24⟩, st24⟩ := own_callP X0 hx hZ hown (ww hw 27 rfl) (ww hw 28 rfl) (ww hw 29 rfl) (ww hw 5 rfl) (ww hw 2 rfl) (ww hw 30 rfl) (by decide) e0 EA (rmIsL l Z a0 hw [] w_cache hS a1 x h0 O0 EA F_value F_left F_right) 0 (by decide) (by decide) (by decide) (by decide) (g := (mkF m 1 #[.val (.ref a1)] [(.ref a1)])) rfl (by rw [hml]; rfl) [] [] rfl (lenOf pd_428490 rfl) rfl (by show 2 * 0 + _ ≤ _; exact Nat.le_of_eq rfl) (hb hby d5_1)
  have N24 := Fr.app N0 Nq24
  refine Go.st (S' := T24.setTop (mkF m 4 #[.val (.ref a1)] [(.int (0 : Int32))])) st24 ?_
  refine Go.st (S' := T24.setTop (mkF m 17 #[.val (.ref a1)] [])) (fun _ k => XS.ifYes X24.here hx rfl (pc0 := 4) (pc' := 17) rfl (hb hby d5_4) rfl ((if0 _ _).trans (teq (by decide)).1) (by decide) (by decide) k) ?_
  refine Go.st (S' := T24.setTop (mkF m 18 #[.val (.ref a1)] [(.ref a1)])) (fun _ k => XS.aloadN X24.here hx rfl (hb hby d5_17) rfl rfl k) ?_
  obtain ⟨T25, X25, e25, st25⟩ := getF X24 hx hZ hown (host := "") (Or.inl (ww hw 12 rfl)) Via.refl eq24 F_value (g := (mkF m 18 #[.val (.ref a1)] [(.ref a1)])) rfl rfl (hb hby d5_18)
  refine Go.st (S' := T25.setTop (mkF m 21 #[.val (.ref a1)] [(.long (x.toInt64))])) st25 ?_
  refine Go.st (S' := T25.setTop (mkF m 22 #[.val (.ref a1)] [(.int ((x.toInt64).toInt32))])) (fun _ k => XS.l2i X25.here hx rfl (hb hby d5_21) rfl k) ?_
  refine Go.st (S' := T25.setTop (mkF m 22 #[.val (.ref a1)] [(.int x)])) (fun _ k => by rw [own_32 x]; exact k) ?_
  obtain ⟨_, T26, L26, X26, ⟨⟨w26, rfl, ex26, fv26⟩, Nq26, kp26⟩, st26⟩ := own_callS X25 hx hZ hown (ww hw 34 rfl) (ww hw 35 rfl) (ww hw 36 rfl) (ww hw 37 rfl) (by decide) e25 (rmVO l Z a0 hw [] w_cache hS x h0 O0) 0 (by decide) (by decide) (by decide) (by decide) (g := (mkF m 22 #[.val (.ref a1)] [(.int x)])) rfl (by rw [hml]; rfl) [(.int x)] [] rfl (lenOf pd_272272 rfl) rfl (by show 2 * 0 + _ ≤ _; exact Nat.le_of_eq rfl) (hb hby d5_22)
  have N26 := Fr.app N24 Nq26
  have O26 : Ext Z.heap T26.heap := own_Ext.keep O0 kp26 all0
  have KP26 : Keep h0 T26.heap [] := KP0.trans kp26 all0
  refine Go.st (S' := T26.setTop (mkF m 25 #[.val (.ref a1)] [(.ref w26)])) st26 ?_
  exact own_retA X26 hx hlk hret rfl rfl rfl (hb hby d5_25) rfl ⟨⟨_, rfl, ex26, fv26⟩, N26, KP26⟩ (by decide) (by decide)
theorem d4_0 : decode prog_36_method_12_code 0 = .ok (.aload_n 0, 1) := by decide +kernel
theorem d4_1 : decode prog_36_method_12_code 1 = .ok (.instanceof 8, 3) := by decide +kernel
theorem d4_4 : decode prog_36_method_12_code 4 = .ok (.ifCond .eq 15, 3) := by decide +kernel
theorem d4_7 : decode prog_36_method_12_code 7 = .ok (.aload_n 0, 1) := by decide +kernel
theorem d4_8 : decode prog_36_method_12_code 8 = .ok (.checkcast 8, 3) := by decide +kernel
theorem d4_11 : decode prog_36_method_12_code 11 = .ok (.astore_n 1, 1) := by decide +kernel
theorem d4_12 : decode prog_36_method_12_code 12 = .ok (.aload_n 1, 1) := by decide +kernel
theorem d4_13 : decode prog_36_method_12_code 13 = .ok (.invokevirtual 47, 3) := by decide +kernel
theorem d4_16 : decode prog_36_method_12_code 16 = .ok (.goto 4, 3) := by decide +kernel
theorem d4_20 : decode prog_36_method_12_code 20 = .ok (.areturn, 1) := by decide +kernel
theorem pd_784034 : parseMethodDescriptor "()Ljava/lang/Object;" = some ⟨[], some (.object "java/lang/Object")⟩ := by decide +kernel
theorem ef_rmPl (m : MethodId) (x0 : Addr) : entryFrame m #[(.ref x0)] 2 = mkF m 0 #[.val (.ref x0), .unset] [] := by first | (simp [entryFrame, mkF, argsToLocals, Value.category]; done) | rfl
set_option maxRecDepth 65536 in
set_option maxHeartbeats 400000000 in
theorem rmPl (l : Launch) (Z : State) (a0 : Array Value) (hw : ∀ d ∈ tables_1, d.before a0 Z = true) (ws : List Jvm.Cond) (w_cache : Addr) (hS : SF Z w_cache) (a1 : Addr) (x : Int32) (h0 : Heap) (O0 : Ext Z.heap h0) (EA : Exa Z h0 a1 "com/example/pathwise/pathwise/ExactInteger") (F_value : Fld Z h0 a1 "com/example/pathwise/pathwise/ExactInteger" "value" "J" (.long (x.toInt64))) (F_left : Fld Z h0 a1 "com/example/pathwise/pathwise/ExactInteger" "left" "Ljava/lang/Object;" .null) (F_right : Fld Z h0 a1 "com/example/pathwise/pathwise/ExactInteger" "right" "Ljava/lang/Object;" .null) :
    Con l Z h0 (⟨"com/example/pathwise/pathwise/ExactInteger", "plain", "(Ljava/lang/Object;)Ljava/lang/Object;"⟩ : MethodName) prog_36_method_12_code 2 (some (.object "java/lang/Object")) ws ({ frames := 5, cells := 1, slots := 1, locals := 62 } : Room) #[(.ref a1)] (fun v h L => (∃ w, v = some (.ref w) ∧ Exa Z h w "java/lang/Integer" ∧ Fld Z h w "java/lang/Integer" "value" "I" (.int x)) ∧ Fr Z.heap.size L ∧ Keep h0 h []) := by
  obtain ⟨S_high, S_cache, C_cache⟩ := id hS
  refine own_con (plainFor_of_name pn_100142) ?_
  intro p e s m below meth c T0 X0 hx hby hml hown hnm hret hlk hZ e0
  have hown : s.vm.findClass "com/example/pathwise/pathwise/ExactInteger" = some m.cls := hown
  have N0 := Fr.nil Z.heap.size
  have KP0 : Keep h0 h0 [] := Keep.refl h0 _
  refine Go.st (S' := T0.setTop (mkF m 0 #[.val (.ref a1), .unset] [])) (fun _ k => castTop (ef_rmPl m a1) k) ?_
  refine Go.st (S' := T0.setTop (mkF m 1 #[.val (.ref a1), .unset] [(.ref a1)])) (fun _ k => XS.aloadN X0.here hx rfl (hb hby d4_0) rfl rfl k) ?_
  obtain ⟨T27, X27, e27, st27⟩ := instY X0 hx hZ hown (ww hw 4 rfl) e0 (Ins.self EA) (g := (mkF m 1 #[.val (.ref a1), .unset] [(.ref a1)])) rfl rfl (hb hby d4_1)
  refine Go.st (S' := T27.setTop (mkF m 4 #[.val (.ref a1), .unset] [(.int (1 : Int32))])) st27 ?_
  refine Go.st (S' := T27.setTop (mkF m 7 #[.val (.ref a1), .unset] [])) (fun _ k => XS.ifNo X27.here hx rfl (hb hby d4_4) rfl ((if0 _ _).trans (feq (by decide)).1) k) ?_
  refine Go.st (S' := T27.setTop (mkF m 8 #[.val (.ref a1), .unset] [(.ref a1)])) (fun _ k => XS.aloadN X27.here hx rfl (hb hby d4_7) rfl rfl k) ?_
  obtain ⟨T28, X28, e28, st28⟩ := castY X27 hx hZ hown (ww hw 4 rfl) e27 (Ins.self EA) (g := (mkF m 8 #[.val (.ref a1), .unset] [(.ref a1)])) rfl rfl (hb hby d4_8)
  refine Go.st (S' := T28.setTop (mkF m 11 #[.val (.ref a1), .unset] [(.ref a1)])) st28 ?_
  refine Go.st (S' := T28.setTop (mkF m 12 #[.val (.ref a1), .val (.ref a1)] [])) (fun _ k => XS.astoreN X28.here hx rfl (hb hby d4_11) rfl rfl (l' := #[.val (.ref a1), .val (.ref a1)]) rfl k) ?_
  refine Go.st (S' := T28.setTop (mkF m 13 #[.val (.ref a1), .val (.ref a1)] [(.ref a1)])) (fun _ k => XS.aloadN X28.here hx rfl (hb hby d4_12) rfl rfl k) ?_
  obtain ⟨_, T29, L29, X29, ⟨⟨w29, rfl, ex29, fv29⟩, Nq29, kp29⟩, st29⟩ := own_callP X28 hx hZ hown (ww hw 23 rfl) (ww hw 24 rfl) (ww hw 25 rfl) (ww hw 5 rfl) (ww hw 2 rfl) (ww hw 26 rfl) (by decide) e28 EA (rmBox l Z a0 hw [] w_cache hS a1 x h0 O0 EA F_value F_left F_right) 0 (by decide) (by decide) (by decide) (by decide) (g := (mkF m 13 #[.val (.ref a1), .val (.ref a1)] [(.ref a1)])) rfl (by rw [hml]; rfl) [] [] rfl (lenOf pd_784034 rfl) rfl (by show 2 * 0 + _ ≤ _; exact Nat.le_of_eq rfl) (hb hby d4_13)
  have N29 := Fr.app N0 Nq29
  have O29 : Ext Z.heap T29.heap := own_Ext.keep O0 kp29 all0
  have KP29 : Keep h0 T29.heap [] := KP0.trans kp29 all0
  refine Go.st (S' := T29.setTop (mkF m 16 #[.val (.ref a1), .val (.ref a1)] [(.ref w29)])) st29 ?_
  refine Go.st (S' := T29.setTop (mkF m 20 #[.val (.ref a1), .val (.ref a1)] [(.ref w29)])) (fun _ k => XS.goto X29.here hx rfl (pc0 := 16) (pc' := 20) rfl (hb hby d4_16) (by decide) (by decide) k) ?_
  exact own_retA X29 hx hlk hret rfl rfl rfl (hb hby d4_20) rfl ⟨⟨_, rfl, ex29, fv29⟩, N29, KP29⟩ (by decide) (by decide)
theorem d11_0 : decode prog_36_method_15_code 0 = .ok (.aload_n 0, 1) := by decide +kernel
theorem d11_1 : decode prog_36_method_15_code 1 = .ok (.instanceof 60, 3) := by decide +kernel
theorem d11_4 : decode prog_36_method_15_code 4 = .ok (.ifCond .ne 10, 3) := by decide +kernel
theorem d11_7 : decode prog_36_method_15_code 7 = .ok (.aload_n 0, 1) := by decide +kernel
theorem d11_8 : decode prog_36_method_15_code 8 = .ok (.instanceof 8, 3) := by decide +kernel
theorem d11_11 : decode prog_36_method_15_code 11 = .ok (.ifCond .eq 7, 3) := by decide +kernel
theorem d11_14 : decode prog_36_method_15_code 14 = .ok (.iconst 1, 1) := by decide +kernel
theorem d11_15 : decode prog_36_method_15_code 15 = .ok (.goto 4, 3) := by decide +kernel
theorem d11_19 : decode prog_36_method_15_code 19 = .ok (.ireturn, 1) := by decide +kernel
theorem ef_rmExE (m : MethodId) (x0 : Addr) : entryFrame m #[(.ref x0)] 1 = mkF m 0 #[.val (.ref x0)] [] := by first | (simp [entryFrame, mkF, argsToLocals, Value.category]; done) | rfl
set_option maxRecDepth 65536 in
set_option maxHeartbeats 400000000 in
theorem rmExE (l : Launch) (Z : State) (a0 : Array Value) (hw : ∀ d ∈ tables_1, d.before a0 Z = true) (ws : List Jvm.Cond) (w_cache : Addr) (hS : SF Z w_cache) (a1 : Addr) (h0 : Heap) (O0 : Ext Z.heap h0) (EA : Exa Z h0 a1 "com/example/pathwise/pathwise/ExactInteger") :
    Con l Z h0 (⟨"com/example/pathwise/pathwise/ExactInteger", "isExact", "(Ljava/lang/Object;)Z"⟩ : MethodName) prog_36_method_15_code 1 (some .boolean) ws ({ frames := 0, cells := 0, slots := 0, locals := 0 } : Room) #[(.ref a1)] (fun v h L => v = some (.int 1) ∧ Fr Z.heap.size L ∧ h = h0) := by
  obtain ⟨S_high, S_cache, C_cache⟩ := id hS
  refine own_con (plainFor_of_name pn_100142) ?_
  intro p e s m below meth c T0 X0 hx hby hml hown hnm hret hlk hZ e0
  have hown : s.vm.findClass "com/example/pathwise/pathwise/ExactInteger" = some m.cls := hown
  have N0 := Fr.nil Z.heap.size
  refine Go.st (S' := T0.setTop (mkF m 0 #[.val (.ref a1)] [])) (fun _ k => castTop (ef_rmExE m a1) k) ?_
  refine Go.st (S' := T0.setTop (mkF m 1 #[.val (.ref a1)] [(.ref a1)])) (fun _ k => XS.aloadN X0.here hx rfl (hb hby d11_0) rfl rfl k) ?_
  obtain ⟨T31, X31, e31, st31⟩ := instNo X0 hx hZ hown (ww hw 57 rfl) e0 EA (own_nosub (ww hw 58 rfl) (ww hw 59 rfl) (ww hw 71 rfl) (by decide) (by decide)) (g := (mkF m 1 #[.val (.ref a1)] [(.ref a1)])) rfl rfl (hb hby d11_1)
  refine Go.st (S' := T31.setTop (mkF m 4 #[.val (.ref a1)] [(.int (0 : Int32))])) st31 ?_
  refine Go.st (S' := T31.setTop (mkF m 7 #[.val (.ref a1)] [])) (fun _ k => XS.ifNo X31.here hx rfl (hb hby d11_4) rfl ((if0 _ _).trans (teq (by decide)).2) k) ?_
  refine Go.st (S' := T31.setTop (mkF m 8 #[.val (.ref a1)] [(.ref a1)])) (fun _ k => XS.aloadN X31.here hx rfl (hb hby d11_7) rfl rfl k) ?_
  obtain ⟨T32, X32, e32, st32⟩ := instY X31 hx hZ hown (ww hw 4 rfl) e31 (Ins.self EA) (g := (mkF m 8 #[.val (.ref a1)] [(.ref a1)])) rfl rfl (hb hby d11_8)
  refine Go.st (S' := T32.setTop (mkF m 11 #[.val (.ref a1)] [(.int (1 : Int32))])) st32 ?_
  refine Go.st (S' := T32.setTop (mkF m 14 #[.val (.ref a1)] [])) (fun _ k => XS.ifNo X32.here hx rfl (hb hby d11_11) rfl ((if0 _ _).trans (feq (by decide)).1) k) ?_
  refine Go.st (S' := T32.setTop (mkF m 15 #[.val (.ref a1)] [(.int (1 : Int32))])) (fun _ k => XS.iconst X32.here hx rfl (hb hby d11_14) k) ?_
  refine Go.st (S' := T32.setTop (mkF m 19 #[.val (.ref a1)] [(.int (1 : Int32))])) (fun _ k => XS.goto X32.here hx rfl (pc0 := 15) (pc' := 19) rfl (hb hby d11_15) (by decide) (by decide) k) ?_
  exact own_retN X32 hx hlk hret (by simp) (hb hby d11_19) e32 ⟨rfl, N0, rfl⟩ (by decide) (by decide)
theorem ef_rmExI (m : MethodId) (x0 : Addr) : entryFrame m #[(.ref x0)] 1 = mkF m 0 #[.val (.ref x0)] [] := by first | (simp [entryFrame, mkF, argsToLocals, Value.category]; done) | rfl
set_option maxRecDepth 65536 in
set_option maxHeartbeats 400000000 in
theorem rmExI (l : Launch) (Z : State) (a0 : Array Value) (hw : ∀ d ∈ tables_1, d.before a0 Z = true) (ws : List Jvm.Cond) (w_cache : Addr) (hS : SF Z w_cache) (a1 : Addr) (h0 : Heap) (O0 : Ext Z.heap h0) (EA : Exa Z h0 a1 "java/lang/Integer") :
    Con l Z h0 (⟨"com/example/pathwise/pathwise/ExactInteger", "isExact", "(Ljava/lang/Object;)Z"⟩ : MethodName) prog_36_method_15_code 1 (some .boolean) ws ({ frames := 0, cells := 0, slots := 0, locals := 0 } : Room) #[(.ref a1)] (fun v h L => v = some (.int 1) ∧ Fr Z.heap.size L ∧ h = h0) := by
  obtain ⟨S_high, S_cache, C_cache⟩ := id hS
  refine own_con (plainFor_of_name pn_100142) ?_
  intro p e s m below meth c T0 X0 hx hby hml hown hnm hret hlk hZ e0
  have hown : s.vm.findClass "com/example/pathwise/pathwise/ExactInteger" = some m.cls := hown
  have N0 := Fr.nil Z.heap.size
  refine Go.st (S' := T0.setTop (mkF m 0 #[.val (.ref a1)] [])) (fun _ k => castTop (ef_rmExI m a1) k) ?_
  refine Go.st (S' := T0.setTop (mkF m 1 #[.val (.ref a1)] [(.ref a1)])) (fun _ k => XS.aloadN X0.here hx rfl (hb hby d11_0) rfl rfl k) ?_
  obtain ⟨T33, X33, e33, st33⟩ := instY X0 hx hZ hown (ww hw 57 rfl) e0 (Ins.self EA) (g := (mkF m 1 #[.val (.ref a1)] [(.ref a1)])) rfl rfl (hb hby d11_1)
  refine Go.st (S' := T33.setTop (mkF m 4 #[.val (.ref a1)] [(.int (1 : Int32))])) st33 ?_
  refine Go.st (S' := T33.setTop (mkF m 14 #[.val (.ref a1)] [])) (fun _ k => XS.ifYes X33.here hx rfl (pc0 := 4) (pc' := 14) rfl (hb hby d11_4) rfl ((if0 _ _).trans (feq (by decide)).2) (by decide) (by decide) k) ?_
  refine Go.st (S' := T33.setTop (mkF m 15 #[.val (.ref a1)] [(.int (1 : Int32))])) (fun _ k => XS.iconst X33.here hx rfl (hb hby d11_14) k) ?_
  refine Go.st (S' := T33.setTop (mkF m 19 #[.val (.ref a1)] [(.int (1 : Int32))])) (fun _ k => XS.goto X33.here hx rfl (pc0 := 15) (pc' := 19) rfl (hb hby d11_15) (by decide) (by decide) k) ?_
  exact own_retN X33 hx hlk hret (by simp) (hb hby d11_19) e33 ⟨rfl, N0, rfl⟩ (by decide) (by decide)
theorem d12_0 : decode prog_36_method_17_code 0 = .ok (.aload_n 0, 1) := by decide +kernel
theorem d12_1 : decode prog_36_method_17_code 1 = .ok (.instanceof 60, 3) := by decide +kernel
theorem d12_4 : decode prog_36_method_17_code 4 = .ok (.ifCond .eq 16, 3) := by decide +kernel
theorem d12_20 : decode prog_36_method_17_code 20 = .ok (.aload_n 0, 1) := by decide +kernel
theorem d12_21 : decode prog_36_method_17_code 21 = .ok (.checkcast 8, 3) := by decide +kernel
theorem d12_24 : decode prog_36_method_17_code 24 = .ok (.getfield 7, 3) := by decide +kernel
theorem d12_27 : decode prog_36_method_17_code 27 = .ok (.lreturn, 1) := by decide +kernel
theorem ef_rmVE (m : MethodId) (x0 : Addr) : entryFrame m #[(.ref x0)] 2 = mkF m 0 #[.val (.ref x0), .unset] [] := by first | (simp [entryFrame, mkF, argsToLocals, Value.category]; done) | rfl
set_option maxRecDepth 65536 in
set_option maxHeartbeats 400000000 in
theorem rmVE (l : Launch) (Z : State) (a0 : Array Value) (hw : ∀ d ∈ tables_1, d.before a0 Z = true) (ws : List Jvm.Cond) (w_cache : Addr) (hS : SF Z w_cache) (a1 : Addr) (q : Int64) (h0 : Heap) (O0 : Ext Z.heap h0) (EA : Exa Z h0 a1 "com/example/pathwise/pathwise/ExactInteger") (FV : Fld Z h0 a1 "com/example/pathwise/pathwise/ExactInteger" "value" "J" (.long q)) :
    Con l Z h0 (⟨"com/example/pathwise/pathwise/ExactInteger", "valueOf", "(Ljava/lang/Object;)J"⟩ : MethodName) prog_36_method_17_code 2 (some .long) ws ({ frames := 0, cells := 0, slots := 0, locals := 0 } : Room) #[(.ref a1)] (fun v h L => v = some (.long q) ∧ Fr Z.heap.size L ∧ h = h0) := by
  obtain ⟨S_high, S_cache, C_cache⟩ := id hS
  refine own_con (plainFor_of_name pn_100142) ?_
  intro p e s m below meth c T0 X0 hx hby hml hown hnm hret hlk hZ e0
  have hown : s.vm.findClass "com/example/pathwise/pathwise/ExactInteger" = some m.cls := hown
  have N0 := Fr.nil Z.heap.size
  refine Go.st (S' := T0.setTop (mkF m 0 #[.val (.ref a1), .unset] [])) (fun _ k => castTop (ef_rmVE m a1) k) ?_
  refine Go.st (S' := T0.setTop (mkF m 1 #[.val (.ref a1), .unset] [(.ref a1)])) (fun _ k => XS.aloadN X0.here hx rfl (hb hby d12_0) rfl rfl k) ?_
  obtain ⟨T35, X35, e35, st35⟩ := instNo X0 hx hZ hown (ww hw 57 rfl) e0 EA (own_nosub (ww hw 58 rfl) (ww hw 59 rfl) (ww hw 71 rfl) (by decide) (by decide)) (g := (mkF m 1 #[.val (.ref a1), .unset] [(.ref a1)])) rfl rfl (hb hby d12_1)
  refine Go.st (S' := T35.setTop (mkF m 4 #[.val (.ref a1), .unset] [(.int (0 : Int32))])) st35 ?_
  refine Go.st (S' := T35.setTop (mkF m 20 #[.val (.ref a1), .unset] [])) (fun _ k => XS.ifYes X35.here hx rfl (pc0 := 4) (pc' := 20) rfl (hb hby d12_4) rfl ((if0 _ _).trans (teq (by decide)).1) (by decide) (by decide) k) ?_
  refine Go.st (S' := T35.setTop (mkF m 21 #[.val (.ref a1), .unset] [(.ref a1)])) (fun _ k => XS.aloadN X35.here hx rfl (hb hby d12_20) rfl rfl k) ?_
  obtain ⟨T36, X36, e36, st36⟩ := castY X35 hx hZ hown (ww hw 4 rfl) e35 (Ins.self EA) (g := (mkF m 21 #[.val (.ref a1), .unset] [(.ref a1)])) rfl rfl (hb hby d12_21)
  refine Go.st (S' := T36.setTop (mkF m 24 #[.val (.ref a1), .unset] [(.ref a1)])) st36 ?_
  obtain ⟨T37, X37, e37, st37⟩ := getF X36 hx hZ hown (host := "") (Or.inl (ww hw 12 rfl)) Via.refl e36 FV (g := (mkF m 24 #[.val (.ref a1), .unset] [(.ref a1)])) rfl rfl (hb hby d12_24)
  refine Go.st (S' := T37.setTop (mkF m 27 #[.val (.ref a1), .unset] [(.long q)])) st37 ?_
  exact own_retJ X37 hx hlk hret (hb hby d12_27) e37 ⟨rfl, N0, rfl⟩ (by decide) (by decide)
theorem d12_7 : decode prog_36_method_17_code 7 = .ok (.aload_n 0, 1) := by decide +kernel
theorem d12_8 : decode prog_36_method_17_code 8 = .ok (.checkcast 60, 3) := by decide +kernel
theorem d12_11 : decode prog_36_method_17_code 11 = .ok (.astore_n 1, 1) := by decide +kernel
theorem d12_12 : decode prog_36_method_17_code 12 = .ok (.aload_n 1, 1) := by decide +kernel
theorem d12_13 : decode prog_36_method_17_code 13 = .ok (.invokevirtual 66, 3) := by decide +kernel
theorem d12_16 : decode prog_36_method_17_code 16 = .ok (.i2l, 1) := by decide +kernel
theorem d12_17 : decode prog_36_method_17_code 17 = .ok (.goto 10, 3) := by decide +kernel
theorem pd_428473 : parseMethodDescriptor "()I" = some ⟨[], some .int⟩ := by decide +kernel
theorem ef_rmVI (m : MethodId) (x0 : Addr) : entryFrame m #[(.ref x0)] 2 = mkF m 0 #[.val (.ref x0), .unset] [] := by first | (simp [entryFrame, mkF, argsToLocals, Value.category]; done) | rfl
set_option maxRecDepth 65536 in
set_option maxHeartbeats 400000000 in
theorem rmVI (l : Launch) (Z : State) (a0 : Array Value) (hw : ∀ d ∈ tables_1, d.before a0 Z = true) (ws : List Jvm.Cond) (w_cache : Addr) (hS : SF Z w_cache) (a1 : Addr) (x : Int32) (h0 : Heap) (O0 : Ext Z.heap h0) (EA : Exa Z h0 a1 "java/lang/Integer") (FV : Fld Z h0 a1 "java/lang/Integer" "value" "I" (.int x)) :
    Con l Z h0 (⟨"com/example/pathwise/pathwise/ExactInteger", "valueOf", "(Ljava/lang/Object;)J"⟩ : MethodName) prog_36_method_17_code 2 (some .long) ws ({ frames := 1, cells := 0, slots := 0, locals := 12 } : Room) #[(.ref a1)] (fun v h L => v = some (.long (x.toInt64)) ∧ Fr Z.heap.size L ∧ h = h0) := by
  obtain ⟨S_high, S_cache, C_cache⟩ := id hS
  refine own_con (plainFor_of_name pn_100142) ?_
  intro p e s m below meth c T0 X0 hx hby hml hown hnm hret hlk hZ e0
  have hown : s.vm.findClass "com/example/pathwise/pathwise/ExactInteger" = some m.cls := hown
  have N0 := Fr.nil Z.heap.size
  refine Go.st (S' := T0.setTop (mkF m 0 #[.val (.ref a1), .unset] [])) (fun _ k => castTop (ef_rmVI m a1) k) ?_
  refine Go.st (S' := T0.setTop (mkF m 1 #[.val (.ref a1), .unset] [(.ref a1)])) (fun _ k => XS.aloadN X0.here hx rfl (hb hby d12_0) rfl rfl k) ?_
  obtain ⟨T38, X38, e38, st38⟩ := instY X0 hx hZ hown (ww hw 57 rfl) e0 (Ins.self EA) (g := (mkF m 1 #[.val (.ref a1), .unset] [(.ref a1)])) rfl rfl (hb hby d12_1)
  refine Go.st (S' := T38.setTop (mkF m 4 #[.val (.ref a1), .unset] [(.int (1 : Int32))])) st38 ?_
  refine Go.st (S' := T38.setTop (mkF m 7 #[.val (.ref a1), .unset] [])) (fun _ k => XS.ifNo X38.here hx rfl (hb hby d12_4) rfl ((if0 _ _).trans (feq (by decide)).1) k) ?_
  refine Go.st (S' := T38.setTop (mkF m 8 #[.val (.ref a1), .unset] [(.ref a1)])) (fun _ k => XS.aloadN X38.here hx rfl (hb hby d12_7) rfl rfl k) ?_
  obtain ⟨T39, X39, e39, st39⟩ := castY X38 hx hZ hown (ww hw 57 rfl) e38 (Ins.self EA) (g := (mkF m 8 #[.val (.ref a1), .unset] [(.ref a1)])) rfl rfl (hb hby d12_8)
  refine Go.st (S' := T39.setTop (mkF m 11 #[.val (.ref a1), .unset] [(.ref a1)])) st39 ?_
  refine Go.st (S' := T39.setTop (mkF m 12 #[.val (.ref a1), .val (.ref a1)] [])) (fun _ k => XS.astoreN X39.here hx rfl (hb hby d12_11) rfl rfl (l' := #[.val (.ref a1), .val (.ref a1)]) rfl k) ?_
  refine Go.st (S' := T39.setTop (mkF m 13 #[.val (.ref a1), .val (.ref a1)] [(.ref a1)])) (fun _ k => XS.aloadN X39.here hx rfl (hb hby d12_12) rfl rfl k) ?_
  obtain ⟨_, T40, L40, X40, ⟨rfl, Nq40, eq40⟩, st40⟩ := own_callV X39 hx hZ hown (ww hw 63 rfl) (ww hw 44 rfl) (notFace_of_selects (args := #[]) (mvT hZ (ww hw 46 rfl))) (ww hw 46 rfl) (ww hw 45 rfl) (ww hw 36 rfl) (ww hw 47 rfl) (by decide) e39 EA (rmInt l Z a0 hw [] w_cache hS a1 x h0 O0 FV) 0 (by decide) (by decide) (by decide) (by decide) (g := (mkF m 13 #[.val (.ref a1), .val (.ref a1)] [(.ref a1)])) rfl (by rw [hml]; rfl) [] [] rfl (lenOf pd_428473 rfl) rfl (by show 2 * 0 + _ ≤ _; exact Nat.le_of_eq rfl) (hb hby d12_13)
  have N40 := Fr.app N0 Nq40
  refine Go.st (S' := T40.setTop (mkF m 16 #[.val (.ref a1), .val (.ref a1)] [(.int x)])) st40 ?_
  refine Go.st (S' := T40.setTop (mkF m 17 #[.val (.ref a1), .val (.ref a1)] [(.long (x.toInt64))])) (fun _ k => XS.i2l X40.here hx rfl (hb hby d12_16) rfl k) ?_
  refine Go.st (S' := T40.setTop (mkF m 27 #[.val (.ref a1), .val (.ref a1)] [(.long (x.toInt64))])) (fun _ k => XS.goto X40.here hx rfl (pc0 := 17) (pc' := 27) rfl (hb hby d12_17) (by decide) (by decide) k) ?_
  exact own_retJ X40 hx hlk hret (hb hby d12_27) eq40 ⟨rfl, N40, rfl⟩ (by decide) (by decide)
theorem d10_0 : decode prog_36_method_6_code 0 = .ok (.aload_n 2, 1) := by decide +kernel
theorem d10_1 : decode prog_36_method_6_code 1 = .ok (.invokestatic 23, 3) := by decide +kernel
theorem d10_4 : decode prog_36_method_6_code 4 = .ok (.ifCond .eq 28, 3) := by decide +kernel
theorem d10_7 : decode prog_36_method_6_code 7 = .ok (.aload_n 3, 1) := by decide +kernel
theorem d10_8 : decode prog_36_method_6_code 8 = .ok (.invokestatic 23, 3) := by decide +kernel
theorem d10_11 : decode prog_36_method_6_code 11 = .ok (.ifCond .eq 21, 3) := by decide +kernel
theorem d10_14 : decode prog_36_method_6_code 14 = .ok (.aload_n 2, 1) := by decide +kernel
theorem d10_15 : decode prog_36_method_6_code 15 = .ok (.invokestatic 27, 3) := by decide +kernel
theorem d10_18 : decode prog_36_method_6_code 18 = .ok (.aload_n 3, 1) := by decide +kernel
theorem d10_19 : decode prog_36_method_6_code 19 = .ok (.invokestatic 27, 3) := by decide +kernel
theorem d10_22 : decode prog_36_method_6_code 22 = .ok (.lcmp, 1) := by decide +kernel
theorem d10_23 : decode prog_36_method_6_code 23 = .ok (.ifCond .ge 7, 3) := by decide +kernel
theorem d10_26 : decode prog_36_method_6_code 26 = .ok (.iconst 1, 1) := by decide +kernel
theorem d10_27 : decode prog_36_method_6_code 27 = .ok (.goto 4, 3) := by decide +kernel
theorem d10_30 : decode prog_36_method_6_code 30 = .ok (.iconst 0, 1) := by decide +kernel
theorem d10_31 : decode prog_36_method_6_code 31 = .ok (.ireturn, 1) := by decide +kernel
theorem pd_43441 : parseMethodDescriptor "(Ljava/lang/Object;)J" = some ⟨[(.object "java/lang/Object")], some .long⟩ := by decide +kernel
theorem ef_rm_less (m : MethodId) (x2 : Addr) (x3 : Addr) : entryFrame m #[.null, .null, (.ref x2), (.ref x3)] 4 = mkF m 0 #[.val .null, .val .null, .val (.ref x2), .val (.ref x3)] [] := by first | (simp [entryFrame, mkF, argsToLocals, Value.category]; done) | rfl
set_option maxRecDepth 65536 in
set_option maxHeartbeats 400000000 in
theorem rm_less (l : Launch) (Z : State) (a0 : Array Value) (hw : ∀ d ∈ tables_1, d.before a0 Z = true) (ws : List Jvm.Cond) (w_cache : Addr) (hS : SF Z w_cache) (a3 a4 : Addr) (x w : Int32) (h0 : Heap) (O0 : Ext Z.heap h0) (EX : Exa Z h0 a3 "com/example/pathwise/pathwise/ExactInteger") (FX : Fld Z h0 a3 "com/example/pathwise/pathwise/ExactInteger" "value" "J" (.long (x.toInt64))) (EW : Exa Z h0 a4 "java/lang/Integer") (FW : Fld Z h0 a4 "java/lang/Integer" "value" "I" (.int w)) :
    Con l Z h0 (⟨"com/example/pathwise/pathwise/ExactInteger", "less", "(Lcom/example/pathwise/pathwise/Evaluation;Lcom/example/pathwise/pathwise/Operator;Ljava/lang/Object;Ljava/lang/Object;)Z"⟩ : MethodName) prog_36_method_6_code 4 (some .boolean) ws ({ frames := 2, cells := 0, slots := 0, locals := 27 } : Room) #[.null, .null, (.ref a3), (.ref a4)] (fun v h L => v = some (.int (if x.toInt64 < w.toInt64 then 1 else 0)) ∧ Fr Z.heap.size L ∧ h = h0) := by
  obtain ⟨S_high, S_cache, C_cache⟩ := id hS
  refine own_con (plainFor_of_name pn_100142) ?_
  intro p e s m below meth c T0 X0 hx hby hml hown hnm hret hlk hZ e0
  have hown : s.vm.findClass "com/example/pathwise/pathwise/ExactInteger" = some m.cls := hown
  have N0 := Fr.nil Z.heap.size
  refine Go.st (S' := T0.setTop (mkF m 0 #[.val .null, .val .null, .val (.ref a3), .val (.ref a4)] [])) (fun _ k => castTop (ef_rm_less m a3 a4) k) ?_
  refine Go.st (S' := T0.setTop (mkF m 1 #[.val .null, .val .null, .val (.ref a3), .val (.ref a4)] [(.ref a3)])) (fun _ k => XS.aloadN X0.here hx rfl (hb hby d10_0) rfl rfl k) ?_
  obtain ⟨_, T41, L41, X41, ⟨rfl, Nq41, eq41⟩, st41⟩ := own_callS X0 hx hZ hown (ww hw 54 rfl) (ww hw 55 rfl) (ww hw 2 rfl) (ww hw 56 rfl) (by decide) e0 (rmExE l Z a0 hw [] w_cache hS a3 h0 O0 EX) 0 (by decide) (by decide) (by decide) (by decide) (g := (mkF m 1 #[.val .null, .val .null, .val (.ref a3), .val (.ref a4)] [(.ref a3)])) rfl (by rw [hml]; rfl) [(.ref a3)] [] rfl (lenOf pd_43457 rfl) rfl (by show 2 * 0 + _ ≤ _; exact Nat.le_of_eq rfl) (hb hby d10_1)
  have N41 := Fr.app N0 Nq41
  refine Go.st (S' := T41.setTop (mkF m 4 #[.val .null, .val .null, .val (.ref a3), .val (.ref a4)] [(.int (1 : Int32))])) st41 ?_
  refine Go.st (S' := T41.setTop (mkF m 7 #[.val .null, .val .null, .val (.ref a3), .val (.ref a4)] [])) (fun _ k => XS.ifNo X41.here hx rfl (hb hby d10_4) rfl ((if0 _ _).trans (feq (by decide)).1) k) ?_
  refine Go.st (S' := T41.setTop (mkF m 8 #[.val .null, .val .null, .val (.ref a3), .val (.ref a4)] [(.ref a4)])) (fun _ k => XS.aloadN X41.here hx rfl (hb hby d10_7) rfl rfl k) ?_
  obtain ⟨_, T42, L42, X42, ⟨rfl, Nq42, eq42⟩, st42⟩ := own_callS X41 hx hZ hown (ww hw 54 rfl) (ww hw 55 rfl) (ww hw 2 rfl) (ww hw 56 rfl) (by decide) eq41 (rmExI l Z a0 hw [] w_cache hS a4 h0 O0 EW) 0 (by decide) (by decide) (by decide) (by decide) (g := (mkF m 8 #[.val .null, .val .null, .val (.ref a3), .val (.ref a4)] [(.ref a4)])) rfl (by rw [hml]; rfl) [(.ref a4)] [] rfl (lenOf pd_43457 rfl) rfl (by show 2 * 0 + _ ≤ _; exact Nat.le_of_eq rfl) (hb hby d10_8)
  have N42 := Fr.app N41 Nq42
  refine Go.st (S' := T42.setTop (mkF m 11 #[.val .null, .val .null, .val (.ref a3), .val (.ref a4)] [(.int (1 : Int32))])) st42 ?_
  refine Go.st (S' := T42.setTop (mkF m 14 #[.val .null, .val .null, .val (.ref a3), .val (.ref a4)] [])) (fun _ k => XS.ifNo X42.here hx rfl (hb hby d10_11) rfl ((if0 _ _).trans (feq (by decide)).1) k) ?_
  refine Go.st (S' := T42.setTop (mkF m 15 #[.val .null, .val .null, .val (.ref a3), .val (.ref a4)] [(.ref a3)])) (fun _ k => XS.aloadN X42.here hx rfl (hb hby d10_14) rfl rfl k) ?_
  obtain ⟨_, T43, L43, X43, ⟨rfl, Nq43, eq43⟩, st43⟩ := own_callS X42 hx hZ hown (ww hw 60 rfl) (ww hw 61 rfl) (ww hw 2 rfl) (ww hw 62 rfl) (by decide) eq42 (rmVE l Z a0 hw [] w_cache hS a3 (x.toInt64) h0 O0 EX FX) 0 (by decide) (by decide) (by decide) (by decide) (g := (mkF m 15 #[.val .null, .val .null, .val (.ref a3), .val (.ref a4)] [(.ref a3)])) rfl (by rw [hml]; rfl) [(.ref a3)] [] rfl (lenOf pd_43441 rfl) rfl (by show 2 * 0 + _ ≤ _; exact Nat.le_of_eq rfl) (hb hby d10_15)
  have N43 := Fr.app N42 Nq43
  refine Go.st (S' := T43.setTop (mkF m 18 #[.val .null, .val .null, .val (.ref a3), .val (.ref a4)] [(.long (x.toInt64))])) st43 ?_
  refine Go.st (S' := T43.setTop (mkF m 19 #[.val .null, .val .null, .val (.ref a3), .val (.ref a4)] [(.ref a4), (.long (x.toInt64))])) (fun _ k => XS.aloadN X43.here hx rfl (hb hby d10_18) rfl rfl k) ?_
  obtain ⟨_, T44, L44, X44, ⟨rfl, Nq44, eq44⟩, st44⟩ := own_callS X43 hx hZ hown (ww hw 60 rfl) (ww hw 61 rfl) (ww hw 2 rfl) (ww hw 62 rfl) (by decide) eq43 (rmVI l Z a0 hw [] w_cache hS a4 w h0 O0 EW FW) 2 (by decide) (by decide) (by decide) (by decide) (g := (mkF m 19 #[.val .null, .val .null, .val (.ref a3), .val (.ref a4)] [(.ref a4), (.long (x.toInt64))])) rfl (by rw [hml]; rfl) [(.ref a4)] [(.long (x.toInt64))] rfl (lenOf pd_43441 rfl) rfl (by show 2 * 0 + _ ≤ _; exact Nat.le_of_eq rfl) (hb hby d10_19)
  have N44 := Fr.app N43 Nq44
  refine Go.st (S' := T44.setTop (mkF m 22 #[.val .null, .val .null, .val (.ref a3), .val (.ref a4)] [(.long (w.toInt64)), (.long (x.toInt64))])) st44 ?_
  refine Go.st (S' := T44.setTop (mkF m 23 #[.val .null, .val .null, .val (.ref a3), .val (.ref a4)] [(.int (lcmpW (x.toInt64) (w.toInt64)))])) (fun _ k => XS.lcmp X44.here hx rfl (hb hby d10_22) rfl k) ?_
  by_cases hc23 : (x.toInt64) < (w.toInt64)
  · refine Go.st (S' := T44.setTop (mkF m 26 #[.val .null, .val .null, .val (.ref a3), .val (.ref a4)] [])) (fun _ k => XS.ifNo X44.here hx rfl (hb hby d10_23) rfl (own_Llt hc23).2 k) ?_
    refine Go.st (S' := T44.setTop (mkF m 27 #[.val .null, .val .null, .val (.ref a3), .val (.ref a4)] [(.int (1 : Int32))])) (fun _ k => XS.iconst X44.here hx rfl (hb hby d10_26) k) ?_
    refine Go.st (S' := T44.setTop (mkF m 31 #[.val .null, .val .null, .val (.ref a3), .val (.ref a4)] [(.int (1 : Int32))])) (fun _ k => XS.goto X44.here hx rfl (pc0 := 27) (pc' := 31) rfl (hb hby d10_27) (by decide) (by decide) k) ?_
    exact own_retN X44 hx hlk hret (by simp) (hb hby d10_31) eq44 ⟨by simp only [hc23, if_true, if_false]; rfl, N44, rfl⟩ (by decide) (by decide)
  · refine Go.st (S' := T44.setTop (mkF m 30 #[.val .null, .val .null, .val (.ref a3), .val (.ref a4)] [])) (fun _ k => XS.ifYes X44.here hx rfl (pc0 := 23) (pc' := 30) rfl (hb hby d10_23) rfl (own_Lnlt hc23).2 (by decide) (by decide) k) ?_
    refine Go.st (S' := T44.setTop (mkF m 31 #[.val .null, .val .null, .val (.ref a3), .val (.ref a4)] [(.int (0 : Int32))])) (fun _ k => XS.iconst X44.here hx rfl (hb hby d10_30) k) ?_
    exact own_retN X44 hx hlk hret (by simp) (hb hby d10_31) eq44 ⟨by simp only [hc23, if_true, if_false]; rfl, N44, rfl⟩ (by decide) (by decide)
theorem d13_0 : decode prog_36_method_10_code 0 = .ok (.aload_n 2, 1) := by decide +kernel
theorem d13_1 : decode prog_36_method_10_code 1 = .ok (.invokestatic 23, 3) := by decide +kernel
theorem d13_4 : decode prog_36_method_10_code 4 = .ok (.ifCond .eq 28, 3) := by decide +kernel
theorem d13_7 : decode prog_36_method_10_code 7 = .ok (.aload_n 3, 1) := by decide +kernel
theorem d13_8 : decode prog_36_method_10_code 8 = .ok (.invokestatic 23, 3) := by decide +kernel
theorem d13_11 : decode prog_36_method_10_code 11 = .ok (.ifCond .eq 21, 3) := by decide +kernel
theorem d13_14 : decode prog_36_method_10_code 14 = .ok (.aload_n 2, 1) := by decide +kernel
theorem d13_15 : decode prog_36_method_10_code 15 = .ok (.invokestatic 27, 3) := by decide +kernel
theorem d13_18 : decode prog_36_method_10_code 18 = .ok (.aload_n 3, 1) := by decide +kernel
theorem d13_19 : decode prog_36_method_10_code 19 = .ok (.invokestatic 27, 3) := by decide +kernel
theorem d13_22 : decode prog_36_method_10_code 22 = .ok (.lcmp, 1) := by decide +kernel
theorem d13_23 : decode prog_36_method_10_code 23 = .ok (.ifCond .ne 7, 3) := by decide +kernel
theorem d13_26 : decode prog_36_method_10_code 26 = .ok (.iconst 1, 1) := by decide +kernel
theorem d13_27 : decode prog_36_method_10_code 27 = .ok (.goto 4, 3) := by decide +kernel
theorem d13_30 : decode prog_36_method_10_code 30 = .ok (.iconst 0, 1) := by decide +kernel
theorem d13_31 : decode prog_36_method_10_code 31 = .ok (.ireturn, 1) := by decide +kernel
theorem ef_rm_equal (m : MethodId) (x2 : Addr) (x3 : Addr) : entryFrame m #[.null, .null, (.ref x2), (.ref x3)] 4 = mkF m 0 #[.val .null, .val .null, .val (.ref x2), .val (.ref x3)] [] := by first | (simp [entryFrame, mkF, argsToLocals, Value.category]; done) | rfl
set_option maxRecDepth 65536 in
set_option maxHeartbeats 400000000 in
theorem rm_equal (l : Launch) (Z : State) (a0 : Array Value) (hw : ∀ d ∈ tables_1, d.before a0 Z = true) (ws : List Jvm.Cond) (w_cache : Addr) (hS : SF Z w_cache) (a3 a4 : Addr) (x w : Int32) (h0 : Heap) (O0 : Ext Z.heap h0) (EX : Exa Z h0 a3 "com/example/pathwise/pathwise/ExactInteger") (FX : Fld Z h0 a3 "com/example/pathwise/pathwise/ExactInteger" "value" "J" (.long (x.toInt64))) (EW : Exa Z h0 a4 "java/lang/Integer") (FW : Fld Z h0 a4 "java/lang/Integer" "value" "I" (.int w)) :
    Con l Z h0 (⟨"com/example/pathwise/pathwise/ExactInteger", "equal", "(Lcom/example/pathwise/pathwise/Evaluation;Lcom/example/pathwise/pathwise/Operator;Ljava/lang/Object;Ljava/lang/Object;)Z"⟩ : MethodName) prog_36_method_10_code 4 (some .boolean) ws ({ frames := 2, cells := 0, slots := 0, locals := 27 } : Room) #[.null, .null, (.ref a3), (.ref a4)] (fun v h L => v = some (.int (if x.toInt64 = w.toInt64 then 1 else 0)) ∧ Fr Z.heap.size L ∧ h = h0) := by
  obtain ⟨S_high, S_cache, C_cache⟩ := id hS
  refine own_con (plainFor_of_name pn_100142) ?_
  intro p e s m below meth c T0 X0 hx hby hml hown hnm hret hlk hZ e0
  have hown : s.vm.findClass "com/example/pathwise/pathwise/ExactInteger" = some m.cls := hown
  have N0 := Fr.nil Z.heap.size
  refine Go.st (S' := T0.setTop (mkF m 0 #[.val .null, .val .null, .val (.ref a3), .val (.ref a4)] [])) (fun _ k => castTop (ef_rm_equal m a3 a4) k) ?_
  refine Go.st (S' := T0.setTop (mkF m 1 #[.val .null, .val .null, .val (.ref a3), .val (.ref a4)] [(.ref a3)])) (fun _ k => XS.aloadN X0.here hx rfl (hb hby d13_0) rfl rfl k) ?_
  obtain ⟨_, T45, L45, X45, ⟨rfl, Nq45, eq45⟩, st45⟩ := own_callS X0 hx hZ hown (ww hw 54 rfl) (ww hw 55 rfl) (ww hw 2 rfl) (ww hw 56 rfl) (by decide) e0 (rmExE l Z a0 hw [] w_cache hS a3 h0 O0 EX) 0 (by decide) (by decide) (by decide) (by decide) (g := (mkF m 1 #[.val .null, .val .null, .val (.ref a3), .val (.ref a4)] [(.ref a3)])) rfl (by rw [hml]; rfl) [(.ref a3)] [] rfl (lenOf pd_43457 rfl) rfl (by show 2 * 0 + _ ≤ _; exact Nat.le_of_eq rfl) (hb hby d13_1)
  have N45 := Fr.app N0 Nq45
  refine Go.st (S' := T45.setTop (mkF m 4 #[.val .null, .val .null, .val (.ref a3), .val (.ref a4)] [(.int (1 : Int32))])) st45 ?_
  refine Go.st (S' := T45.setTop (mkF m 7 #[.val .null, .val .null, .val (.ref a3), .val (.ref a4)] [])) (fun _ k => XS.ifNo X45.here hx rfl (hb hby d13_4) rfl ((if0 _ _).trans (feq (by decide)).1) k) ?_
  refine Go.st (S' := T45.setTop (mkF m 8 #[.val .null, .val .null, .val (.ref a3), .val (.ref a4)] [(.ref a4)])) (fun _ k => XS.aloadN X45.here hx rfl (hb hby d13_7) rfl rfl k) ?_
  obtain ⟨_, T46, L46, X46, ⟨rfl, Nq46, eq46⟩, st46⟩ := own_callS X45 hx hZ hown (ww hw 54 rfl) (ww hw 55 rfl) (ww hw 2 rfl) (ww hw 56 rfl) (by decide) eq45 (rmExI l Z a0 hw [] w_cache hS a4 h0 O0 EW) 0 (by decide) (by decide) (by decide) (by decide) (g := (mkF m 8 #[.val .null, .val .null, .val (.ref a3), .val (.ref a4)] [(.ref a4)])) rfl (by rw [hml]; rfl) [(.ref a4)] [] rfl (lenOf pd_43457 rfl) rfl (by show 2 * 0 + _ ≤ _; exact Nat.le_of_eq rfl) (hb hby d13_8)
  have N46 := Fr.app N45 Nq46
  refine Go.st (S' := T46.setTop (mkF m 11 #[.val .null, .val .null, .val (.ref a3), .val (.ref a4)] [(.int (1 : Int32))])) st46 ?_
  refine Go.st (S' := T46.setTop (mkF m 14 #[.val .null, .val .null, .val (.ref a3), .val (.ref a4)] [])) (fun _ k => XS.ifNo X46.here hx rfl (hb hby d13_11) rfl ((if0 _ _).trans (feq (by decide)).1) k) ?_
  refine Go.st (S' := T46.setTop (mkF m 15 #[.val .null, .val .null, .val (.ref a3), .val (.ref a4)] [(.ref a3)])) (fun _ k => XS.aloadN X46.here hx rfl (hb hby d13_14) rfl rfl k) ?_
  obtain ⟨_, T47, L47, X47, ⟨rfl, Nq47, eq47⟩, st47⟩ := own_callS X46 hx hZ hown (ww hw 60 rfl) (ww hw 61 rfl) (ww hw 2 rfl) (ww hw 62 rfl) (by decide) eq46 (rmVE l Z a0 hw [] w_cache hS a3 (x.toInt64) h0 O0 EX FX) 0 (by decide) (by decide) (by decide) (by decide) (g := (mkF m 15 #[.val .null, .val .null, .val (.ref a3), .val (.ref a4)] [(.ref a3)])) rfl (by rw [hml]; rfl) [(.ref a3)] [] rfl (lenOf pd_43441 rfl) rfl (by show 2 * 0 + _ ≤ _; exact Nat.le_of_eq rfl) (hb hby d13_15)
  have N47 := Fr.app N46 Nq47
  refine Go.st (S' := T47.setTop (mkF m 18 #[.val .null, .val .null, .val (.ref a3), .val (.ref a4)] [(.long (x.toInt64))])) st47 ?_
  refine Go.st (S' := T47.setTop (mkF m 19 #[.val .null, .val .null, .val (.ref a3), .val (.ref a4)] [(.ref a4), (.long (x.toInt64))])) (fun _ k => XS.aloadN X47.here hx rfl (hb hby d13_18) rfl rfl k) ?_
  obtain ⟨_, T48, L48, X48, ⟨rfl, Nq48, eq48⟩, st48⟩ := own_callS X47 hx hZ hown (ww hw 60 rfl) (ww hw 61 rfl) (ww hw 2 rfl) (ww hw 62 rfl) (by decide) eq47 (rmVI l Z a0 hw [] w_cache hS a4 w h0 O0 EW FW) 2 (by decide) (by decide) (by decide) (by decide) (g := (mkF m 19 #[.val .null, .val .null, .val (.ref a3), .val (.ref a4)] [(.ref a4), (.long (x.toInt64))])) rfl (by rw [hml]; rfl) [(.ref a4)] [(.long (x.toInt64))] rfl (lenOf pd_43441 rfl) rfl (by show 2 * 0 + _ ≤ _; exact Nat.le_of_eq rfl) (hb hby d13_19)
  have N48 := Fr.app N47 Nq48
  refine Go.st (S' := T48.setTop (mkF m 22 #[.val .null, .val .null, .val (.ref a3), .val (.ref a4)] [(.long (w.toInt64)), (.long (x.toInt64))])) st48 ?_
  refine Go.st (S' := T48.setTop (mkF m 23 #[.val .null, .val .null, .val (.ref a3), .val (.ref a4)] [(.int (lcmpW (x.toInt64) (w.toInt64)))])) (fun _ k => XS.lcmp X48.here hx rfl (hb hby d13_22) rfl k) ?_
  by_cases hc23 : (x.toInt64) = (w.toInt64)
  · refine Go.st (S' := T48.setTop (mkF m 26 #[.val .null, .val .null, .val (.ref a3), .val (.ref a4)] [])) (fun _ k => XS.ifNo X48.here hx rfl (hb hby d13_23) rfl (own_Leq hc23).2 k) ?_
    refine Go.st (S' := T48.setTop (mkF m 27 #[.val .null, .val .null, .val (.ref a3), .val (.ref a4)] [(.int (1 : Int32))])) (fun _ k => XS.iconst X48.here hx rfl (hb hby d13_26) k) ?_
    refine Go.st (S' := T48.setTop (mkF m 31 #[.val .null, .val .null, .val (.ref a3), .val (.ref a4)] [(.int (1 : Int32))])) (fun _ k => XS.goto X48.here hx rfl (pc0 := 27) (pc' := 31) rfl (hb hby d13_27) (by decide) (by decide) k) ?_
    exact own_retN X48 hx hlk hret (by simp) (hb hby d13_31) eq48 ⟨by simp only [hc23, if_true, if_false]; rfl, N48, rfl⟩ (by decide) (by decide)
  · refine Go.st (S' := T48.setTop (mkF m 30 #[.val .null, .val .null, .val (.ref a3), .val (.ref a4)] [])) (fun _ k => XS.ifYes X48.here hx rfl (pc0 := 23) (pc' := 30) rfl (hb hby d13_23) rfl (own_Lne hc23).2 (by decide) (by decide) k) ?_
    refine Go.st (S' := T48.setTop (mkF m 31 #[.val .null, .val .null, .val (.ref a3), .val (.ref a4)] [(.int (0 : Int32))])) (fun _ k => XS.iconst X48.here hx rfl (hb hby d13_30) k) ?_
    exact own_retN X48 hx hlk hret (by simp) (hb hby d13_31) eq48 ⟨by simp only [hc23, if_true, if_false]; rfl, N48, rfl⟩ (by decide) (by decide)
theorem d14_0 : decode prog_36_method_8_code 0 = .ok (.aload_n 2, 1) := by decide +kernel
theorem d14_1 : decode prog_36_method_8_code 1 = .ok (.invokestatic 23, 3) := by decide +kernel
theorem d14_4 : decode prog_36_method_8_code 4 = .ok (.ifCond .eq 28, 3) := by decide +kernel
theorem d14_7 : decode prog_36_method_8_code 7 = .ok (.aload_n 3, 1) := by decide +kernel
theorem d14_8 : decode prog_36_method_8_code 8 = .ok (.invokestatic 23, 3) := by decide +kernel
theorem d14_11 : decode prog_36_method_8_code 11 = .ok (.ifCond .eq 21, 3) := by decide +kernel
theorem d14_14 : decode prog_36_method_8_code 14 = .ok (.aload_n 2, 1) := by decide +kernel
theorem d14_15 : decode prog_36_method_8_code 15 = .ok (.invokestatic 27, 3) := by decide +kernel
theorem d14_18 : decode prog_36_method_8_code 18 = .ok (.aload_n 3, 1) := by decide +kernel
theorem d14_19 : decode prog_36_method_8_code 19 = .ok (.invokestatic 27, 3) := by decide +kernel
theorem d14_22 : decode prog_36_method_8_code 22 = .ok (.lcmp, 1) := by decide +kernel
theorem d14_23 : decode prog_36_method_8_code 23 = .ok (.ifCond .le 7, 3) := by decide +kernel
theorem d14_26 : decode prog_36_method_8_code 26 = .ok (.iconst 1, 1) := by decide +kernel
theorem d14_27 : decode prog_36_method_8_code 27 = .ok (.goto 4, 3) := by decide +kernel
theorem d14_30 : decode prog_36_method_8_code 30 = .ok (.iconst 0, 1) := by decide +kernel
theorem d14_31 : decode prog_36_method_8_code 31 = .ok (.ireturn, 1) := by decide +kernel
theorem ef_rm_greater (m : MethodId) (x2 : Addr) (x3 : Addr) : entryFrame m #[.null, .null, (.ref x2), (.ref x3)] 4 = mkF m 0 #[.val .null, .val .null, .val (.ref x2), .val (.ref x3)] [] := by first | (simp [entryFrame, mkF, argsToLocals, Value.category]; done) | rfl
set_option maxRecDepth 65536 in
set_option maxHeartbeats 400000000 in
theorem rm_greater (l : Launch) (Z : State) (a0 : Array Value) (hw : ∀ d ∈ tables_1, d.before a0 Z = true) (ws : List Jvm.Cond) (w_cache : Addr) (hS : SF Z w_cache) (a3 a4 : Addr) (x w : Int32) (h0 : Heap) (O0 : Ext Z.heap h0) (EX : Exa Z h0 a3 "com/example/pathwise/pathwise/ExactInteger") (FX : Fld Z h0 a3 "com/example/pathwise/pathwise/ExactInteger" "value" "J" (.long (x.toInt64))) (EW : Exa Z h0 a4 "java/lang/Integer") (FW : Fld Z h0 a4 "java/lang/Integer" "value" "I" (.int w)) :
    Con l Z h0 (⟨"com/example/pathwise/pathwise/ExactInteger", "greater", "(Lcom/example/pathwise/pathwise/Evaluation;Lcom/example/pathwise/pathwise/Operator;Ljava/lang/Object;Ljava/lang/Object;)Z"⟩ : MethodName) prog_36_method_8_code 4 (some .boolean) ws ({ frames := 2, cells := 0, slots := 0, locals := 27 } : Room) #[.null, .null, (.ref a3), (.ref a4)] (fun v h L => v = some (.int (if w.toInt64 < x.toInt64 then 1 else 0)) ∧ Fr Z.heap.size L ∧ h = h0) := by
  obtain ⟨S_high, S_cache, C_cache⟩ := id hS
  refine own_con (plainFor_of_name pn_100142) ?_
  intro p e s m below meth c T0 X0 hx hby hml hown hnm hret hlk hZ e0
  have hown : s.vm.findClass "com/example/pathwise/pathwise/ExactInteger" = some m.cls := hown
  have N0 := Fr.nil Z.heap.size
  refine Go.st (S' := T0.setTop (mkF m 0 #[.val .null, .val .null, .val (.ref a3), .val (.ref a4)] [])) (fun _ k => castTop (ef_rm_greater m a3 a4) k) ?_
  refine Go.st (S' := T0.setTop (mkF m 1 #[.val .null, .val .null, .val (.ref a3), .val (.ref a4)] [(.ref a3)])) (fun _ k => XS.aloadN X0.here hx rfl (hb hby d14_0) rfl rfl k) ?_
  obtain ⟨_, T49, L49, X49, ⟨rfl, Nq49, eq49⟩, st49⟩ := own_callS X0 hx hZ hown (ww hw 54 rfl) (ww hw 55 rfl) (ww hw 2 rfl) (ww hw 56 rfl) (by decide) e0 (rmExE l Z a0 hw [] w_cache hS a3 h0 O0 EX) 0 (by decide) (by decide) (by decide) (by decide) (g := (mkF m 1 #[.val .null, .val .null, .val (.ref a3), .val (.ref a4)] [(.ref a3)])) rfl (by rw [hml]; rfl) [(.ref a3)] [] rfl (lenOf pd_43457 rfl) rfl (by show 2 * 0 + _ ≤ _; exact Nat.le_of_eq rfl) (hb hby d14_1)
  have N49 := Fr.app N0 Nq49
  refine Go.st (S' := T49.setTop (mkF m 4 #[.val .null, .val .null, .val (.ref a3), .val (.ref a4)] [(.int (1 : Int32))])) st49 ?_
  refine Go.st (S' := T49.setTop (mkF m 7 #[.val .null, .val .null, .val (.ref a3), .val (.ref a4)] [])) (fun _ k => XS.ifNo X49.here hx rfl (hb hby d14_4) rfl ((if0 _ _).trans (feq (by decide)).1) k) ?_
  refine Go.st (S' := T49.setTop (mkF m 8 #[.val .null, .val .null, .val (.ref a3), .val (.ref a4)] [(.ref a4)])) (fun _ k => XS.aloadN X49.here hx rfl (hb hby d14_7) rfl rfl k) ?_
  obtain ⟨_, T50, L50, X50, ⟨rfl, Nq50, eq50⟩, st50⟩ := own_callS X49 hx hZ hown (ww hw 54 rfl) (ww hw 55 rfl) (ww hw 2 rfl) (ww hw 56 rfl) (by decide) eq49 (rmExI l Z a0 hw [] w_cache hS a4 h0 O0 EW) 0 (by decide) (by decide) (by decide) (by decide) (g := (mkF m 8 #[.val .null, .val .null, .val (.ref a3), .val (.ref a4)] [(.ref a4)])) rfl (by rw [hml]; rfl) [(.ref a4)] [] rfl (lenOf pd_43457 rfl) rfl (by show 2 * 0 + _ ≤ _; exact Nat.le_of_eq rfl) (hb hby d14_8)
  have N50 := Fr.app N49 Nq50
  refine Go.st (S' := T50.setTop (mkF m 11 #[.val .null, .val .null, .val (.ref a3), .val (.ref a4)] [(.int (1 : Int32))])) st50 ?_
  refine Go.st (S' := T50.setTop (mkF m 14 #[.val .null, .val .null, .val (.ref a3), .val (.ref a4)] [])) (fun _ k => XS.ifNo X50.here hx rfl (hb hby d14_11) rfl ((if0 _ _).trans (feq (by decide)).1) k) ?_
  refine Go.st (S' := T50.setTop (mkF m 15 #[.val .null, .val .null, .val (.ref a3), .val (.ref a4)] [(.ref a3)])) (fun _ k => XS.aloadN X50.here hx rfl (hb hby d14_14) rfl rfl k) ?_
  obtain ⟨_, T51, L51, X51, ⟨rfl, Nq51, eq51⟩, st51⟩ := own_callS X50 hx hZ hown (ww hw 60 rfl) (ww hw 61 rfl) (ww hw 2 rfl) (ww hw 62 rfl) (by decide) eq50 (rmVE l Z a0 hw [] w_cache hS a3 (x.toInt64) h0 O0 EX FX) 0 (by decide) (by decide) (by decide) (by decide) (g := (mkF m 15 #[.val .null, .val .null, .val (.ref a3), .val (.ref a4)] [(.ref a3)])) rfl (by rw [hml]; rfl) [(.ref a3)] [] rfl (lenOf pd_43441 rfl) rfl (by show 2 * 0 + _ ≤ _; exact Nat.le_of_eq rfl) (hb hby d14_15)
  have N51 := Fr.app N50 Nq51
  refine Go.st (S' := T51.setTop (mkF m 18 #[.val .null, .val .null, .val (.ref a3), .val (.ref a4)] [(.long (x.toInt64))])) st51 ?_
  refine Go.st (S' := T51.setTop (mkF m 19 #[.val .null, .val .null, .val (.ref a3), .val (.ref a4)] [(.ref a4), (.long (x.toInt64))])) (fun _ k => XS.aloadN X51.here hx rfl (hb hby d14_18) rfl rfl k) ?_
  obtain ⟨_, T52, L52, X52, ⟨rfl, Nq52, eq52⟩, st52⟩ := own_callS X51 hx hZ hown (ww hw 60 rfl) (ww hw 61 rfl) (ww hw 2 rfl) (ww hw 62 rfl) (by decide) eq51 (rmVI l Z a0 hw [] w_cache hS a4 w h0 O0 EW FW) 2 (by decide) (by decide) (by decide) (by decide) (g := (mkF m 19 #[.val .null, .val .null, .val (.ref a3), .val (.ref a4)] [(.ref a4), (.long (x.toInt64))])) rfl (by rw [hml]; rfl) [(.ref a4)] [(.long (x.toInt64))] rfl (lenOf pd_43441 rfl) rfl (by show 2 * 0 + _ ≤ _; exact Nat.le_of_eq rfl) (hb hby d14_19)
  have N52 := Fr.app N51 Nq52
  refine Go.st (S' := T52.setTop (mkF m 22 #[.val .null, .val .null, .val (.ref a3), .val (.ref a4)] [(.long (w.toInt64)), (.long (x.toInt64))])) st52 ?_
  refine Go.st (S' := T52.setTop (mkF m 23 #[.val .null, .val .null, .val (.ref a3), .val (.ref a4)] [(.int (lcmpW (x.toInt64) (w.toInt64)))])) (fun _ k => XS.lcmp X52.here hx rfl (hb hby d14_22) rfl k) ?_
  by_cases hc23 : (w.toInt64) < (x.toInt64)
  · refine Go.st (S' := T52.setTop (mkF m 26 #[.val .null, .val .null, .val (.ref a3), .val (.ref a4)] [])) (fun _ k => XS.ifNo X52.here hx rfl (hb hby d14_23) rfl (own_Lgt hc23).2 k) ?_
    refine Go.st (S' := T52.setTop (mkF m 27 #[.val .null, .val .null, .val (.ref a3), .val (.ref a4)] [(.int (1 : Int32))])) (fun _ k => XS.iconst X52.here hx rfl (hb hby d14_26) k) ?_
    refine Go.st (S' := T52.setTop (mkF m 31 #[.val .null, .val .null, .val (.ref a3), .val (.ref a4)] [(.int (1 : Int32))])) (fun _ k => XS.goto X52.here hx rfl (pc0 := 27) (pc' := 31) rfl (hb hby d14_27) (by decide) (by decide) k) ?_
    exact own_retN X52 hx hlk hret (by simp) (hb hby d14_31) eq52 ⟨by simp only [hc23, if_true, if_false]; rfl, N52, rfl⟩ (by decide) (by decide)
  · refine Go.st (S' := T52.setTop (mkF m 30 #[.val .null, .val .null, .val (.ref a3), .val (.ref a4)] [])) (fun _ k => XS.ifYes X52.here hx rfl (pc0 := 23) (pc' := 30) rfl (hb hby d14_23) rfl (own_Lngt hc23).2 (by decide) (by decide) k) ?_
    refine Go.st (S' := T52.setTop (mkF m 31 #[.val .null, .val .null, .val (.ref a3), .val (.ref a4)] [(.int (0 : Int32))])) (fun _ k => XS.iconst X52.here hx rfl (hb hby d14_30) k) ?_
    exact own_retN X52 hx hlk hret (by simp) (hb hby d14_31) eq52 ⟨by simp only [hc23, if_true, if_false]; rfl, N52, rfl⟩ (by decide) (by decide)
theorem own_lt64 (x y : Int32) : (x.toInt64 < y.toInt64) ↔ x < y := by
  rw [Int64.lt_iff_toInt_lt, Int32.lt_iff_toInt_lt, Int32.toInt_toInt64, Int32.toInt_toInt64]
theorem own_eq64 (x y : Int32) : (x.toInt64 = y.toInt64) ↔ x = y := by
  rw [← Int64.toInt_inj, ← Int32.toInt_inj, Int32.toInt_toInt64, Int32.toInt_toInt64]
theorem pd_666516 : parseMethodDescriptor "(I)Ljava/lang/Object;" = some ⟨[.int], some (.object "java/lang/Object")⟩ := by decide +kernel
theorem pd_661995 : parseMethodDescriptor "(Ljava/lang/Object;)Ljava/lang/Object;" = some ⟨[(.object "java/lang/Object")], some (.object "java/lang/Object")⟩ := by decide +kernel
theorem pd_337724 : parseMethodDescriptor "(Lcom/example/pathwise/pathwise/Evaluation;Lcom/example/pathwise/pathwise/Operator;Ljava/lang/Object;Ljava/lang/Object;)Z" = some ⟨[(.object "com/example/pathwise/pathwise/Evaluation"), (.object "com/example/pathwise/pathwise/Operator"), (.object "java/lang/Object"), (.object "java/lang/Object")], some .boolean⟩ := by decide +kernel
theorem pn_331950 : plainName "com/example/pathwise/pathwise/ExactIntegerOfPinLaw" = true := by first | (simp [plainName, overriddenIn]; done) | decide +kernel
theorem ef_rm0 (m : MethodId) (x0 : Int32) (x1 : Int32) (x2 : Int32) : entryFrame m #[(.int x0), (.int x1), (.int x2)] maxLocals = mkF m 0 #[.val (.int x0), .val (.int x1), .val (.int x2), .unset, .unset, .unset, .unset, .unset, .unset, .unset] [] := by first | (simp [entryFrame, mkF, argsToLocals, Value.category, maxLocals]; done) | rfl
set_option maxRecDepth 65536 in
set_option maxHeartbeats 400000000 in
theorem rm0 (l : Launch) (Z : State) (a0 : Array Value) (hw : ∀ d ∈ tables_1, d.before a0 Z = true) (ws : List Jvm.Cond) (w_cache : Addr) (hS : SF Z w_cache) (p1 : Int32) (p2 : Int32) (p3 : Int32) (h0 : Heap) (O0 : Ext Z.heap h0)  :
    Con l Z h0 x code maxLocals ret ws room_1 #[(.int p1), (.int p2), (.int p3)] (fun v h L => v = some (.int 1) ∧ Fr Z.heap.size L) := by
  obtain ⟨S_high, S_cache, C_cache⟩ := id hS
  refine own_con (plainFor_of_name pn_331950) ?_
  intro p e s m below meth c T0 X0 hx hby hml hown hnm hret hlk hZ e0
  have hown : s.vm.findClass "com/example/pathwise/pathwise/ExactIntegerOfPinLaw" = some m.cls := hown
  have N0 := Fr.nil Z.heap.size
  refine Go.st (S' := T0.setTop (mkF m 0 #[.val (.int p1), .val (.int p2), .val (.int p3), .unset, .unset, .unset, .unset, .unset, .unset, .unset] [])) (fun _ k => castTop (ef_rm0 m p1 p2 p3) k) ?_
  refine Go.st (S' := T0.setTop (mkF m 1 #[.val (.int p1), .val (.int p2), .val (.int p3), .unset, .unset, .unset, .unset, .unset, .unset, .unset] [(.int p3)])) (fun _ k => XS.iloadN X0.here hx rfl (hb hby at_0) rfl k) ?_
  refine Go.st (S' := T0.setTop (mkF m 2 #[.val (.int p1), .val (.int p2), .val (.int p3), .unset, .unset, .unset, .unset, .unset, .unset, .unset] [(.int (1 : Int32)), (.int p3)])) (fun _ k => XS.iconst X0.here hx rfl (hb hby at_1) k) ?_
  refine Go.st (S' := T0.setTop (mkF m 3 #[.val (.int p1), .val (.int p2), .val (.int p3), .unset, .unset, .unset, .unset, .unset, .unset, .unset] [(.int (p3 &&& (1 : Int32)))])) (fun _ k => XS.iand X0.here hx rfl (hb hby at_2) rfl k) ?_
  have key : ∀ (cc : Int32), Go p e below (Ret s (fun v h L => v = some (.int 1) ∧ Fr Z.heap.size L) room_1.cells room_1.slots) (T0.setTop (mkF m 11 #[.val (.int p1), .val (.int p2), .val (.int p3), .unset, .unset, .unset, .unset, .unset, .unset, .unset] [(.int cc)])) := by
    intro cc
    refine Go.st (S' := T0.setTop (mkF m 12 #[.val (.int p1), .val (.int p2), .val (.int p3), .val (.int cc), .unset, .unset, .unset, .unset, .unset, .unset] [])) (fun _ k => XS.istoreN X0.here hx rfl (hb hby at_11) rfl (l' := #[.val (.int p1), .val (.int p2), .val (.int p3), .val (.int cc), .unset, .unset, .unset, .unset, .unset, .unset]) rfl k) ?_
    refine Go.st (S' := T0.setTop (mkF m 13 #[.val (.int p1), .val (.int p2), .val (.int p3), .val (.int cc), .unset, .unset, .unset, .unset, .unset, .unset] [(.int p1)])) (fun _ k => XS.iloadN X0.here hx rfl (hb hby at_12) rfl k) ?_
    obtain ⟨_, T53, L53, X53, ⟨⟨b53, rfl, sb53, ex53, fv53, fl53, fr53⟩, Nq53, kp53⟩, st53⟩ := own_callS X0 hx hZ hown (ww hw 0 rfl) (ww hw 1 rfl) (ww hw 2 rfl) (ww hw 3 rfl) (by decide) e0 (rmOf l Z a0 hw [] w_cache hS p1 h0 O0) 0 (by decide) (by decide) (by decide) (by decide) (g := (mkF m 13 #[.val (.int p1), .val (.int p2), .val (.int p3), .val (.int cc), .unset, .unset, .unset, .unset, .unset, .unset] [(.int p1)])) rfl (by rw [hml]; rfl) [(.int p1)] [] rfl (lenOf pd_666516 rfl) rfl (by show 2 * 0 + _ ≤ _; exact Nat.le_of_eq rfl) (hb hby at_13)
    have N53 := Fr.app N0 Nq53
    have O53 : Ext Z.heap T53.heap := own_Ext.keep O0 kp53 all0
    refine Go.st (S' := T53.setTop (mkF m 16 #[.val (.int p1), .val (.int p2), .val (.int p3), .val (.int cc), .unset, .unset, .unset, .unset, .unset, .unset] [(.ref b53)])) st53 ?_
    refine Go.st (S' := T53.setTop (mkF m 18 #[.val (.int p1), .val (.int p2), .val (.int p3), .val (.int cc), .val (.ref b53), .unset, .unset, .unset, .unset, .unset] [])) (fun _ k => XS.astore X53.here hx rfl (hb hby at_16) rfl rfl (l' := #[.val (.int p1), .val (.int p2), .val (.int p3), .val (.int cc), .val (.ref b53), .unset, .unset, .unset, .unset, .unset]) rfl k) ?_
    refine Go.st (S' := T53.setTop (mkF m 20 #[.val (.int p1), .val (.int p2), .val (.int p3), .val (.int cc), .val (.ref b53), .unset, .unset, .unset, .unset, .unset] [(.ref b53)])) (fun _ k => XS.aload X53.here hx rfl (hb hby at_18) rfl rfl k) ?_
    obtain ⟨T54, X54, e54, st54⟩ := instY X53 hx hZ hown (ww hw 18 rfl) rfl (Ins.self ex53) (g := (mkF m 20 #[.val (.int p1), .val (.int p2), .val (.int p3), .val (.int cc), .val (.ref b53), .unset, .unset, .unset, .unset, .unset] [(.ref b53)])) rfl rfl (hb hby at_20)
    refine Go.st (S' := T54.setTop (mkF m 23 #[.val (.int p1), .val (.int p2), .val (.int p3), .val (.int cc), .val (.ref b53), .unset, .unset, .unset, .unset, .unset] [(.int (1 : Int32))])) st54 ?_
    refine Go.st (S' := T54.setTop (mkF m 28 #[.val (.int p1), .val (.int p2), .val (.int p3), .val (.int cc), .val (.ref b53), .unset, .unset, .unset, .unset, .unset] [])) (fun _ k => XS.ifYes X54.here hx rfl (pc0 := 23) (pc' := 28) rfl (hb hby at_23) rfl ((if0 _ _).trans (feq (by decide)).2) (by decide) (by decide) k) ?_
    refine Go.st (S' := T54.setTop (mkF m 30 #[.val (.int p1), .val (.int p2), .val (.int p3), .val (.int cc), .val (.ref b53), .unset, .unset, .unset, .unset, .unset] [(.ref b53)])) (fun _ k => XS.aload X54.here hx rfl (hb hby at_28) rfl rfl k) ?_
    obtain ⟨_, T55, L55, X55, ⟨⟨w55, rfl, ex55, fv55⟩, Nq55, kp55⟩, st55⟩ := own_callS X54 hx hZ hown (ww hw 20 rfl) (ww hw 21 rfl) (ww hw 2 rfl) (ww hw 22 rfl) (by decide) e54 (rmPl l Z a0 hw [] w_cache hS b53 p1 T53.heap O53 ex53 fv53 fl53 fr53) 0 (by decide) (by decide) (by decide) (by decide) (g := (mkF m 30 #[.val (.int p1), .val (.int p2), .val (.int p3), .val (.int cc), .val (.ref b53), .unset, .unset, .unset, .unset, .unset] [(.ref b53)])) rfl (by rw [hml]; rfl) [(.ref b53)] [] rfl (lenOf pd_661995 rfl) rfl (by show 2 * 0 + _ ≤ _; exact Nat.le_of_eq rfl) (hb hby at_30)
    have N55 := Fr.app N53 Nq55
    have O55 : Ext Z.heap T55.heap := own_Ext.keep O53 kp55 all0
    refine Go.st (S' := T55.setTop (mkF m 33 #[.val (.int p1), .val (.int p2), .val (.int p3), .val (.int cc), .val (.ref b53), .unset, .unset, .unset, .unset, .unset] [(.ref w55)])) st55 ?_
    refine Go.st (S' := T55.setTop (mkF m 35 #[.val (.int p1), .val (.int p2), .val (.int p3), .val (.int cc), .val (.ref b53), .val (.ref w55), .unset, .unset, .unset, .unset] [])) (fun _ k => XS.astore X55.here hx rfl (hb hby at_33) rfl rfl (l' := #[.val (.int p1), .val (.int p2), .val (.int p3), .val (.int cc), .val (.ref b53), .val (.ref w55), .unset, .unset, .unset, .unset]) rfl k) ?_
    refine Go.st (S' := T55.setTop (mkF m 37 #[.val (.int p1), .val (.int p2), .val (.int p3), .val (.int cc), .val (.ref b53), .val (.ref w55), .unset, .unset, .unset, .unset] [(.ref w55)])) (fun _ k => XS.aload X55.here hx rfl (hb hby at_35) rfl rfl k) ?_
    obtain ⟨T56, X56, e56, st56⟩ := instY X55 hx hZ hown (ww hw 41 rfl) rfl (Ins.self ex55) (g := (mkF m 37 #[.val (.int p1), .val (.int p2), .val (.int p3), .val (.int cc), .val (.ref b53), .val (.ref w55), .unset, .unset, .unset, .unset] [(.ref w55)])) rfl rfl (hb hby at_37)
    refine Go.st (S' := T56.setTop (mkF m 40 #[.val (.int p1), .val (.int p2), .val (.int p3), .val (.int cc), .val (.ref b53), .val (.ref w55), .unset, .unset, .unset, .unset] [(.int (1 : Int32))])) st56 ?_
    refine Go.st (S' := T56.setTop (mkF m 45 #[.val (.int p1), .val (.int p2), .val (.int p3), .val (.int cc), .val (.ref b53), .val (.ref w55), .unset, .unset, .unset, .unset] [])) (fun _ k => XS.ifYes X56.here hx rfl (pc0 := 40) (pc' := 45) rfl (hb hby at_40) rfl ((if0 _ _).trans (feq (by decide)).2) (by decide) (by decide) k) ?_
    refine Go.st (S' := T56.setTop (mkF m 47 #[.val (.int p1), .val (.int p2), .val (.int p3), .val (.int cc), .val (.ref b53), .val (.ref w55), .unset, .unset, .unset, .unset] [(.ref w55)])) (fun _ k => XS.aload X56.here hx rfl (hb hby at_45) rfl rfl k) ?_
    obtain ⟨T57, X57, e57, st57⟩ := castY X56 hx hZ hown (ww hw 41 rfl) e56 (Ins.self ex55) (g := (mkF m 47 #[.val (.int p1), .val (.int p2), .val (.int p3), .val (.int cc), .val (.ref b53), .val (.ref w55), .unset, .unset, .unset, .unset] [(.ref w55)])) rfl rfl (hb hby at_47)
    refine Go.st (S' := T57.setTop (mkF m 50 #[.val (.int p1), .val (.int p2), .val (.int p3), .val (.int cc), .val (.ref b53), .val (.ref w55), .unset, .unset, .unset, .unset] [(.ref w55)])) st57 ?_
    obtain ⟨_, T58, L58, X58, ⟨rfl, Nq58, eq58⟩, st58⟩ := own_callV X57 hx hZ hown (ww hw 43 rfl) (ww hw 44 rfl) (notFace_of_selects (args := #[]) (mvT hZ (ww hw 46 rfl))) (ww hw 46 rfl) (ww hw 45 rfl) (ww hw 36 rfl) (ww hw 47 rfl) (by decide) e57 ex55 (rmInt l Z a0 hw [] w_cache hS w55 p1 T55.heap O55 fv55) 0 (by decide) (by decide) (by decide) (by decide) (g := (mkF m 50 #[.val (.int p1), .val (.int p2), .val (.int p3), .val (.int cc), .val (.ref b53), .val (.ref w55), .unset, .unset, .unset, .unset] [(.ref w55)])) rfl (by rw [hml]; rfl) [] [] rfl (lenOf pd_428473 rfl) rfl (by show 2 * 0 + _ ≤ _; exact Nat.le_of_eq rfl) (hb hby at_50)
    have N58 := Fr.app N55 Nq58
    refine Go.st (S' := T58.setTop (mkF m 53 #[.val (.int p1), .val (.int p2), .val (.int p3), .val (.int cc), .val (.ref b53), .val (.ref w55), .unset, .unset, .unset, .unset] [(.int p1)])) st58 ?_
    refine Go.st (S' := T58.setTop (mkF m 54 #[.val (.int p1), .val (.int p2), .val (.int p3), .val (.int cc), .val (.ref b53), .val (.ref w55), .unset, .unset, .unset, .unset] [(.int p1), (.int p1)])) (fun _ k => XS.iloadN X58.here hx rfl (hb hby at_53) rfl k) ?_
    refine Go.st (S' := T58.setTop (mkF m 59 #[.val (.int p1), .val (.int p2), .val (.int p3), .val (.int cc), .val (.ref b53), .val (.ref w55), .unset, .unset, .unset, .unset] [])) (fun _ k => XS.icmpYes X58.here hx rfl (pc0 := 54) (pc' := 59) rfl (hb hby at_54) rfl (teq rfl).1 (by decide) (by decide) k) ?_
    refine Go.st (S' := T58.setTop (mkF m 60 #[.val (.int p1), .val (.int p2), .val (.int p3), .val (.int cc), .val (.ref b53), .val (.ref w55), .unset, .unset, .unset, .unset] [(.int cc)])) (fun _ k => XS.iloadN X58.here hx rfl (hb hby at_59) rfl k) ?_
    obtain ⟨_, T59, L59, X59, ⟨⟨w59, rfl, ex59, fv59⟩, Nq59, kp59⟩, st59⟩ := own_callS X58 hx hZ hown (ww hw 50 rfl) (ww hw 35 rfl) (ww hw 36 rfl) (ww hw 37 rfl) (by decide) eq58 (rmVO l Z a0 hw [] w_cache hS cc T55.heap O55) 0 (by decide) (by decide) (by decide) (by decide) (g := (mkF m 60 #[.val (.int p1), .val (.int p2), .val (.int p3), .val (.int cc), .val (.ref b53), .val (.ref w55), .unset, .unset, .unset, .unset] [(.int cc)])) rfl (by rw [hml]; rfl) [(.int cc)] [] rfl (lenOf pd_272272 rfl) rfl (by show 2 * 0 + _ ≤ _; exact Nat.le_of_eq rfl) (hb hby at_60)
    have N59 := Fr.app N58 Nq59
    have O59 : Ext Z.heap T59.heap := own_Ext.keep O55 kp59 all0
    refine Go.st (S' := T59.setTop (mkF m 63 #[.val (.int p1), .val (.int p2), .val (.int p3), .val (.int cc), .val (.ref b53), .val (.ref w55), .unset, .unset, .unset, .unset] [(.ref w59)])) st59 ?_
    refine Go.st (S' := T59.setTop (mkF m 65 #[.val (.int p1), .val (.int p2), .val (.int p3), .val (.int cc), .val (.ref b53), .val (.ref w55), .val (.ref w59), .unset, .unset, .unset] [])) (fun _ k => XS.astore X59.here hx rfl (hb hby at_63) rfl rfl (l' := #[.val (.int p1), .val (.int p2), .val (.int p3), .val (.int cc), .val (.ref b53), .val (.ref w55), .val (.ref w59), .unset, .unset, .unset]) rfl k) ?_
    refine Go.st (S' := T59.setTop (mkF m 66 #[.val (.int p1), .val (.int p2), .val (.int p3), .val (.int cc), .val (.ref b53), .val (.ref w55), .val (.ref w59), .unset, .unset, .unset] [.null])) (fun _ k => XS.aconstNull X59.here hx rfl (hb hby at_65) k) ?_
    refine Go.st (S' := T59.setTop (mkF m 67 #[.val (.int p1), .val (.int p2), .val (.int p3), .val (.int cc), .val (.ref b53), .val (.ref w55), .val (.ref w59), .unset, .unset, .unset] [.null, .null])) (fun _ k => XS.aconstNull X59.here hx rfl (hb hby at_66) k) ?_
    refine Go.st (S' := T59.setTop (mkF m 69 #[.val (.int p1), .val (.int p2), .val (.int p3), .val (.int cc), .val (.ref b53), .val (.ref w55), .val (.ref w59), .unset, .unset, .unset] [(.ref b53), .null, .null])) (fun _ k => XS.aload X59.here hx rfl (hb hby at_67) rfl rfl k) ?_
    refine Go.st (S' := T59.setTop (mkF m 71 #[.val (.int p1), .val (.int p2), .val (.int p3), .val (.int cc), .val (.ref b53), .val (.ref w55), .val (.ref w59), .unset, .unset, .unset] [(.ref w59), (.ref b53), .null, .null])) (fun _ k => XS.aload X59.here hx rfl (hb hby at_69) rfl rfl k) ?_
    obtain ⟨_, T60, L60, X60, ⟨rfl, Nq60, eq60⟩, st60⟩ := own_callS X59 hx hZ hown (ww hw 51 rfl) (ww hw 52 rfl) (ww hw 2 rfl) (ww hw 53 rfl) (by decide) rfl (rm_less l Z a0 hw [] w_cache hS b53 w59 p1 cc T59.heap O59 ((ex53.keep kp55).keep kp59) ((fv53.keep kp55 nin0).keep kp59 nin0) ex59 fv59) 0 (by decide) (by decide) (by decide) (by decide) (g := (mkF m 71 #[.val (.int p1), .val (.int p2), .val (.int p3), .val (.int cc), .val (.ref b53), .val (.ref w55), .val (.ref w59), .unset, .unset, .unset] [(.ref w59), (.ref b53), .null, .null])) rfl (by rw [hml]; rfl) [.null, .null, (.ref b53), (.ref w59)] [] rfl (lenOf pd_337724 rfl) rfl (by show 2 * 0 + _ ≤ _; exact Nat.le_of_eq rfl) (hb hby at_71)
    have N60 := Fr.app N59 Nq60
    refine Go.st (S' := T60.setTop (mkF m 74 #[.val (.int p1), .val (.int p2), .val (.int p3), .val (.int cc), .val (.ref b53), .val (.ref w55), .val (.ref w59), .unset, .unset, .unset] [(.int (if p1.toInt64 < cc.toInt64 then (1 : Int32) else 0))])) st60 ?_
    refine Go.st (S' := T60.setTop (mkF m 76 #[.val (.int p1), .val (.int p2), .val (.int p3), .val (.int cc), .val (.ref b53), .val (.ref w55), .val (.ref w59), .val (.int (if p1.toInt64 < cc.toInt64 then (1 : Int32) else 0)), .unset, .unset] [])) (fun _ k => XS.istore X60.here hx rfl (hb hby at_74) rfl (l' := #[.val (.int p1), .val (.int p2), .val (.int p3), .val (.int cc), .val (.ref b53), .val (.ref w55), .val (.ref w59), .val (.int (if p1.toInt64 < cc.toInt64 then (1 : Int32) else 0)), .unset, .unset]) rfl k) ?_
    refine Go.st (S' := T60.setTop (mkF m 77 #[.val (.int p1), .val (.int p2), .val (.int p3), .val (.int cc), .val (.ref b53), .val (.ref w55), .val (.ref w59), .val (.int (if p1.toInt64 < cc.toInt64 then (1 : Int32) else 0)), .unset, .unset] [.null])) (fun _ k => XS.aconstNull X60.here hx rfl (hb hby at_76) k) ?_
    refine Go.st (S' := T60.setTop (mkF m 78 #[.val (.int p1), .val (.int p2), .val (.int p3), .val (.int cc), .val (.ref b53), .val (.ref w55), .val (.ref w59), .val (.int (if p1.toInt64 < cc.toInt64 then (1 : Int32) else 0)), .unset, .unset] [.null, .null])) (fun _ k => XS.aconstNull X60.here hx rfl (hb hby at_77) k) ?_
    refine Go.st (S' := T60.setTop (mkF m 80 #[.val (.int p1), .val (.int p2), .val (.int p3), .val (.int cc), .val (.ref b53), .val (.ref w55), .val (.ref w59), .val (.int (if p1.toInt64 < cc.toInt64 then (1 : Int32) else 0)), .unset, .unset] [(.ref b53), .null, .null])) (fun _ k => XS.aload X60.here hx rfl (hb hby at_78) rfl rfl k) ?_
    refine Go.st (S' := T60.setTop (mkF m 82 #[.val (.int p1), .val (.int p2), .val (.int p3), .val (.int cc), .val (.ref b53), .val (.ref w55), .val (.ref w59), .val (.int (if p1.toInt64 < cc.toInt64 then (1 : Int32) else 0)), .unset, .unset] [(.ref w59), (.ref b53), .null, .null])) (fun _ k => XS.aload X60.here hx rfl (hb hby at_80) rfl rfl k) ?_
    obtain ⟨_, T61, L61, X61, ⟨rfl, Nq61, eq61⟩, st61⟩ := own_callS X60 hx hZ hown (ww hw 64 rfl) (ww hw 65 rfl) (ww hw 2 rfl) (ww hw 66 rfl) (by decide) eq60 (rm_equal l Z a0 hw [] w_cache hS b53 w59 p1 cc T59.heap O59 ((ex53.keep kp55).keep kp59) ((fv53.keep kp55 nin0).keep kp59 nin0) ex59 fv59) 0 (by decide) (by decide) (by decide) (by decide) (g := (mkF m 82 #[.val (.int p1), .val (.int p2), .val (.int p3), .val (.int cc), .val (.ref b53), .val (.ref w55), .val (.ref w59), .val (.int (if p1.toInt64 < cc.toInt64 then (1 : Int32) else 0)), .unset, .unset] [(.ref w59), (.ref b53), .null, .null])) rfl (by rw [hml]; rfl) [.null, .null, (.ref b53), (.ref w59)] [] rfl (lenOf pd_337724 rfl) rfl (by show 2 * 0 + _ ≤ _; exact Nat.le_of_eq rfl) (hb hby at_82)
    have N61 := Fr.app N60 Nq61
    refine Go.st (S' := T61.setTop (mkF m 85 #[.val (.int p1), .val (.int p2), .val (.int p3), .val (.int cc), .val (.ref b53), .val (.ref w55), .val (.ref w59), .val (.int (if p1.toInt64 < cc.toInt64 then (1 : Int32) else 0)), .unset, .unset] [(.int (if p1.toInt64 = cc.toInt64 then (1 : Int32) else 0))])) st61 ?_
    refine Go.st (S' := T61.setTop (mkF m 87 #[.val (.int p1), .val (.int p2), .val (.int p3), .val (.int cc), .val (.ref b53), .val (.ref w55), .val (.ref w59), .val (.int (if p1.toInt64 < cc.toInt64 then (1 : Int32) else 0)), .val (.int (if p1.toInt64 = cc.toInt64 then (1 : Int32) else 0)), .unset] [])) (fun _ k => XS.istore X61.here hx rfl (hb hby at_85) rfl (l' := #[.val (.int p1), .val (.int p2), .val (.int p3), .val (.int cc), .val (.ref b53), .val (.ref w55), .val (.ref w59), .val (.int (if p1.toInt64 < cc.toInt64 then (1 : Int32) else 0)), .val (.int (if p1.toInt64 = cc.toInt64 then (1 : Int32) else 0)), .unset]) rfl k) ?_
    refine Go.st (S' := T61.setTop (mkF m 88 #[.val (.int p1), .val (.int p2), .val (.int p3), .val (.int cc), .val (.ref b53), .val (.ref w55), .val (.ref w59), .val (.int (if p1.toInt64 < cc.toInt64 then (1 : Int32) else 0)), .val (.int (if p1.toInt64 = cc.toInt64 then (1 : Int32) else 0)), .unset] [.null])) (fun _ k => XS.aconstNull X61.here hx rfl (hb hby at_87) k) ?_
    refine Go.st (S' := T61.setTop (mkF m 89 #[.val (.int p1), .val (.int p2), .val (.int p3), .val (.int cc), .val (.ref b53), .val (.ref w55), .val (.ref w59), .val (.int (if p1.toInt64 < cc.toInt64 then (1 : Int32) else 0)), .val (.int (if p1.toInt64 = cc.toInt64 then (1 : Int32) else 0)), .unset] [.null, .null])) (fun _ k => XS.aconstNull X61.here hx rfl (hb hby at_88) k) ?_
    refine Go.st (S' := T61.setTop (mkF m 91 #[.val (.int p1), .val (.int p2), .val (.int p3), .val (.int cc), .val (.ref b53), .val (.ref w55), .val (.ref w59), .val (.int (if p1.toInt64 < cc.toInt64 then (1 : Int32) else 0)), .val (.int (if p1.toInt64 = cc.toInt64 then (1 : Int32) else 0)), .unset] [(.ref b53), .null, .null])) (fun _ k => XS.aload X61.here hx rfl (hb hby at_89) rfl rfl k) ?_
    refine Go.st (S' := T61.setTop (mkF m 93 #[.val (.int p1), .val (.int p2), .val (.int p3), .val (.int cc), .val (.ref b53), .val (.ref w55), .val (.ref w59), .val (.int (if p1.toInt64 < cc.toInt64 then (1 : Int32) else 0)), .val (.int (if p1.toInt64 = cc.toInt64 then (1 : Int32) else 0)), .unset] [(.ref w59), (.ref b53), .null, .null])) (fun _ k => XS.aload X61.here hx rfl (hb hby at_91) rfl rfl k) ?_
    obtain ⟨_, T62, L62, X62, ⟨rfl, Nq62, eq62⟩, st62⟩ := own_callS X61 hx hZ hown (ww hw 67 rfl) (ww hw 68 rfl) (ww hw 2 rfl) (ww hw 69 rfl) (by decide) eq61 (rm_greater l Z a0 hw [] w_cache hS b53 w59 p1 cc T59.heap O59 ((ex53.keep kp55).keep kp59) ((fv53.keep kp55 nin0).keep kp59 nin0) ex59 fv59) 0 (by decide) (by decide) (by decide) (by decide) (g := (mkF m 93 #[.val (.int p1), .val (.int p2), .val (.int p3), .val (.int cc), .val (.ref b53), .val (.ref w55), .val (.ref w59), .val (.int (if p1.toInt64 < cc.toInt64 then (1 : Int32) else 0)), .val (.int (if p1.toInt64 = cc.toInt64 then (1 : Int32) else 0)), .unset] [(.ref w59), (.ref b53), .null, .null])) rfl (by rw [hml]; rfl) [.null, .null, (.ref b53), (.ref w59)] [] rfl (lenOf pd_337724 rfl) rfl (by show 2 * 0 + _ ≤ _; exact Nat.le_of_eq rfl) (hb hby at_93)
    have N62 := Fr.app N61 Nq62
    refine Go.st (S' := T62.setTop (mkF m 96 #[.val (.int p1), .val (.int p2), .val (.int p3), .val (.int cc), .val (.ref b53), .val (.ref w55), .val (.ref w59), .val (.int (if p1.toInt64 < cc.toInt64 then (1 : Int32) else 0)), .val (.int (if p1.toInt64 = cc.toInt64 then (1 : Int32) else 0)), .unset] [(.int (if cc.toInt64 < p1.toInt64 then (1 : Int32) else 0))])) st62 ?_
    refine Go.st (S' := T62.setTop (mkF m 98 #[.val (.int p1), .val (.int p2), .val (.int p3), .val (.int cc), .val (.ref b53), .val (.ref w55), .val (.ref w59), .val (.int (if p1.toInt64 < cc.toInt64 then (1 : Int32) else 0)), .val (.int (if p1.toInt64 = cc.toInt64 then (1 : Int32) else 0)), .val (.int (if cc.toInt64 < p1.toInt64 then (1 : Int32) else 0))] [])) (fun _ k => XS.istore X62.here hx rfl (hb hby at_96) rfl (l' := #[.val (.int p1), .val (.int p2), .val (.int p3), .val (.int cc), .val (.ref b53), .val (.ref w55), .val (.ref w59), .val (.int (if p1.toInt64 < cc.toInt64 then (1 : Int32) else 0)), .val (.int (if p1.toInt64 = cc.toInt64 then (1 : Int32) else 0)), .val (.int (if cc.toInt64 < p1.toInt64 then (1 : Int32) else 0))]) rfl k) ?_
    refine Go.st (S' := T62.setTop (mkF m 100 #[.val (.int p1), .val (.int p2), .val (.int p3), .val (.int cc), .val (.ref b53), .val (.ref w55), .val (.ref w59), .val (.int (if p1.toInt64 < cc.toInt64 then (1 : Int32) else 0)), .val (.int (if p1.toInt64 = cc.toInt64 then (1 : Int32) else 0)), .val (.int (if cc.toInt64 < p1.toInt64 then (1 : Int32) else 0))] [(.int (if p1.toInt64 < cc.toInt64 then (1 : Int32) else 0))])) (fun _ k => XS.iload X62.here hx rfl (hb hby at_98) rfl k) ?_
    refine Go.st (S' := T62.setTop (mkF m 101 #[.val (.int p1), .val (.int p2), .val (.int p3), .val (.int cc), .val (.ref b53), .val (.ref w55), .val (.ref w59), .val (.int (if p1.toInt64 < cc.toInt64 then (1 : Int32) else 0)), .val (.int (if p1.toInt64 = cc.toInt64 then (1 : Int32) else 0)), .val (.int (if cc.toInt64 < p1.toInt64 then (1 : Int32) else 0))] [(.int p1), (.int (if p1.toInt64 < cc.toInt64 then (1 : Int32) else 0))])) (fun _ k => XS.iloadN X62.here hx rfl (hb hby at_100) rfl k) ?_
    refine Go.st (S' := T62.setTop (mkF m 102 #[.val (.int p1), .val (.int p2), .val (.int p3), .val (.int cc), .val (.ref b53), .val (.ref w55), .val (.ref w59), .val (.int (if p1.toInt64 < cc.toInt64 then (1 : Int32) else 0)), .val (.int (if p1.toInt64 = cc.toInt64 then (1 : Int32) else 0)), .val (.int (if cc.toInt64 < p1.toInt64 then (1 : Int32) else 0))] [(.int cc), (.int p1), (.int (if p1.toInt64 < cc.toInt64 then (1 : Int32) else 0))])) (fun _ k => XS.iloadN X62.here hx rfl (hb hby at_101) rfl k) ?_
    by_cases hc102 : p1 < cc
    · refine Go.st (S' := T62.setTop (mkF m 105 #[.val (.int p1), .val (.int p2), .val (.int p3), .val (.int cc), .val (.ref b53), .val (.ref w55), .val (.ref w59), .val (.int (if p1.toInt64 < cc.toInt64 then (1 : Int32) else 0)), .val (.int (if p1.toInt64 = cc.toInt64 then (1 : Int32) else 0)), .val (.int (if cc.toInt64 < p1.toInt64 then (1 : Int32) else 0))] [(.int (if p1.toInt64 < cc.toInt64 then (1 : Int32) else 0))])) (fun _ k => XS.icmpNo X62.here hx rfl (hb hby at_102) rfl (tlt hc102).2.1 k) ?_
      refine Go.st (S' := T62.setTop (mkF m 106 #[.val (.int p1), .val (.int p2), .val (.int p3), .val (.int cc), .val (.ref b53), .val (.ref w55), .val (.ref w59), .val (.int (if p1.toInt64 < cc.toInt64 then (1 : Int32) else 0)), .val (.int (if p1.toInt64 = cc.toInt64 then (1 : Int32) else 0)), .val (.int (if cc.toInt64 < p1.toInt64 then (1 : Int32) else 0))] [(.int (1 : Int32)), (.int (if p1.toInt64 < cc.toInt64 then (1 : Int32) else 0))])) (fun _ k => XS.iconst X62.here hx rfl (hb hby at_105) k) ?_
      refine Go.st (S' := T62.setTop (mkF m 110 #[.val (.int p1), .val (.int p2), .val (.int p3), .val (.int cc), .val (.ref b53), .val (.ref w55), .val (.ref w59), .val (.int (if p1.toInt64 < cc.toInt64 then (1 : Int32) else 0)), .val (.int (if p1.toInt64 = cc.toInt64 then (1 : Int32) else 0)), .val (.int (if cc.toInt64 < p1.toInt64 then (1 : Int32) else 0))] [(.int (1 : Int32)), (.int (if p1.toInt64 < cc.toInt64 then (1 : Int32) else 0))])) (fun _ k => XS.goto X62.here hx rfl (pc0 := 106) (pc' := 110) rfl (hb hby at_106) (by decide) (by decide) k) ?_
      refine Go.st (S' := T62.setTop (mkF m 113 #[.val (.int p1), .val (.int p2), .val (.int p3), .val (.int cc), .val (.ref b53), .val (.ref w55), .val (.ref w59), .val (.int (if p1.toInt64 < cc.toInt64 then (1 : Int32) else 0)), .val (.int (if p1.toInt64 = cc.toInt64 then (1 : Int32) else 0)), .val (.int (if cc.toInt64 < p1.toInt64 then (1 : Int32) else 0))] [])) (fun _ k => XS.icmpNo X62.here hx rfl (hb hby at_110) rfl (teq (by simp only [own_lt64, hc102, if_true, if_false])).2 k) ?_
      refine Go.st (S' := T62.setTop (mkF m 115 #[.val (.int p1), .val (.int p2), .val (.int p3), .val (.int cc), .val (.ref b53), .val (.ref w55), .val (.ref w59), .val (.int (if p1.toInt64 < cc.toInt64 then (1 : Int32) else 0)), .val (.int (if p1.toInt64 = cc.toInt64 then (1 : Int32) else 0)), .val (.int (if cc.toInt64 < p1.toInt64 then (1 : Int32) else 0))] [(.int (if p1.toInt64 = cc.toInt64 then (1 : Int32) else 0))])) (fun _ k => XS.iload X62.here hx rfl (hb hby at_113) rfl k) ?_
      refine Go.st (S' := T62.setTop (mkF m 116 #[.val (.int p1), .val (.int p2), .val (.int p3), .val (.int cc), .val (.ref b53), .val (.ref w55), .val (.ref w59), .val (.int (if p1.toInt64 < cc.toInt64 then (1 : Int32) else 0)), .val (.int (if p1.toInt64 = cc.toInt64 then (1 : Int32) else 0)), .val (.int (if cc.toInt64 < p1.toInt64 then (1 : Int32) else 0))] [(.int p1), (.int (if p1.toInt64 = cc.toInt64 then (1 : Int32) else 0))])) (fun _ k => XS.iloadN X62.here hx rfl (hb hby at_115) rfl k) ?_
      refine Go.st (S' := T62.setTop (mkF m 117 #[.val (.int p1), .val (.int p2), .val (.int p3), .val (.int cc), .val (.ref b53), .val (.ref w55), .val (.ref w59), .val (.int (if p1.toInt64 < cc.toInt64 then (1 : Int32) else 0)), .val (.int (if p1.toInt64 = cc.toInt64 then (1 : Int32) else 0)), .val (.int (if cc.toInt64 < p1.toInt64 then (1 : Int32) else 0))] [(.int cc), (.int p1), (.int (if p1.toInt64 = cc.toInt64 then (1 : Int32) else 0))])) (fun _ k => XS.iloadN X62.here hx rfl (hb hby at_116) rfl k) ?_
      by_cases hc117 : p1 = cc
      · refine Go.st (S' := T62.setTop (mkF m 120 #[.val (.int p1), .val (.int p2), .val (.int p3), .val (.int cc), .val (.ref b53), .val (.ref w55), .val (.ref w59), .val (.int (if p1.toInt64 < cc.toInt64 then (1 : Int32) else 0)), .val (.int (if p1.toInt64 = cc.toInt64 then (1 : Int32) else 0)), .val (.int (if cc.toInt64 < p1.toInt64 then (1 : Int32) else 0))] [(.int (if p1.toInt64 = cc.toInt64 then (1 : Int32) else 0))])) (fun _ k => XS.icmpNo X62.here hx rfl (hb hby at_117) rfl (teq hc117).2 k) ?_
        refine Go.st (S' := T62.setTop (mkF m 121 #[.val (.int p1), .val (.int p2), .val (.int p3), .val (.int cc), .val (.ref b53), .val (.ref w55), .val (.ref w59), .val (.int (if p1.toInt64 < cc.toInt64 then (1 : Int32) else 0)), .val (.int (if p1.toInt64 = cc.toInt64 then (1 : Int32) else 0)), .val (.int (if cc.toInt64 < p1.toInt64 then (1 : Int32) else 0))] [(.int (1 : Int32)), (.int (if p1.toInt64 = cc.toInt64 then (1 : Int32) else 0))])) (fun _ k => XS.iconst X62.here hx rfl (hb hby at_120) k) ?_
        refine Go.st (S' := T62.setTop (mkF m 125 #[.val (.int p1), .val (.int p2), .val (.int p3), .val (.int cc), .val (.ref b53), .val (.ref w55), .val (.ref w59), .val (.int (if p1.toInt64 < cc.toInt64 then (1 : Int32) else 0)), .val (.int (if p1.toInt64 = cc.toInt64 then (1 : Int32) else 0)), .val (.int (if cc.toInt64 < p1.toInt64 then (1 : Int32) else 0))] [(.int (1 : Int32)), (.int (if p1.toInt64 = cc.toInt64 then (1 : Int32) else 0))])) (fun _ k => XS.goto X62.here hx rfl (pc0 := 121) (pc' := 125) rfl (hb hby at_121) (by decide) (by decide) k) ?_
        refine Go.st (S' := T62.setTop (mkF m 128 #[.val (.int p1), .val (.int p2), .val (.int p3), .val (.int cc), .val (.ref b53), .val (.ref w55), .val (.ref w59), .val (.int (if p1.toInt64 < cc.toInt64 then (1 : Int32) else 0)), .val (.int (if p1.toInt64 = cc.toInt64 then (1 : Int32) else 0)), .val (.int (if cc.toInt64 < p1.toInt64 then (1 : Int32) else 0))] [])) (fun _ k => XS.icmpNo X62.here hx rfl (hb hby at_125) rfl (teq (by simp only [own_eq64, hc117, if_true, if_false])).2 k) ?_
        refine Go.st (S' := T62.setTop (mkF m 130 #[.val (.int p1), .val (.int p2), .val (.int p3), .val (.int cc), .val (.ref b53), .val (.ref w55), .val (.ref w59), .val (.int (if p1.toInt64 < cc.toInt64 then (1 : Int32) else 0)), .val (.int (if p1.toInt64 = cc.toInt64 then (1 : Int32) else 0)), .val (.int (if cc.toInt64 < p1.toInt64 then (1 : Int32) else 0))] [(.int (if cc.toInt64 < p1.toInt64 then (1 : Int32) else 0))])) (fun _ k => XS.iload X62.here hx rfl (hb hby at_128) rfl k) ?_
        refine Go.st (S' := T62.setTop (mkF m 131 #[.val (.int p1), .val (.int p2), .val (.int p3), .val (.int cc), .val (.ref b53), .val (.ref w55), .val (.ref w59), .val (.int (if p1.toInt64 < cc.toInt64 then (1 : Int32) else 0)), .val (.int (if p1.toInt64 = cc.toInt64 then (1 : Int32) else 0)), .val (.int (if cc.toInt64 < p1.toInt64 then (1 : Int32) else 0))] [(.int p1), (.int (if cc.toInt64 < p1.toInt64 then (1 : Int32) else 0))])) (fun _ k => XS.iloadN X62.here hx rfl (hb hby at_130) rfl k) ?_
        refine Go.st (S' := T62.setTop (mkF m 132 #[.val (.int p1), .val (.int p2), .val (.int p3), .val (.int cc), .val (.ref b53), .val (.ref w55), .val (.ref w59), .val (.int (if p1.toInt64 < cc.toInt64 then (1 : Int32) else 0)), .val (.int (if p1.toInt64 = cc.toInt64 then (1 : Int32) else 0)), .val (.int (if cc.toInt64 < p1.toInt64 then (1 : Int32) else 0))] [(.int cc), (.int p1), (.int (if cc.toInt64 < p1.toInt64 then (1 : Int32) else 0))])) (fun _ k => XS.iloadN X62.here hx rfl (hb hby at_131) rfl k) ?_
        by_cases hc132 : cc < p1
        · refine Go.st (S' := T62.setTop (mkF m 135 #[.val (.int p1), .val (.int p2), .val (.int p3), .val (.int cc), .val (.ref b53), .val (.ref w55), .val (.ref w59), .val (.int (if p1.toInt64 < cc.toInt64 then (1 : Int32) else 0)), .val (.int (if p1.toInt64 = cc.toInt64 then (1 : Int32) else 0)), .val (.int (if cc.toInt64 < p1.toInt64 then (1 : Int32) else 0))] [(.int (if cc.toInt64 < p1.toInt64 then (1 : Int32) else 0))])) (fun _ k => XS.icmpNo X62.here hx rfl (hb hby at_132) rfl (tlt hc132).2.2.2 k) ?_
          refine Go.st (S' := T62.setTop (mkF m 136 #[.val (.int p1), .val (.int p2), .val (.int p3), .val (.int cc), .val (.ref b53), .val (.ref w55), .val (.ref w59), .val (.int (if p1.toInt64 < cc.toInt64 then (1 : Int32) else 0)), .val (.int (if p1.toInt64 = cc.toInt64 then (1 : Int32) else 0)), .val (.int (if cc.toInt64 < p1.toInt64 then (1 : Int32) else 0))] [(.int (1 : Int32)), (.int (if cc.toInt64 < p1.toInt64 then (1 : Int32) else 0))])) (fun _ k => XS.iconst X62.here hx rfl (hb hby at_135) k) ?_
          refine Go.st (S' := T62.setTop (mkF m 140 #[.val (.int p1), .val (.int p2), .val (.int p3), .val (.int cc), .val (.ref b53), .val (.ref w55), .val (.ref w59), .val (.int (if p1.toInt64 < cc.toInt64 then (1 : Int32) else 0)), .val (.int (if p1.toInt64 = cc.toInt64 then (1 : Int32) else 0)), .val (.int (if cc.toInt64 < p1.toInt64 then (1 : Int32) else 0))] [(.int (1 : Int32)), (.int (if cc.toInt64 < p1.toInt64 then (1 : Int32) else 0))])) (fun _ k => XS.goto X62.here hx rfl (pc0 := 136) (pc' := 140) rfl (hb hby at_136) (by decide) (by decide) k) ?_
          refine Go.st (S' := T62.setTop (mkF m 143 #[.val (.int p1), .val (.int p2), .val (.int p3), .val (.int cc), .val (.ref b53), .val (.ref w55), .val (.ref w59), .val (.int (if p1.toInt64 < cc.toInt64 then (1 : Int32) else 0)), .val (.int (if p1.toInt64 = cc.toInt64 then (1 : Int32) else 0)), .val (.int (if cc.toInt64 < p1.toInt64 then (1 : Int32) else 0))] [])) (fun _ k => XS.icmpNo X62.here hx rfl (hb hby at_140) rfl (teq (by simp only [own_lt64, hc132, if_true, if_false])).2 k) ?_
          refine Go.st (S' := T62.setTop (mkF m 144 #[.val (.int p1), .val (.int p2), .val (.int p3), .val (.int cc), .val (.ref b53), .val (.ref w55), .val (.ref w59), .val (.int (if p1.toInt64 < cc.toInt64 then (1 : Int32) else 0)), .val (.int (if p1.toInt64 = cc.toInt64 then (1 : Int32) else 0)), .val (.int (if cc.toInt64 < p1.toInt64 then (1 : Int32) else 0))] [(.int (1 : Int32))])) (fun _ k => XS.iconst X62.here hx rfl (hb hby at_143) k) ?_
          refine Go.st (S' := T62.setTop (mkF m 148 #[.val (.int p1), .val (.int p2), .val (.int p3), .val (.int cc), .val (.ref b53), .val (.ref w55), .val (.ref w59), .val (.int (if p1.toInt64 < cc.toInt64 then (1 : Int32) else 0)), .val (.int (if p1.toInt64 = cc.toInt64 then (1 : Int32) else 0)), .val (.int (if cc.toInt64 < p1.toInt64 then (1 : Int32) else 0))] [(.int (1 : Int32))])) (fun _ k => XS.goto X62.here hx rfl (pc0 := 144) (pc' := 148) rfl (hb hby at_144) (by decide) (by decide) k) ?_
          exact own_retN X62 hx hlk hret (by simp) (hb hby at_148) eq62 ⟨rfl, N62⟩ (by decide) (by decide)
        · refine Go.st (S' := T62.setTop (mkF m 139 #[.val (.int p1), .val (.int p2), .val (.int p3), .val (.int cc), .val (.ref b53), .val (.ref w55), .val (.ref w59), .val (.int (if p1.toInt64 < cc.toInt64 then (1 : Int32) else 0)), .val (.int (if p1.toInt64 = cc.toInt64 then (1 : Int32) else 0)), .val (.int (if cc.toInt64 < p1.toInt64 then (1 : Int32) else 0))] [(.int (if cc.toInt64 < p1.toInt64 then (1 : Int32) else 0))])) (fun _ k => XS.icmpYes X62.here hx rfl (pc0 := 132) (pc' := 139) rfl (hb hby at_132) rfl (flt hc132).2.2.2 (by decide) (by decide) k) ?_
          refine Go.st (S' := T62.setTop (mkF m 140 #[.val (.int p1), .val (.int p2), .val (.int p3), .val (.int cc), .val (.ref b53), .val (.ref w55), .val (.ref w59), .val (.int (if p1.toInt64 < cc.toInt64 then (1 : Int32) else 0)), .val (.int (if p1.toInt64 = cc.toInt64 then (1 : Int32) else 0)), .val (.int (if cc.toInt64 < p1.toInt64 then (1 : Int32) else 0))] [(.int (0 : Int32)), (.int (if cc.toInt64 < p1.toInt64 then (1 : Int32) else 0))])) (fun _ k => XS.iconst X62.here hx rfl (hb hby at_139) k) ?_
          refine Go.st (S' := T62.setTop (mkF m 143 #[.val (.int p1), .val (.int p2), .val (.int p3), .val (.int cc), .val (.ref b53), .val (.ref w55), .val (.ref w59), .val (.int (if p1.toInt64 < cc.toInt64 then (1 : Int32) else 0)), .val (.int (if p1.toInt64 = cc.toInt64 then (1 : Int32) else 0)), .val (.int (if cc.toInt64 < p1.toInt64 then (1 : Int32) else 0))] [])) (fun _ k => XS.icmpNo X62.here hx rfl (hb hby at_140) rfl (teq (by simp only [own_lt64, hc132, if_true, if_false])).2 k) ?_
          refine Go.st (S' := T62.setTop (mkF m 144 #[.val (.int p1), .val (.int p2), .val (.int p3), .val (.int cc), .val (.ref b53), .val (.ref w55), .val (.ref w59), .val (.int (if p1.toInt64 < cc.toInt64 then (1 : Int32) else 0)), .val (.int (if p1.toInt64 = cc.toInt64 then (1 : Int32) else 0)), .val (.int (if cc.toInt64 < p1.toInt64 then (1 : Int32) else 0))] [(.int (1 : Int32))])) (fun _ k => XS.iconst X62.here hx rfl (hb hby at_143) k) ?_
          refine Go.st (S' := T62.setTop (mkF m 148 #[.val (.int p1), .val (.int p2), .val (.int p3), .val (.int cc), .val (.ref b53), .val (.ref w55), .val (.ref w59), .val (.int (if p1.toInt64 < cc.toInt64 then (1 : Int32) else 0)), .val (.int (if p1.toInt64 = cc.toInt64 then (1 : Int32) else 0)), .val (.int (if cc.toInt64 < p1.toInt64 then (1 : Int32) else 0))] [(.int (1 : Int32))])) (fun _ k => XS.goto X62.here hx rfl (pc0 := 144) (pc' := 148) rfl (hb hby at_144) (by decide) (by decide) k) ?_
          exact own_retN X62 hx hlk hret (by simp) (hb hby at_148) eq62 ⟨rfl, N62⟩ (by decide) (by decide)
      · refine Go.st (S' := T62.setTop (mkF m 124 #[.val (.int p1), .val (.int p2), .val (.int p3), .val (.int cc), .val (.ref b53), .val (.ref w55), .val (.ref w59), .val (.int (if p1.toInt64 < cc.toInt64 then (1 : Int32) else 0)), .val (.int (if p1.toInt64 = cc.toInt64 then (1 : Int32) else 0)), .val (.int (if cc.toInt64 < p1.toInt64 then (1 : Int32) else 0))] [(.int (if p1.toInt64 = cc.toInt64 then (1 : Int32) else 0))])) (fun _ k => XS.icmpYes X62.here hx rfl (pc0 := 117) (pc' := 124) rfl (hb hby at_117) rfl (feq hc117).2 (by decide) (by decide) k) ?_
        refine Go.st (S' := T62.setTop (mkF m 125 #[.val (.int p1), .val (.int p2), .val (.int p3), .val (.int cc), .val (.ref b53), .val (.ref w55), .val (.ref w59), .val (.int (if p1.toInt64 < cc.toInt64 then (1 : Int32) else 0)), .val (.int (if p1.toInt64 = cc.toInt64 then (1 : Int32) else 0)), .val (.int (if cc.toInt64 < p1.toInt64 then (1 : Int32) else 0))] [(.int (0 : Int32)), (.int (if p1.toInt64 = cc.toInt64 then (1 : Int32) else 0))])) (fun _ k => XS.iconst X62.here hx rfl (hb hby at_124) k) ?_
        refine Go.st (S' := T62.setTop (mkF m 128 #[.val (.int p1), .val (.int p2), .val (.int p3), .val (.int cc), .val (.ref b53), .val (.ref w55), .val (.ref w59), .val (.int (if p1.toInt64 < cc.toInt64 then (1 : Int32) else 0)), .val (.int (if p1.toInt64 = cc.toInt64 then (1 : Int32) else 0)), .val (.int (if cc.toInt64 < p1.toInt64 then (1 : Int32) else 0))] [])) (fun _ k => XS.icmpNo X62.here hx rfl (hb hby at_125) rfl (teq (by simp only [own_eq64, hc117, if_true, if_false])).2 k) ?_
        refine Go.st (S' := T62.setTop (mkF m 130 #[.val (.int p1), .val (.int p2), .val (.int p3), .val (.int cc), .val (.ref b53), .val (.ref w55), .val (.ref w59), .val (.int (if p1.toInt64 < cc.toInt64 then (1 : Int32) else 0)), .val (.int (if p1.toInt64 = cc.toInt64 then (1 : Int32) else 0)), .val (.int (if cc.toInt64 < p1.toInt64 then (1 : Int32) else 0))] [(.int (if cc.toInt64 < p1.toInt64 then (1 : Int32) else 0))])) (fun _ k => XS.iload X62.here hx rfl (hb hby at_128) rfl k) ?_
        refine Go.st (S' := T62.setTop (mkF m 131 #[.val (.int p1), .val (.int p2), .val (.int p3), .val (.int cc), .val (.ref b53), .val (.ref w55), .val (.ref w59), .val (.int (if p1.toInt64 < cc.toInt64 then (1 : Int32) else 0)), .val (.int (if p1.toInt64 = cc.toInt64 then (1 : Int32) else 0)), .val (.int (if cc.toInt64 < p1.toInt64 then (1 : Int32) else 0))] [(.int p1), (.int (if cc.toInt64 < p1.toInt64 then (1 : Int32) else 0))])) (fun _ k => XS.iloadN X62.here hx rfl (hb hby at_130) rfl k) ?_
        refine Go.st (S' := T62.setTop (mkF m 132 #[.val (.int p1), .val (.int p2), .val (.int p3), .val (.int cc), .val (.ref b53), .val (.ref w55), .val (.ref w59), .val (.int (if p1.toInt64 < cc.toInt64 then (1 : Int32) else 0)), .val (.int (if p1.toInt64 = cc.toInt64 then (1 : Int32) else 0)), .val (.int (if cc.toInt64 < p1.toInt64 then (1 : Int32) else 0))] [(.int cc), (.int p1), (.int (if cc.toInt64 < p1.toInt64 then (1 : Int32) else 0))])) (fun _ k => XS.iloadN X62.here hx rfl (hb hby at_131) rfl k) ?_
        by_cases hc132_1 : cc < p1
        · refine Go.st (S' := T62.setTop (mkF m 135 #[.val (.int p1), .val (.int p2), .val (.int p3), .val (.int cc), .val (.ref b53), .val (.ref w55), .val (.ref w59), .val (.int (if p1.toInt64 < cc.toInt64 then (1 : Int32) else 0)), .val (.int (if p1.toInt64 = cc.toInt64 then (1 : Int32) else 0)), .val (.int (if cc.toInt64 < p1.toInt64 then (1 : Int32) else 0))] [(.int (if cc.toInt64 < p1.toInt64 then (1 : Int32) else 0))])) (fun _ k => XS.icmpNo X62.here hx rfl (hb hby at_132) rfl (tlt hc132_1).2.2.2 k) ?_
          refine Go.st (S' := T62.setTop (mkF m 136 #[.val (.int p1), .val (.int p2), .val (.int p3), .val (.int cc), .val (.ref b53), .val (.ref w55), .val (.ref w59), .val (.int (if p1.toInt64 < cc.toInt64 then (1 : Int32) else 0)), .val (.int (if p1.toInt64 = cc.toInt64 then (1 : Int32) else 0)), .val (.int (if cc.toInt64 < p1.toInt64 then (1 : Int32) else 0))] [(.int (1 : Int32)), (.int (if cc.toInt64 < p1.toInt64 then (1 : Int32) else 0))])) (fun _ k => XS.iconst X62.here hx rfl (hb hby at_135) k) ?_
          refine Go.st (S' := T62.setTop (mkF m 140 #[.val (.int p1), .val (.int p2), .val (.int p3), .val (.int cc), .val (.ref b53), .val (.ref w55), .val (.ref w59), .val (.int (if p1.toInt64 < cc.toInt64 then (1 : Int32) else 0)), .val (.int (if p1.toInt64 = cc.toInt64 then (1 : Int32) else 0)), .val (.int (if cc.toInt64 < p1.toInt64 then (1 : Int32) else 0))] [(.int (1 : Int32)), (.int (if cc.toInt64 < p1.toInt64 then (1 : Int32) else 0))])) (fun _ k => XS.goto X62.here hx rfl (pc0 := 136) (pc' := 140) rfl (hb hby at_136) (by decide) (by decide) k) ?_
          refine Go.st (S' := T62.setTop (mkF m 143 #[.val (.int p1), .val (.int p2), .val (.int p3), .val (.int cc), .val (.ref b53), .val (.ref w55), .val (.ref w59), .val (.int (if p1.toInt64 < cc.toInt64 then (1 : Int32) else 0)), .val (.int (if p1.toInt64 = cc.toInt64 then (1 : Int32) else 0)), .val (.int (if cc.toInt64 < p1.toInt64 then (1 : Int32) else 0))] [])) (fun _ k => XS.icmpNo X62.here hx rfl (hb hby at_140) rfl (teq (by simp only [own_lt64, hc132_1, if_true, if_false])).2 k) ?_
          refine Go.st (S' := T62.setTop (mkF m 144 #[.val (.int p1), .val (.int p2), .val (.int p3), .val (.int cc), .val (.ref b53), .val (.ref w55), .val (.ref w59), .val (.int (if p1.toInt64 < cc.toInt64 then (1 : Int32) else 0)), .val (.int (if p1.toInt64 = cc.toInt64 then (1 : Int32) else 0)), .val (.int (if cc.toInt64 < p1.toInt64 then (1 : Int32) else 0))] [(.int (1 : Int32))])) (fun _ k => XS.iconst X62.here hx rfl (hb hby at_143) k) ?_
          refine Go.st (S' := T62.setTop (mkF m 148 #[.val (.int p1), .val (.int p2), .val (.int p3), .val (.int cc), .val (.ref b53), .val (.ref w55), .val (.ref w59), .val (.int (if p1.toInt64 < cc.toInt64 then (1 : Int32) else 0)), .val (.int (if p1.toInt64 = cc.toInt64 then (1 : Int32) else 0)), .val (.int (if cc.toInt64 < p1.toInt64 then (1 : Int32) else 0))] [(.int (1 : Int32))])) (fun _ k => XS.goto X62.here hx rfl (pc0 := 144) (pc' := 148) rfl (hb hby at_144) (by decide) (by decide) k) ?_
          exact own_retN X62 hx hlk hret (by simp) (hb hby at_148) eq62 ⟨rfl, N62⟩ (by decide) (by decide)
        · refine Go.st (S' := T62.setTop (mkF m 139 #[.val (.int p1), .val (.int p2), .val (.int p3), .val (.int cc), .val (.ref b53), .val (.ref w55), .val (.ref w59), .val (.int (if p1.toInt64 < cc.toInt64 then (1 : Int32) else 0)), .val (.int (if p1.toInt64 = cc.toInt64 then (1 : Int32) else 0)), .val (.int (if cc.toInt64 < p1.toInt64 then (1 : Int32) else 0))] [(.int (if cc.toInt64 < p1.toInt64 then (1 : Int32) else 0))])) (fun _ k => XS.icmpYes X62.here hx rfl (pc0 := 132) (pc' := 139) rfl (hb hby at_132) rfl (flt hc132_1).2.2.2 (by decide) (by decide) k) ?_
          refine Go.st (S' := T62.setTop (mkF m 140 #[.val (.int p1), .val (.int p2), .val (.int p3), .val (.int cc), .val (.ref b53), .val (.ref w55), .val (.ref w59), .val (.int (if p1.toInt64 < cc.toInt64 then (1 : Int32) else 0)), .val (.int (if p1.toInt64 = cc.toInt64 then (1 : Int32) else 0)), .val (.int (if cc.toInt64 < p1.toInt64 then (1 : Int32) else 0))] [(.int (0 : Int32)), (.int (if cc.toInt64 < p1.toInt64 then (1 : Int32) else 0))])) (fun _ k => XS.iconst X62.here hx rfl (hb hby at_139) k) ?_
          refine Go.st (S' := T62.setTop (mkF m 143 #[.val (.int p1), .val (.int p2), .val (.int p3), .val (.int cc), .val (.ref b53), .val (.ref w55), .val (.ref w59), .val (.int (if p1.toInt64 < cc.toInt64 then (1 : Int32) else 0)), .val (.int (if p1.toInt64 = cc.toInt64 then (1 : Int32) else 0)), .val (.int (if cc.toInt64 < p1.toInt64 then (1 : Int32) else 0))] [])) (fun _ k => XS.icmpNo X62.here hx rfl (hb hby at_140) rfl (teq (by simp only [own_lt64, hc132_1, if_true, if_false])).2 k) ?_
          refine Go.st (S' := T62.setTop (mkF m 144 #[.val (.int p1), .val (.int p2), .val (.int p3), .val (.int cc), .val (.ref b53), .val (.ref w55), .val (.ref w59), .val (.int (if p1.toInt64 < cc.toInt64 then (1 : Int32) else 0)), .val (.int (if p1.toInt64 = cc.toInt64 then (1 : Int32) else 0)), .val (.int (if cc.toInt64 < p1.toInt64 then (1 : Int32) else 0))] [(.int (1 : Int32))])) (fun _ k => XS.iconst X62.here hx rfl (hb hby at_143) k) ?_
          refine Go.st (S' := T62.setTop (mkF m 148 #[.val (.int p1), .val (.int p2), .val (.int p3), .val (.int cc), .val (.ref b53), .val (.ref w55), .val (.ref w59), .val (.int (if p1.toInt64 < cc.toInt64 then (1 : Int32) else 0)), .val (.int (if p1.toInt64 = cc.toInt64 then (1 : Int32) else 0)), .val (.int (if cc.toInt64 < p1.toInt64 then (1 : Int32) else 0))] [(.int (1 : Int32))])) (fun _ k => XS.goto X62.here hx rfl (pc0 := 144) (pc' := 148) rfl (hb hby at_144) (by decide) (by decide) k) ?_
          exact own_retN X62 hx hlk hret (by simp) (hb hby at_148) eq62 ⟨rfl, N62⟩ (by decide) (by decide)
    · refine Go.st (S' := T62.setTop (mkF m 109 #[.val (.int p1), .val (.int p2), .val (.int p3), .val (.int cc), .val (.ref b53), .val (.ref w55), .val (.ref w59), .val (.int (if p1.toInt64 < cc.toInt64 then (1 : Int32) else 0)), .val (.int (if p1.toInt64 = cc.toInt64 then (1 : Int32) else 0)), .val (.int (if cc.toInt64 < p1.toInt64 then (1 : Int32) else 0))] [(.int (if p1.toInt64 < cc.toInt64 then (1 : Int32) else 0))])) (fun _ k => XS.icmpYes X62.here hx rfl (pc0 := 102) (pc' := 109) rfl (hb hby at_102) rfl (flt hc102).2.1 (by decide) (by decide) k) ?_
      refine Go.st (S' := T62.setTop (mkF m 110 #[.val (.int p1), .val (.int p2), .val (.int p3), .val (.int cc), .val (.ref b53), .val (.ref w55), .val (.ref w59), .val (.int (if p1.toInt64 < cc.toInt64 then (1 : Int32) else 0)), .val (.int (if p1.toInt64 = cc.toInt64 then (1 : Int32) else 0)), .val (.int (if cc.toInt64 < p1.toInt64 then (1 : Int32) else 0))] [(.int (0 : Int32)), (.int (if p1.toInt64 < cc.toInt64 then (1 : Int32) else 0))])) (fun _ k => XS.iconst X62.here hx rfl (hb hby at_109) k) ?_
      refine Go.st (S' := T62.setTop (mkF m 113 #[.val (.int p1), .val (.int p2), .val (.int p3), .val (.int cc), .val (.ref b53), .val (.ref w55), .val (.ref w59), .val (.int (if p1.toInt64 < cc.toInt64 then (1 : Int32) else 0)), .val (.int (if p1.toInt64 = cc.toInt64 then (1 : Int32) else 0)), .val (.int (if cc.toInt64 < p1.toInt64 then (1 : Int32) else 0))] [])) (fun _ k => XS.icmpNo X62.here hx rfl (hb hby at_110) rfl (teq (by simp only [own_lt64, hc102, if_true, if_false])).2 k) ?_
      refine Go.st (S' := T62.setTop (mkF m 115 #[.val (.int p1), .val (.int p2), .val (.int p3), .val (.int cc), .val (.ref b53), .val (.ref w55), .val (.ref w59), .val (.int (if p1.toInt64 < cc.toInt64 then (1 : Int32) else 0)), .val (.int (if p1.toInt64 = cc.toInt64 then (1 : Int32) else 0)), .val (.int (if cc.toInt64 < p1.toInt64 then (1 : Int32) else 0))] [(.int (if p1.toInt64 = cc.toInt64 then (1 : Int32) else 0))])) (fun _ k => XS.iload X62.here hx rfl (hb hby at_113) rfl k) ?_
      refine Go.st (S' := T62.setTop (mkF m 116 #[.val (.int p1), .val (.int p2), .val (.int p3), .val (.int cc), .val (.ref b53), .val (.ref w55), .val (.ref w59), .val (.int (if p1.toInt64 < cc.toInt64 then (1 : Int32) else 0)), .val (.int (if p1.toInt64 = cc.toInt64 then (1 : Int32) else 0)), .val (.int (if cc.toInt64 < p1.toInt64 then (1 : Int32) else 0))] [(.int p1), (.int (if p1.toInt64 = cc.toInt64 then (1 : Int32) else 0))])) (fun _ k => XS.iloadN X62.here hx rfl (hb hby at_115) rfl k) ?_
      refine Go.st (S' := T62.setTop (mkF m 117 #[.val (.int p1), .val (.int p2), .val (.int p3), .val (.int cc), .val (.ref b53), .val (.ref w55), .val (.ref w59), .val (.int (if p1.toInt64 < cc.toInt64 then (1 : Int32) else 0)), .val (.int (if p1.toInt64 = cc.toInt64 then (1 : Int32) else 0)), .val (.int (if cc.toInt64 < p1.toInt64 then (1 : Int32) else 0))] [(.int cc), (.int p1), (.int (if p1.toInt64 = cc.toInt64 then (1 : Int32) else 0))])) (fun _ k => XS.iloadN X62.here hx rfl (hb hby at_116) rfl k) ?_
      by_cases hc117_1 : p1 = cc
      · refine Go.st (S' := T62.setTop (mkF m 120 #[.val (.int p1), .val (.int p2), .val (.int p3), .val (.int cc), .val (.ref b53), .val (.ref w55), .val (.ref w59), .val (.int (if p1.toInt64 < cc.toInt64 then (1 : Int32) else 0)), .val (.int (if p1.toInt64 = cc.toInt64 then (1 : Int32) else 0)), .val (.int (if cc.toInt64 < p1.toInt64 then (1 : Int32) else 0))] [(.int (if p1.toInt64 = cc.toInt64 then (1 : Int32) else 0))])) (fun _ k => XS.icmpNo X62.here hx rfl (hb hby at_117) rfl (teq hc117_1).2 k) ?_
        refine Go.st (S' := T62.setTop (mkF m 121 #[.val (.int p1), .val (.int p2), .val (.int p3), .val (.int cc), .val (.ref b53), .val (.ref w55), .val (.ref w59), .val (.int (if p1.toInt64 < cc.toInt64 then (1 : Int32) else 0)), .val (.int (if p1.toInt64 = cc.toInt64 then (1 : Int32) else 0)), .val (.int (if cc.toInt64 < p1.toInt64 then (1 : Int32) else 0))] [(.int (1 : Int32)), (.int (if p1.toInt64 = cc.toInt64 then (1 : Int32) else 0))])) (fun _ k => XS.iconst X62.here hx rfl (hb hby at_120) k) ?_
        refine Go.st (S' := T62.setTop (mkF m 125 #[.val (.int p1), .val (.int p2), .val (.int p3), .val (.int cc), .val (.ref b53), .val (.ref w55), .val (.ref w59), .val (.int (if p1.toInt64 < cc.toInt64 then (1 : Int32) else 0)), .val (.int (if p1.toInt64 = cc.toInt64 then (1 : Int32) else 0)), .val (.int (if cc.toInt64 < p1.toInt64 then (1 : Int32) else 0))] [(.int (1 : Int32)), (.int (if p1.toInt64 = cc.toInt64 then (1 : Int32) else 0))])) (fun _ k => XS.goto X62.here hx rfl (pc0 := 121) (pc' := 125) rfl (hb hby at_121) (by decide) (by decide) k) ?_
        refine Go.st (S' := T62.setTop (mkF m 128 #[.val (.int p1), .val (.int p2), .val (.int p3), .val (.int cc), .val (.ref b53), .val (.ref w55), .val (.ref w59), .val (.int (if p1.toInt64 < cc.toInt64 then (1 : Int32) else 0)), .val (.int (if p1.toInt64 = cc.toInt64 then (1 : Int32) else 0)), .val (.int (if cc.toInt64 < p1.toInt64 then (1 : Int32) else 0))] [])) (fun _ k => XS.icmpNo X62.here hx rfl (hb hby at_125) rfl (teq (by simp only [own_eq64, hc117_1, if_true, if_false])).2 k) ?_
        refine Go.st (S' := T62.setTop (mkF m 130 #[.val (.int p1), .val (.int p2), .val (.int p3), .val (.int cc), .val (.ref b53), .val (.ref w55), .val (.ref w59), .val (.int (if p1.toInt64 < cc.toInt64 then (1 : Int32) else 0)), .val (.int (if p1.toInt64 = cc.toInt64 then (1 : Int32) else 0)), .val (.int (if cc.toInt64 < p1.toInt64 then (1 : Int32) else 0))] [(.int (if cc.toInt64 < p1.toInt64 then (1 : Int32) else 0))])) (fun _ k => XS.iload X62.here hx rfl (hb hby at_128) rfl k) ?_
        refine Go.st (S' := T62.setTop (mkF m 131 #[.val (.int p1), .val (.int p2), .val (.int p3), .val (.int cc), .val (.ref b53), .val (.ref w55), .val (.ref w59), .val (.int (if p1.toInt64 < cc.toInt64 then (1 : Int32) else 0)), .val (.int (if p1.toInt64 = cc.toInt64 then (1 : Int32) else 0)), .val (.int (if cc.toInt64 < p1.toInt64 then (1 : Int32) else 0))] [(.int p1), (.int (if cc.toInt64 < p1.toInt64 then (1 : Int32) else 0))])) (fun _ k => XS.iloadN X62.here hx rfl (hb hby at_130) rfl k) ?_
        refine Go.st (S' := T62.setTop (mkF m 132 #[.val (.int p1), .val (.int p2), .val (.int p3), .val (.int cc), .val (.ref b53), .val (.ref w55), .val (.ref w59), .val (.int (if p1.toInt64 < cc.toInt64 then (1 : Int32) else 0)), .val (.int (if p1.toInt64 = cc.toInt64 then (1 : Int32) else 0)), .val (.int (if cc.toInt64 < p1.toInt64 then (1 : Int32) else 0))] [(.int cc), (.int p1), (.int (if cc.toInt64 < p1.toInt64 then (1 : Int32) else 0))])) (fun _ k => XS.iloadN X62.here hx rfl (hb hby at_131) rfl k) ?_
        by_cases hc132_2 : cc < p1
        · refine Go.st (S' := T62.setTop (mkF m 135 #[.val (.int p1), .val (.int p2), .val (.int p3), .val (.int cc), .val (.ref b53), .val (.ref w55), .val (.ref w59), .val (.int (if p1.toInt64 < cc.toInt64 then (1 : Int32) else 0)), .val (.int (if p1.toInt64 = cc.toInt64 then (1 : Int32) else 0)), .val (.int (if cc.toInt64 < p1.toInt64 then (1 : Int32) else 0))] [(.int (if cc.toInt64 < p1.toInt64 then (1 : Int32) else 0))])) (fun _ k => XS.icmpNo X62.here hx rfl (hb hby at_132) rfl (tlt hc132_2).2.2.2 k) ?_
          refine Go.st (S' := T62.setTop (mkF m 136 #[.val (.int p1), .val (.int p2), .val (.int p3), .val (.int cc), .val (.ref b53), .val (.ref w55), .val (.ref w59), .val (.int (if p1.toInt64 < cc.toInt64 then (1 : Int32) else 0)), .val (.int (if p1.toInt64 = cc.toInt64 then (1 : Int32) else 0)), .val (.int (if cc.toInt64 < p1.toInt64 then (1 : Int32) else 0))] [(.int (1 : Int32)), (.int (if cc.toInt64 < p1.toInt64 then (1 : Int32) else 0))])) (fun _ k => XS.iconst X62.here hx rfl (hb hby at_135) k) ?_
          refine Go.st (S' := T62.setTop (mkF m 140 #[.val (.int p1), .val (.int p2), .val (.int p3), .val (.int cc), .val (.ref b53), .val (.ref w55), .val (.ref w59), .val (.int (if p1.toInt64 < cc.toInt64 then (1 : Int32) else 0)), .val (.int (if p1.toInt64 = cc.toInt64 then (1 : Int32) else 0)), .val (.int (if cc.toInt64 < p1.toInt64 then (1 : Int32) else 0))] [(.int (1 : Int32)), (.int (if cc.toInt64 < p1.toInt64 then (1 : Int32) else 0))])) (fun _ k => XS.goto X62.here hx rfl (pc0 := 136) (pc' := 140) rfl (hb hby at_136) (by decide) (by decide) k) ?_
          refine Go.st (S' := T62.setTop (mkF m 143 #[.val (.int p1), .val (.int p2), .val (.int p3), .val (.int cc), .val (.ref b53), .val (.ref w55), .val (.ref w59), .val (.int (if p1.toInt64 < cc.toInt64 then (1 : Int32) else 0)), .val (.int (if p1.toInt64 = cc.toInt64 then (1 : Int32) else 0)), .val (.int (if cc.toInt64 < p1.toInt64 then (1 : Int32) else 0))] [])) (fun _ k => XS.icmpNo X62.here hx rfl (hb hby at_140) rfl (teq (by simp only [own_lt64, hc132_2, if_true, if_false])).2 k) ?_
          refine Go.st (S' := T62.setTop (mkF m 144 #[.val (.int p1), .val (.int p2), .val (.int p3), .val (.int cc), .val (.ref b53), .val (.ref w55), .val (.ref w59), .val (.int (if p1.toInt64 < cc.toInt64 then (1 : Int32) else 0)), .val (.int (if p1.toInt64 = cc.toInt64 then (1 : Int32) else 0)), .val (.int (if cc.toInt64 < p1.toInt64 then (1 : Int32) else 0))] [(.int (1 : Int32))])) (fun _ k => XS.iconst X62.here hx rfl (hb hby at_143) k) ?_
          refine Go.st (S' := T62.setTop (mkF m 148 #[.val (.int p1), .val (.int p2), .val (.int p3), .val (.int cc), .val (.ref b53), .val (.ref w55), .val (.ref w59), .val (.int (if p1.toInt64 < cc.toInt64 then (1 : Int32) else 0)), .val (.int (if p1.toInt64 = cc.toInt64 then (1 : Int32) else 0)), .val (.int (if cc.toInt64 < p1.toInt64 then (1 : Int32) else 0))] [(.int (1 : Int32))])) (fun _ k => XS.goto X62.here hx rfl (pc0 := 144) (pc' := 148) rfl (hb hby at_144) (by decide) (by decide) k) ?_
          exact own_retN X62 hx hlk hret (by simp) (hb hby at_148) eq62 ⟨rfl, N62⟩ (by decide) (by decide)
        · refine Go.st (S' := T62.setTop (mkF m 139 #[.val (.int p1), .val (.int p2), .val (.int p3), .val (.int cc), .val (.ref b53), .val (.ref w55), .val (.ref w59), .val (.int (if p1.toInt64 < cc.toInt64 then (1 : Int32) else 0)), .val (.int (if p1.toInt64 = cc.toInt64 then (1 : Int32) else 0)), .val (.int (if cc.toInt64 < p1.toInt64 then (1 : Int32) else 0))] [(.int (if cc.toInt64 < p1.toInt64 then (1 : Int32) else 0))])) (fun _ k => XS.icmpYes X62.here hx rfl (pc0 := 132) (pc' := 139) rfl (hb hby at_132) rfl (flt hc132_2).2.2.2 (by decide) (by decide) k) ?_
          refine Go.st (S' := T62.setTop (mkF m 140 #[.val (.int p1), .val (.int p2), .val (.int p3), .val (.int cc), .val (.ref b53), .val (.ref w55), .val (.ref w59), .val (.int (if p1.toInt64 < cc.toInt64 then (1 : Int32) else 0)), .val (.int (if p1.toInt64 = cc.toInt64 then (1 : Int32) else 0)), .val (.int (if cc.toInt64 < p1.toInt64 then (1 : Int32) else 0))] [(.int (0 : Int32)), (.int (if cc.toInt64 < p1.toInt64 then (1 : Int32) else 0))])) (fun _ k => XS.iconst X62.here hx rfl (hb hby at_139) k) ?_
          refine Go.st (S' := T62.setTop (mkF m 143 #[.val (.int p1), .val (.int p2), .val (.int p3), .val (.int cc), .val (.ref b53), .val (.ref w55), .val (.ref w59), .val (.int (if p1.toInt64 < cc.toInt64 then (1 : Int32) else 0)), .val (.int (if p1.toInt64 = cc.toInt64 then (1 : Int32) else 0)), .val (.int (if cc.toInt64 < p1.toInt64 then (1 : Int32) else 0))] [])) (fun _ k => XS.icmpNo X62.here hx rfl (hb hby at_140) rfl (teq (by simp only [own_lt64, hc132_2, if_true, if_false])).2 k) ?_
          refine Go.st (S' := T62.setTop (mkF m 144 #[.val (.int p1), .val (.int p2), .val (.int p3), .val (.int cc), .val (.ref b53), .val (.ref w55), .val (.ref w59), .val (.int (if p1.toInt64 < cc.toInt64 then (1 : Int32) else 0)), .val (.int (if p1.toInt64 = cc.toInt64 then (1 : Int32) else 0)), .val (.int (if cc.toInt64 < p1.toInt64 then (1 : Int32) else 0))] [(.int (1 : Int32))])) (fun _ k => XS.iconst X62.here hx rfl (hb hby at_143) k) ?_
          refine Go.st (S' := T62.setTop (mkF m 148 #[.val (.int p1), .val (.int p2), .val (.int p3), .val (.int cc), .val (.ref b53), .val (.ref w55), .val (.ref w59), .val (.int (if p1.toInt64 < cc.toInt64 then (1 : Int32) else 0)), .val (.int (if p1.toInt64 = cc.toInt64 then (1 : Int32) else 0)), .val (.int (if cc.toInt64 < p1.toInt64 then (1 : Int32) else 0))] [(.int (1 : Int32))])) (fun _ k => XS.goto X62.here hx rfl (pc0 := 144) (pc' := 148) rfl (hb hby at_144) (by decide) (by decide) k) ?_
          exact own_retN X62 hx hlk hret (by simp) (hb hby at_148) eq62 ⟨rfl, N62⟩ (by decide) (by decide)
      · refine Go.st (S' := T62.setTop (mkF m 124 #[.val (.int p1), .val (.int p2), .val (.int p3), .val (.int cc), .val (.ref b53), .val (.ref w55), .val (.ref w59), .val (.int (if p1.toInt64 < cc.toInt64 then (1 : Int32) else 0)), .val (.int (if p1.toInt64 = cc.toInt64 then (1 : Int32) else 0)), .val (.int (if cc.toInt64 < p1.toInt64 then (1 : Int32) else 0))] [(.int (if p1.toInt64 = cc.toInt64 then (1 : Int32) else 0))])) (fun _ k => XS.icmpYes X62.here hx rfl (pc0 := 117) (pc' := 124) rfl (hb hby at_117) rfl (feq hc117_1).2 (by decide) (by decide) k) ?_
        refine Go.st (S' := T62.setTop (mkF m 125 #[.val (.int p1), .val (.int p2), .val (.int p3), .val (.int cc), .val (.ref b53), .val (.ref w55), .val (.ref w59), .val (.int (if p1.toInt64 < cc.toInt64 then (1 : Int32) else 0)), .val (.int (if p1.toInt64 = cc.toInt64 then (1 : Int32) else 0)), .val (.int (if cc.toInt64 < p1.toInt64 then (1 : Int32) else 0))] [(.int (0 : Int32)), (.int (if p1.toInt64 = cc.toInt64 then (1 : Int32) else 0))])) (fun _ k => XS.iconst X62.here hx rfl (hb hby at_124) k) ?_
        refine Go.st (S' := T62.setTop (mkF m 128 #[.val (.int p1), .val (.int p2), .val (.int p3), .val (.int cc), .val (.ref b53), .val (.ref w55), .val (.ref w59), .val (.int (if p1.toInt64 < cc.toInt64 then (1 : Int32) else 0)), .val (.int (if p1.toInt64 = cc.toInt64 then (1 : Int32) else 0)), .val (.int (if cc.toInt64 < p1.toInt64 then (1 : Int32) else 0))] [])) (fun _ k => XS.icmpNo X62.here hx rfl (hb hby at_125) rfl (teq (by simp only [own_eq64, hc117_1, if_true, if_false])).2 k) ?_
        refine Go.st (S' := T62.setTop (mkF m 130 #[.val (.int p1), .val (.int p2), .val (.int p3), .val (.int cc), .val (.ref b53), .val (.ref w55), .val (.ref w59), .val (.int (if p1.toInt64 < cc.toInt64 then (1 : Int32) else 0)), .val (.int (if p1.toInt64 = cc.toInt64 then (1 : Int32) else 0)), .val (.int (if cc.toInt64 < p1.toInt64 then (1 : Int32) else 0))] [(.int (if cc.toInt64 < p1.toInt64 then (1 : Int32) else 0))])) (fun _ k => XS.iload X62.here hx rfl (hb hby at_128) rfl k) ?_
        refine Go.st (S' := T62.setTop (mkF m 131 #[.val (.int p1), .val (.int p2), .val (.int p3), .val (.int cc), .val (.ref b53), .val (.ref w55), .val (.ref w59), .val (.int (if p1.toInt64 < cc.toInt64 then (1 : Int32) else 0)), .val (.int (if p1.toInt64 = cc.toInt64 then (1 : Int32) else 0)), .val (.int (if cc.toInt64 < p1.toInt64 then (1 : Int32) else 0))] [(.int p1), (.int (if cc.toInt64 < p1.toInt64 then (1 : Int32) else 0))])) (fun _ k => XS.iloadN X62.here hx rfl (hb hby at_130) rfl k) ?_
        refine Go.st (S' := T62.setTop (mkF m 132 #[.val (.int p1), .val (.int p2), .val (.int p3), .val (.int cc), .val (.ref b53), .val (.ref w55), .val (.ref w59), .val (.int (if p1.toInt64 < cc.toInt64 then (1 : Int32) else 0)), .val (.int (if p1.toInt64 = cc.toInt64 then (1 : Int32) else 0)), .val (.int (if cc.toInt64 < p1.toInt64 then (1 : Int32) else 0))] [(.int cc), (.int p1), (.int (if cc.toInt64 < p1.toInt64 then (1 : Int32) else 0))])) (fun _ k => XS.iloadN X62.here hx rfl (hb hby at_131) rfl k) ?_
        by_cases hc132_3 : cc < p1
        · refine Go.st (S' := T62.setTop (mkF m 135 #[.val (.int p1), .val (.int p2), .val (.int p3), .val (.int cc), .val (.ref b53), .val (.ref w55), .val (.ref w59), .val (.int (if p1.toInt64 < cc.toInt64 then (1 : Int32) else 0)), .val (.int (if p1.toInt64 = cc.toInt64 then (1 : Int32) else 0)), .val (.int (if cc.toInt64 < p1.toInt64 then (1 : Int32) else 0))] [(.int (if cc.toInt64 < p1.toInt64 then (1 : Int32) else 0))])) (fun _ k => XS.icmpNo X62.here hx rfl (hb hby at_132) rfl (tlt hc132_3).2.2.2 k) ?_
          refine Go.st (S' := T62.setTop (mkF m 136 #[.val (.int p1), .val (.int p2), .val (.int p3), .val (.int cc), .val (.ref b53), .val (.ref w55), .val (.ref w59), .val (.int (if p1.toInt64 < cc.toInt64 then (1 : Int32) else 0)), .val (.int (if p1.toInt64 = cc.toInt64 then (1 : Int32) else 0)), .val (.int (if cc.toInt64 < p1.toInt64 then (1 : Int32) else 0))] [(.int (1 : Int32)), (.int (if cc.toInt64 < p1.toInt64 then (1 : Int32) else 0))])) (fun _ k => XS.iconst X62.here hx rfl (hb hby at_135) k) ?_
          refine Go.st (S' := T62.setTop (mkF m 140 #[.val (.int p1), .val (.int p2), .val (.int p3), .val (.int cc), .val (.ref b53), .val (.ref w55), .val (.ref w59), .val (.int (if p1.toInt64 < cc.toInt64 then (1 : Int32) else 0)), .val (.int (if p1.toInt64 = cc.toInt64 then (1 : Int32) else 0)), .val (.int (if cc.toInt64 < p1.toInt64 then (1 : Int32) else 0))] [(.int (1 : Int32)), (.int (if cc.toInt64 < p1.toInt64 then (1 : Int32) else 0))])) (fun _ k => XS.goto X62.here hx rfl (pc0 := 136) (pc' := 140) rfl (hb hby at_136) (by decide) (by decide) k) ?_
          refine Go.st (S' := T62.setTop (mkF m 143 #[.val (.int p1), .val (.int p2), .val (.int p3), .val (.int cc), .val (.ref b53), .val (.ref w55), .val (.ref w59), .val (.int (if p1.toInt64 < cc.toInt64 then (1 : Int32) else 0)), .val (.int (if p1.toInt64 = cc.toInt64 then (1 : Int32) else 0)), .val (.int (if cc.toInt64 < p1.toInt64 then (1 : Int32) else 0))] [])) (fun _ k => XS.icmpNo X62.here hx rfl (hb hby at_140) rfl (teq (by simp only [own_lt64, hc132_3, if_true, if_false])).2 k) ?_
          refine Go.st (S' := T62.setTop (mkF m 144 #[.val (.int p1), .val (.int p2), .val (.int p3), .val (.int cc), .val (.ref b53), .val (.ref w55), .val (.ref w59), .val (.int (if p1.toInt64 < cc.toInt64 then (1 : Int32) else 0)), .val (.int (if p1.toInt64 = cc.toInt64 then (1 : Int32) else 0)), .val (.int (if cc.toInt64 < p1.toInt64 then (1 : Int32) else 0))] [(.int (1 : Int32))])) (fun _ k => XS.iconst X62.here hx rfl (hb hby at_143) k) ?_
          refine Go.st (S' := T62.setTop (mkF m 148 #[.val (.int p1), .val (.int p2), .val (.int p3), .val (.int cc), .val (.ref b53), .val (.ref w55), .val (.ref w59), .val (.int (if p1.toInt64 < cc.toInt64 then (1 : Int32) else 0)), .val (.int (if p1.toInt64 = cc.toInt64 then (1 : Int32) else 0)), .val (.int (if cc.toInt64 < p1.toInt64 then (1 : Int32) else 0))] [(.int (1 : Int32))])) (fun _ k => XS.goto X62.here hx rfl (pc0 := 144) (pc' := 148) rfl (hb hby at_144) (by decide) (by decide) k) ?_
          exact own_retN X62 hx hlk hret (by simp) (hb hby at_148) eq62 ⟨rfl, N62⟩ (by decide) (by decide)
        · refine Go.st (S' := T62.setTop (mkF m 139 #[.val (.int p1), .val (.int p2), .val (.int p3), .val (.int cc), .val (.ref b53), .val (.ref w55), .val (.ref w59), .val (.int (if p1.toInt64 < cc.toInt64 then (1 : Int32) else 0)), .val (.int (if p1.toInt64 = cc.toInt64 then (1 : Int32) else 0)), .val (.int (if cc.toInt64 < p1.toInt64 then (1 : Int32) else 0))] [(.int (if cc.toInt64 < p1.toInt64 then (1 : Int32) else 0))])) (fun _ k => XS.icmpYes X62.here hx rfl (pc0 := 132) (pc' := 139) rfl (hb hby at_132) rfl (flt hc132_3).2.2.2 (by decide) (by decide) k) ?_
          refine Go.st (S' := T62.setTop (mkF m 140 #[.val (.int p1), .val (.int p2), .val (.int p3), .val (.int cc), .val (.ref b53), .val (.ref w55), .val (.ref w59), .val (.int (if p1.toInt64 < cc.toInt64 then (1 : Int32) else 0)), .val (.int (if p1.toInt64 = cc.toInt64 then (1 : Int32) else 0)), .val (.int (if cc.toInt64 < p1.toInt64 then (1 : Int32) else 0))] [(.int (0 : Int32)), (.int (if cc.toInt64 < p1.toInt64 then (1 : Int32) else 0))])) (fun _ k => XS.iconst X62.here hx rfl (hb hby at_139) k) ?_
          refine Go.st (S' := T62.setTop (mkF m 143 #[.val (.int p1), .val (.int p2), .val (.int p3), .val (.int cc), .val (.ref b53), .val (.ref w55), .val (.ref w59), .val (.int (if p1.toInt64 < cc.toInt64 then (1 : Int32) else 0)), .val (.int (if p1.toInt64 = cc.toInt64 then (1 : Int32) else 0)), .val (.int (if cc.toInt64 < p1.toInt64 then (1 : Int32) else 0))] [])) (fun _ k => XS.icmpNo X62.here hx rfl (hb hby at_140) rfl (teq (by simp only [own_lt64, hc132_3, if_true, if_false])).2 k) ?_
          refine Go.st (S' := T62.setTop (mkF m 144 #[.val (.int p1), .val (.int p2), .val (.int p3), .val (.int cc), .val (.ref b53), .val (.ref w55), .val (.ref w59), .val (.int (if p1.toInt64 < cc.toInt64 then (1 : Int32) else 0)), .val (.int (if p1.toInt64 = cc.toInt64 then (1 : Int32) else 0)), .val (.int (if cc.toInt64 < p1.toInt64 then (1 : Int32) else 0))] [(.int (1 : Int32))])) (fun _ k => XS.iconst X62.here hx rfl (hb hby at_143) k) ?_
          refine Go.st (S' := T62.setTop (mkF m 148 #[.val (.int p1), .val (.int p2), .val (.int p3), .val (.int cc), .val (.ref b53), .val (.ref w55), .val (.ref w59), .val (.int (if p1.toInt64 < cc.toInt64 then (1 : Int32) else 0)), .val (.int (if p1.toInt64 = cc.toInt64 then (1 : Int32) else 0)), .val (.int (if cc.toInt64 < p1.toInt64 then (1 : Int32) else 0))] [(.int (1 : Int32))])) (fun _ k => XS.goto X62.here hx rfl (pc0 := 144) (pc' := 148) rfl (hb hby at_144) (by decide) (by decide) k) ?_
          exact own_retN X62 hx hlk hret (by simp) (hb hby at_148) eq62 ⟨rfl, N62⟩ (by decide) (by decide)
  by_cases hc3 : (p3 &&& (1 : Int32)) = (0 : Int32)
  · refine Go.st (S' := T0.setTop (mkF m 10 #[.val (.int p1), .val (.int p2), .val (.int p3), .unset, .unset, .unset, .unset, .unset, .unset, .unset] [])) (fun _ k => XS.ifYes X0.here hx rfl (pc0 := 3) (pc' := 10) rfl (hb hby at_3) rfl ((if0 _ _).trans (teq hc3).1) (by decide) (by decide) k) ?_
    refine Go.st (S' := T0.setTop (mkF m 11 #[.val (.int p1), .val (.int p2), .val (.int p3), .unset, .unset, .unset, .unset, .unset, .unset, .unset] [(.int p2)])) (fun _ k => XS.iloadN X0.here hx rfl (hb hby at_10) rfl k) ?_
    exact key _
  · refine Go.st (S' := T0.setTop (mkF m 6 #[.val (.int p1), .val (.int p2), .val (.int p3), .unset, .unset, .unset, .unset, .unset, .unset, .unset] [])) (fun _ k => XS.ifNo X0.here hx rfl (hb hby at_3) rfl ((if0 _ _).trans (feq hc3).1) k) ?_
    refine Go.st (S' := T0.setTop (mkF m 7 #[.val (.int p1), .val (.int p2), .val (.int p3), .unset, .unset, .unset, .unset, .unset, .unset, .unset] [(.int p1)])) (fun _ k => XS.iloadN X0.here hx rfl (hb hby at_6) rfl k) ?_
    refine Go.st (S' := T0.setTop (mkF m 11 #[.val (.int p1), .val (.int p2), .val (.int p3), .unset, .unset, .unset, .unset, .unset, .unset, .unset] [(.int p1)])) (fun _ k => XS.goto X0.here hx rfl (pc0 := 7) (pc' := 11) rfl (hb hby at_7) (by decide) (by decide) k) ?_
    exact key _
theorem own_cache {args : Array Value} {s : State} {t : Term} {w : Addr} {cl : Cell} (ev : t.eval args s none [] s = some (.ref w)) (Ar : Arr s s.heap w cl (.object "java/lang/Integer"))
    (q6 : (Jvm.Cond.eq (.length t) (.int 256)).value args s none s [] = some true)
    (q7 : (Jvm.Cond.all t (.and (.exactly (.elem t (.index 0)) "java/lang/Integer") (.eq (.field (.elem t (.index 0)) "java/lang/Integer" "value" "I") (.sub (.index 0) (.int 128))))).value args s none s [] = some true) (hcl : ∀ idx, t.eval args s none idx s = t.eval args s none [] s := by intro idx; rfl) : CF s w := by
  have ha : s.arrayAt? w = some cl := Arr.fin (Vm.Alike.refl _) Ar
  have sz : cl.slots.size = 256 := by
    obtain ⟨u, v, e1, e2, k1, k2⟩ := cmp_v (Or.inl q6)
    obtain rfl : v = .int 256 := Option.some.inj (e2.symm.trans (Term.int_eval 256))
    obtain ⟨z, rfl⟩ := k2
    obtain rfl : z = 256 := gotT (Jvm.Cond.eq_ints e1 (Term.int_eval 256)) q6
    by_cases hl : cl.slots.size < 2 ^ 31
    · have q := (len_f ev ha hl).symm.trans e1
      have q' : cl.slots.size.toInt32 = 256 := Value.int.inj (Option.some.inj q)
      have r := len_toInt hl
      rw [q'] at r
      have : (256 : Int32).toInt = 256 := by decide
      omega
    · exfalso
      simp [Term.eval, ev, ha, hl] at e1
  refine ⟨cl, Ar, sz, fun j hj => ?_⟩
  have hv := own_all ev ha q7 j (by omega)
  obtain ⟨h1, h2⟩ := and_e hv
  have hi : (Term.index 0).eval args s none [j] s = some (.int j.toInt32) := rfl
  have ej : j.toInt32.toNatClampNeg = j := by
    have := len_toInt (n := j) (by omega)
    have z0 : (0 : Int32).toInt = 0 := by decide
    have q := nat_of (j := j.toInt32) (by rw [Int32.lt_iff_toInt_lt, z0]; omega)
    omega
  have hn : ¬ j.toInt32 < 0 := by
    have := len_toInt (n := j) (by omega)
    have z0 : (0 : Int32).toInt = 0 := by decide
    rw [Int32.lt_iff_toInt_lt, z0]; omega
  have ev' : t.eval args s none [j] s = some (.ref w) := (hcl [j]).trans ev
  have ee : (Term.elem t (.index 0)).eval args s none [j] s = cl.slots[j]? := by rw [elem_f ev' hi ha hn, ej]
  obtain ⟨y, hy⟩ := exa_v h1
  have E := exa_at hy h1
  obtain ⟨u, v, e1, e2, k1, k2⟩ := cmp_v (Or.inl h2)
  have e3 : (Term.sub (.index 0) (.int 128)).eval args s none [j] s = some (.int (j.toInt32 - 128)) := rfl
  obtain rfl : v = .int (j.toInt32 - 128) := Option.some.inj (e2.symm.trans e3)
  obtain ⟨z, rfl⟩ := k2
  obtain rfl : z = j.toInt32 - 128 := gotT (Jvm.Cond.eq_ints e1 e3) h2
  exact ⟨y, ee.symm.trans hy, E, Fld.start ((fld_at hy).symm.trans e1)⟩
set_option maxRecDepth 65536 in
set_option maxHeartbeats 400000000 in
theorem comes_1 {Post : Tables → Env → Array Value → State → Outcome → State → Prop} (hpost : ∀ tb e args s v u, (limb_1_1.after args s (.returned v) u = true ∧ limb_1_2.after args s (.returned v) u = true ∧ True) → FrameEnd s (.returned v) u (Jvm.fieldLocs frame_1_writes args s ++ Jvm.arrayLocs frame_1_arrays args s ++ Jvm.staticLocs frame_1_statics s) 16 128 → Post tb e args s (.returned v) u) :
    ArmFor flags0 classFile x code maxLocals ret World_1 tables_1 room_1 Calls_1 rest_1 Pre_1 Post := by
  intro l hfl _ _ p e ha hc hk s m args below hf hA hF happ hP
  obtain ⟨hcalls, hrest, hpre⟩ := hP
  obtain ⟨-, -, -, hnamed, -, -, -, hat⟩ := (Spec.applies_iff hf).mp happ
  obtain ⟨hg, hn⟩ := and_e (Cond.before_iff.mp (show (Jvm.Cond.and given_1 narrow_1).before args s = true from hpre))
  obtain ⟨hg1, hg2⟩ := and_e hg
  obtain ⟨hg3, hg4⟩ := and_e hg2
  obtain ⟨hg5, hg6⟩ := and_e hg4
  obtain ⟨v0, v1, v2, rfl⟩ : ∃ v0 v1 v2 : Value, args = #[v0, v1, v2] := by
    have hs : args.size = 3 := by simpa [Cond.value, given_1] using hg1
    obtain ⟨L⟩ := args
    match L, hs with
    | [v0, v1, v2], _ => exact ⟨v0, v1, v2, rfl⟩
  have hw := fun d (hd : d ∈ tables_1) => atoms_spec (ws := Jvm.Cond.code x code maxLocals ret :: tables_1) hat d (List.mem_cons_of_mem _ hd)
  have hfit : Fit s := fun {y c} hc i hi => by
    obtain ⟨ha, rfl⟩ := Array.getElem?_eq_some_iff.mp hc
    have q := List.all_eq_true.mp ((Array.all_eq_true_iff_forall_mem.mp hF) _ (Array.getElem_mem ha)) i (List.mem_range.mpr hi)
    simpa [Array.getElem?_eq_getElem hi] using q
  obtain ⟨i0, ei0⟩ := is_v hg3
  obtain rfl : v0 = (.int i0) := Option.some.inj ei0
  obtain ⟨i1, ei1⟩ := is_v hg5
  obtain rfl : v1 = (.int i1) := Option.some.inj ei1
  obtain ⟨i2, ei2⟩ := is_v hg6
  obtain rfl : v2 = (.int i2) := Option.some.inj ei2
  obtain ⟨hsets, hown0⟩ := atoms_of _ (rest_1_c_eq ▸ (show rest_1_c.before _ s = true from hrest))
  have q3 := Cond.before_iff.mp (hsets _ (List.mem_of_getElem? (i := 3) rfl))
  have q4 := Cond.before_iff.mp (hsets _ (List.mem_of_getElem? (i := 4) rfl))
  have q6 := Cond.before_iff.mp (hsets _ (List.mem_of_getElem? (i := 6) rfl))
  have q7 := Cond.before_iff.mp (hsets _ (List.mem_of_getElem? (i := 7) rfl))
  obtain ⟨u3, v3, u31, v31, u32, u33⟩ := cmp_v (Or.inl q3)
  obtain rfl : v3 = .int 127 := Option.some.inj (v31.symm.trans (Term.int_eval 127))
  obtain ⟨z3, rfl⟩ := u33
  obtain rfl : z3 = 127 := gotT (Jvm.Cond.eq_ints u31 (Term.int_eval 127)) q3
  have S_high : Sta s s.heap "java/lang/Integer$IntegerCache" "high" "I" (.int 127) := Sta.start u31 (Or.inl (hsets _ (List.mem_of_getElem? (i := 1) rfl)))
  obtain ⟨w_cache, ev_cache⟩ := arr_v q4
  have S_cache : Sta s s.heap "java/lang/Integer$IntegerCache" "cache" "[Ljava/lang/Integer;" (.ref w_cache) := Sta.start ev_cache (Or.inr ⟨(ww hw 39 rfl), hsets _ (List.mem_of_getElem? (i := 2) rfl)⟩)
  obtain ⟨cl, Ar⟩ := Arr.start ev_cache q4
  have C_cache : CF s w_cache := own_cache ev_cache Ar q6 q7
  obtain ⟨n, o, h1, h2, h3, _, L, rfl, ⟨rfl, N⟩, hq⟩ := rm0 l s _ hw tables_1 w_cache ⟨S_high, S_cache, C_cache⟩ i0 i1 i2 s.heap (own_Ext.refl _)  p e ha hc hk s m _ below hf ((Spec.applies_iff_loose hf).mp happ).1 ⟨rfl, State.Warmed39.refl s, rfl⟩ trivial
  refine ⟨n, _, h1, h2, h3, hpost _ _ _ _ _ _ ⟨Cond.after_iff.mpr rfl, Cond.after_iff.mpr (eq_i res_at (Term.int_eval (1)) rfl), trivial⟩ ⟨hq.1, hq.2.1, (hq.2.2.sift fun y hy => Or.inr (N y hy)).mono (by decide) (by decide)⟩⟩
theorem main_1_1 : Claimed_1_1 := comes_1 fun _ _ _ _ _ _ h hF => ⟨h.1, hF⟩
theorem main_1_2 : Claimed_1_2 := comes_1 fun _ _ _ _ _ _ h hF => ⟨h.2.1, hF⟩
end Jvm.Pilot.@@N@@
namespace Jvm.Pilot.@@N@@
open Jvm Jvm.ClassFile Sem Op Lib Jvm.Free Jvm.Stand Jvm.Pilot.@@N@@.Jvm.D
/-! MADE BY PROGRAM (witnessworld.py) out of the Statement's table words and the real class files: 16 classes; the members and pool entries that the words name. The judged class is class 1, her method 1. -/
namespace start1
open Jvm.ClassFile
def u (s : String) : CpInfo := .utf8 (stringToUtf16 s)
/-- a pool by its gaps: so many unusable entries, then the entry; so many at the end -/
def gap : Nat → List CpInfo → List CpInfo
  | 0, r => r
  | n + 1, r => .unusable :: gap n r
def poolList (es : List (Nat × CpInfo)) (last : Nat) : List CpInfo := es.foldr (fun e r => gap e.1 (e.2 :: r)) (gap last [])
def pool (es : List (Nat × CpInfo)) (last : Nat) : Array CpInfo := ⟨poolList es last⟩
def fileOf (pool : Array CpInfo) (this : Nat) (attrs : Array Attribute := #[]) (ms : Array MethodInfo := #[]) (fl : Nat := 33) (sup : Nat := 0) (ifs : Array Nat := #[]) (fds : Array FieldInfo := #[]) : ClassFile where
  minorVersion := 0
  majorVersion := 65
  constantPool := pool
  accessFlags := fl
  thisClass := this
  superClass := sup
  interfaces := ifs
  fields := fds
  methods := ms
  attributes := attrs
def plain (name : String) (sup : Option ClassId) : Class where
  name := name
  kind := .ordinary
  loader := none
  accessFlags := 33
  super := sup
  interfaces := #[]
  cf := none
  fields := #[]
  methods := #[]
  instanceTypes := #[]
  staticTypes := #[]
  resolved := #[]
  callSites := []
  init := .initialized
  statics := none
  mirror := none

def pool0 : Array CpInfo := pool [(5, u "<init>"), (0, u "()V"), (1, .class_ 10), (1, u "java/lang/Object")] 113

def k0c0 : Code := { maxStack := 0, maxLocals := 1, code := object_method_1_code, exceptionTable := #[], attributes := #[] }
def k0m0 : Method := { name := "<init>", desc := "()V", sig := { parameters := [], returnType := none }, accessFlags := 1, code := some k0c0 }
/-- java/lang/Object -/
def k0 : Class := { plain "java/lang/Object" none with
  accessFlags := 33
  interfaces := #[]
  cf := some (fileOf pool0 8 #[] #[{ accessFlags := 1, nameIndex := 5, descriptorIndex := 6, attributes := #[] }] 33 0 #[] #[])
  fields := #[]
  methods := #[k0m0]
  instanceTypes := #[]
  staticTypes := #[]
  resolved := Array.replicate 124 none
  statics := none }

def pool1 : Array CpInfo := pool [(2, .class_ 4), (1, u "java/lang/Object"), (0, u "<init>"), (0, u "()V"), (0, .methodref 8 9), (0, .class_ 10), (0, .nameAndType 11 12), (0, u "com/example/pathwise/pathwise/ExactInteger"), (0, u "of"), (0, u "(I)Ljava/lang/Object;"), (0, .methodref 8 14), (0, .nameAndType 15 16), (0, u "plain"), (0, u "(Ljava/lang/Object;)Ljava/lang/Object;"), (0, .class_ 18), (0, u "java/lang/Integer"), (0, .methodref 17 20), (0, .nameAndType 21 22), (0, u "intValue"), (0, u "()I"), (0, .methodref 17 24), (0, .nameAndType 25 26), (0, u "valueOf"), (0, u "(I)Ljava/lang/Integer;"), (0, .methodref 8 28), (0, .nameAndType 29 30), (0, u "less"), (0, u "(Lcom/example/pathwise/pathwise/Evaluation;Lcom/example/pathwise/pathwise/Operator;Ljava/lang/Object;Ljava/lang/Object;)Z"), (0, .methodref 8 32), (0, .nameAndType 33 30), (0, u "equal"), (0, .methodref 8 35), (0, .nameAndType 36 30), (0, u "greater"), (0, .class_ 38), (0, u "com/example/pathwise/pathwise/ExactIntegerOfPinLaw"), (2, u "law"), (0, u "(III)Z")] 3

def k1m0 : Method := { name := "<init>", desc := "()V", sig := { parameters := [], returnType := none }, accessFlags := 2, code := none }
def k1c1 : Code := { maxStack := 4, maxLocals := 10, code := code, exceptionTable := #[], attributes := #[] }
def k1m1 : Method := { name := "law", desc := "(III)Z", sig := { parameters := [.int, .int, .int], returnType := some .boolean }, accessFlags := 9, code := some k1c1 }
/-- com/example/pathwise/pathwise/ExactIntegerOfPinLaw -/
def k1 : Class := { plain "com/example/pathwise/pathwise/ExactIntegerOfPinLaw" (some 0) with
  accessFlags := 49
  interfaces := #[]
  cf := some (fileOf pool1 37 #[] #[{ accessFlags := 2, nameIndex := 5, descriptorIndex := 6, attributes := #[] }, { accessFlags := 9, nameIndex := 41, descriptorIndex := 42, attributes := #[] }] 49 2 #[] #[])
  fields := #[]
  methods := #[k1m0, k1m1]
  instanceTypes := #[]
  staticTypes := #[]
  resolved := Array.replicate 46 none
  statics := none }

def pool2 : Array CpInfo := pool [(1, .methodref 2 3), (0, .class_ 4), (0, .nameAndType 5 6), (0, u "java/lang/Object"), (0, u "<init>"), (0, u "()V"), (0, .fieldref 8 9), (0, .class_ 10), (0, .nameAndType 11 12), (0, u "com/example/pathwise/pathwise/ExactInteger"), (0, u "value"), (0, u "J"), (0, .fieldref 8 14), (0, .nameAndType 15 16), (0, u "left"), (0, u "Ljava/lang/Object;"), (0, .fieldref 8 18), (0, .nameAndType 19 16), (0, u "right"), (0, .methodref 8 21), (0, .nameAndType 5 22), (0, u "(JLjava/lang/Object;Ljava/lang/Object;)V"), (0, .methodref 8 24), (0, .nameAndType 25 26), (0, u "isExact"), (0, u "(Ljava/lang/Object;)Z"), (0, .methodref 8 28), (0, .nameAndType 29 30), (0, u "valueOf"), (0, u "(Ljava/lang/Object;)J"), (0, .methodref 8 32), (0, .nameAndType 33 34), (0, u "plain"), (0, u "(Ljava/lang/Object;)Ljava/lang/Object;"), (11, u "()Z"), (0, .methodref 8 48), (0, .nameAndType 49 50), (0, u "boxed"), (0, u "()Ljava/lang/Object;"), (0, .methodref 8 52), (0, .nameAndType 53 46), (0, u "isLong"), (5, .methodref 60 61), (0, .class_ 62), (0, .nameAndType 29 63), (0, u "java/lang/Integer"), (0, u "(I)Ljava/lang/Integer;"), (0, .methodref 8 65), (0, .nameAndType 53 26), (0, .methodref 60 67), (0, .nameAndType 68 69), (0, u "intValue"), (0, u "()I"), (2, u "of"), (0, u "(I)Ljava/lang/Object;"), (5, u "less"), (0, u "(Lcom/example/pathwise/pathwise/Evaluation;Lcom/example/pathwise/pathwise/Operator;Ljava/lang/Object;Ljava/lang/Object;)Z"), (1, u "greater"), (1, u "equal")] 3

def k2c0 : Code := { maxStack := 3, maxLocals := 5, code := prog_36_method_1_code, exceptionTable := #[], attributes := #[] }
def k2m0 : Method := { name := "<init>", desc := "(JLjava/lang/Object;Ljava/lang/Object;)V", sig := { parameters := [.long, (.object "java/lang/Object"), (.object "java/lang/Object")], returnType := none }, accessFlags := 2, code := some k2c0 }
def k2c1 : Code := { maxStack := 6, maxLocals := 1, code := prog_36_method_2_code, exceptionTable := #[], attributes := #[] }
def k2m1 : Method := { name := "of", desc := "(I)Ljava/lang/Object;", sig := { parameters := [.int], returnType := some (.object "java/lang/Object") }, accessFlags := 8, code := some k2c1 }
def k2c2 : Code := { maxStack := 4, maxLocals := 4, code := prog_36_method_6_code, exceptionTable := #[], attributes := #[] }
def k2m2 : Method := { name := "less", desc := "(Lcom/example/pathwise/pathwise/Evaluation;Lcom/example/pathwise/pathwise/Operator;Ljava/lang/Object;Ljava/lang/Object;)Z", sig := { parameters := [(.object "com/example/pathwise/pathwise/Evaluation"), (.object "com/example/pathwise/pathwise/Operator"), (.object "java/lang/Object"), (.object "java/lang/Object")], returnType := some .boolean }, accessFlags := 8, code := some k2c2 }
def k2c3 : Code := { maxStack := 4, maxLocals := 4, code := prog_36_method_8_code, exceptionTable := #[], attributes := #[] }
def k2m3 : Method := { name := "greater", desc := "(Lcom/example/pathwise/pathwise/Evaluation;Lcom/example/pathwise/pathwise/Operator;Ljava/lang/Object;Ljava/lang/Object;)Z", sig := { parameters := [(.object "com/example/pathwise/pathwise/Evaluation"), (.object "com/example/pathwise/pathwise/Operator"), (.object "java/lang/Object"), (.object "java/lang/Object")], returnType := some .boolean }, accessFlags := 8, code := some k2c3 }
def k2c4 : Code := { maxStack := 4, maxLocals := 4, code := prog_36_method_10_code, exceptionTable := #[], attributes := #[] }
def k2m4 : Method := { name := "equal", desc := "(Lcom/example/pathwise/pathwise/Evaluation;Lcom/example/pathwise/pathwise/Operator;Ljava/lang/Object;Ljava/lang/Object;)Z", sig := { parameters := [(.object "com/example/pathwise/pathwise/Evaluation"), (.object "com/example/pathwise/pathwise/Operator"), (.object "java/lang/Object"), (.object "java/lang/Object")], returnType := some .boolean }, accessFlags := 8, code := some k2c4 }
def k2c5 : Code := { maxStack := 1, maxLocals := 2, code := prog_36_method_12_code, exceptionTable := #[], attributes := #[] }
def k2m5 : Method := { name := "plain", desc := "(Ljava/lang/Object;)Ljava/lang/Object;", sig := { parameters := [(.object "java/lang/Object")], returnType := some (.object "java/lang/Object") }, accessFlags := 8, code := some k2c5 }
def k2c6 : Code := { maxStack := 2, maxLocals := 1, code := prog_36_method_13_code, exceptionTable := #[], attributes := #[] }
def k2m6 : Method := { name := "boxed", desc := "()Ljava/lang/Object;", sig := { parameters := [], returnType := some (.object "java/lang/Object") }, accessFlags := 2, code := some k2c6 }
def k2c7 : Code := { maxStack := 4, maxLocals := 1, code := prog_36_method_14_code, exceptionTable := #[], attributes := #[] }
def k2m7 : Method := { name := "isLong", desc := "()Z", sig := { parameters := [], returnType := some .boolean }, accessFlags := 2, code := some k2c7 }
def k2c8 : Code := { maxStack := 1, maxLocals := 1, code := prog_36_method_15_code, exceptionTable := #[], attributes := #[] }
def k2m8 : Method := { name := "isExact", desc := "(Ljava/lang/Object;)Z", sig := { parameters := [(.object "java/lang/Object")], returnType := some .boolean }, accessFlags := 10, code := some k2c8 }
def k2c9 : Code := { maxStack := 1, maxLocals := 2, code := prog_36_method_16_code, exceptionTable := #[], attributes := #[] }
def k2m9 : Method := { name := "isLong", desc := "(Ljava/lang/Object;)Z", sig := { parameters := [(.object "java/lang/Object")], returnType := some .boolean }, accessFlags := 10, code := some k2c9 }
def k2c10 : Code := { maxStack := 2, maxLocals := 2, code := prog_36_method_17_code, exceptionTable := #[], attributes := #[] }
def k2m10 : Method := { name := "valueOf", desc := "(Ljava/lang/Object;)J", sig := { parameters := [(.object "java/lang/Object")], returnType := some .long }, accessFlags := 10, code := some k2c10 }
/-- com/example/pathwise/pathwise/ExactInteger -/
def k2 : Class := { plain "com/example/pathwise/pathwise/ExactInteger" (some 0) with
  accessFlags := 48
  interfaces := #[]
  cf := some (fileOf pool2 8 #[] #[{ accessFlags := 2, nameIndex := 5, descriptorIndex := 22, attributes := #[] }, { accessFlags := 8, nameIndex := 72, descriptorIndex := 73, attributes := #[] }, { accessFlags := 8, nameIndex := 79, descriptorIndex := 80, attributes := #[] }, { accessFlags := 8, nameIndex := 82, descriptorIndex := 80, attributes := #[] }, { accessFlags := 8, nameIndex := 84, descriptorIndex := 80, attributes := #[] }, { accessFlags := 8, nameIndex := 33, descriptorIndex := 34, attributes := #[] }, { accessFlags := 2, nameIndex := 49, descriptorIndex := 50, attributes := #[] }, { accessFlags := 2, nameIndex := 53, descriptorIndex := 46, attributes := #[] }, { accessFlags := 10, nameIndex := 25, descriptorIndex := 26, attributes := #[] }, { accessFlags := 10, nameIndex := 53, descriptorIndex := 26, attributes := #[] }, { accessFlags := 10, nameIndex := 29, descriptorIndex := 30, attributes := #[] }] 48 2 #[] #[{ accessFlags := 18, nameIndex := 11, descriptorIndex := 12, attributes := #[] }, { accessFlags := 18, nameIndex := 15, descriptorIndex := 16, attributes := #[] }, { accessFlags := 18, nameIndex := 19, descriptorIndex := 16, attributes := #[] }])
  fields := #[{ name := "value", type := .long, accessFlags := 18, slot := 0, constantValue := 0 }, { name := "left", type := (.object "java/lang/Object"), accessFlags := 18, slot := 1, constantValue := 0 }, { name := "right", type := (.object "java/lang/Object"), accessFlags := 18, slot := 2, constantValue := 0 }]
  methods := #[k2m0, k2m1, k2m2, k2m3, k2m4, k2m5, k2m6, k2m7, k2m8, k2m9, k2m10]
  instanceTypes := #[.long, (.object "java/lang/Object"), (.object "java/lang/Object")]
  staticTypes := #[]
  resolved := Array.replicate 88 none
  statics := none }

def pool3 : Array CpInfo := pool [(1, .class_ 2), (0, u "java/io/Serializable"), (0, .class_ 4), (0, u "java/lang/Object")] 2

/-- java/io/Serializable -/
def k3 : Class := { plain "java/io/Serializable" (some 0) with
  accessFlags := 1537
  interfaces := #[]
  cf := some (fileOf pool3 1 #[] #[] 1537 3 #[] #[])
  fields := #[]
  methods := #[]
  instanceTypes := #[]
  staticTypes := #[]
  resolved := Array.replicate 7 none
  statics := none }

def pool4 : Array CpInfo := pool [(1, .methodref 2 3), (0, .class_ 4), (0, .nameAndType 5 6), (0, u "java/lang/Object"), (0, u "<init>"), (0, u "()V"), (1, .class_ 10), (1, u "java/lang/Number"), (2, .class_ 14), (0, u "java/io/Serializable"), (0, u "serialVersionUID"), (0, u "J")] 20

def k4c0 : Code := { maxStack := 1, maxLocals := 1, code := jdk_18_method_1_code, exceptionTable := #[], attributes := #[] }
def k4m0 : Method := { name := "<init>", desc := "()V", sig := { parameters := [], returnType := none }, accessFlags := 1, code := some k4c0 }
/-- java/lang/Number -/
def k4 : Class := { plain "java/lang/Number" (some 0) with
  accessFlags := 1057
  interfaces := #[3]
  cf := some (fileOf pool4 8 #[] #[{ accessFlags := 1, nameIndex := 5, descriptorIndex := 6, attributes := #[] }] 1057 2 #[13] #[{ accessFlags := 26, nameIndex := 15, descriptorIndex := 16, attributes := #[] }])
  fields := #[{ name := "serialVersionUID", type := .long, accessFlags := 26, slot := 0, constantValue := 0 }]
  methods := #[k4m0]
  instanceTypes := #[]
  staticTypes := #[.long]
  resolved := Array.replicate 37 none
  statics := none }

def pool5 : Array CpInfo := pool [(1, .class_ 2), (0, u "java/lang/Comparable"), (0, .class_ 4), (0, u "java/lang/Object")] 7

/-- java/lang/Comparable -/
def k5 : Class := { plain "java/lang/Comparable" (some 0) with
  accessFlags := 1537
  interfaces := #[]
  cf := some (fileOf pool5 1 #[] #[] 1537 3 #[] #[])
  fields := #[]
  methods := #[]
  instanceTypes := #[]
  staticTypes := #[]
  resolved := Array.replicate 12 none
  statics := none }

def pool6 : Array CpInfo := pool [(1, .class_ 2), (0, u "java/lang/constant/Constable"), (0, .class_ 4), (0, u "java/lang/Object")] 6

/-- java/lang/constant/Constable -/
def k6 : Class := { plain "java/lang/constant/Constable" (some 0) with
  accessFlags := 1537
  interfaces := #[]
  cf := some (fileOf pool6 1 #[] #[] 1537 3 #[] #[])
  fields := #[]
  methods := #[]
  instanceTypes := #[]
  staticTypes := #[]
  resolved := Array.replicate 11 none
  statics := none }

def pool7 : Array CpInfo := pool [(1, .class_ 2), (0, u "java/lang/constant/ConstantDesc"), (0, .class_ 4), (0, u "java/lang/Object")] 32

/-- java/lang/constant/ConstantDesc -/
def k7 : Class := { plain "java/lang/constant/ConstantDesc" (some 0) with
  accessFlags := 1537
  interfaces := #[]
  cf := some (fileOf pool7 1 #[] #[] 1537 3 #[] #[])
  fields := #[]
  methods := #[]
  instanceTypes := #[]
  staticTypes := #[]
  resolved := Array.replicate 37 none
  statics := none }

def pool8 : Array CpInfo := pool [(1, .class_ 2), (0, u "java/lang/Integer"), (16, u "digits"), (0, u "[C"), (46, u "<init>"), (17, u "DigitOnes"), (0, u "[B"), (2, u "DigitTens"), (10, .nameAndType 67 101), (0, u "()V"), (19, u "()I"), (65, u "valueOf"), (0, u "(I)Ljava/lang/Integer;"), (0, .class_ 190), (0, u "java/lang/Integer$IntegerCache"), (0, .fieldref 189 192), (0, .nameAndType 193 194), (0, u "high"), (0, u "I"), (0, .fieldref 189 196), (0, .nameAndType 197 198), (0, u "cache"), (0, u "[Ljava/lang/Integer;"), (0, .methodref 1 200), (0, .nameAndType 67 201), (0, u "(I)V"), (0, .methodref 203 100), (0, .class_ 204), (0, u "java/lang/Number"), (0, .fieldref 1 206), (0, .nameAndType 207 194), (0, u "value"), (5, u "intValue"), (88, u "TYPE"), (0, u "Ljava/lang/Class;"), (0, .class_ 305), (0, u "java/lang/Comparable"), (0, .class_ 307), (0, u "java/lang/constant/Constable"), (0, .class_ 309), (0, u "java/lang/constant/ConstantDesc"), (0, u "MIN_VALUE"), (1, u "MAX_VALUE"), (3, u "SIZE"), (1, u "BYTES"), (1, u "serialVersionUID"), (0, u "J")] 131

def k8c0 : Code := { maxStack := 3, maxLocals := 1, code := jdk_33_method_22_code, exceptionTable := #[], attributes := #[] }
def k8m0 : Method := { name := "valueOf", desc := "(I)Ljava/lang/Integer;", sig := { parameters := [.int], returnType := some (.object "java/lang/Integer") }, accessFlags := 9, code := some k8c0 }
def k8c1 : Code := { maxStack := 2, maxLocals := 2, code := jdk_33_method_23_code, exceptionTable := #[], attributes := #[] }
def k8m1 : Method := { name := "<init>", desc := "(I)V", sig := { parameters := [.int], returnType := none }, accessFlags := 1, code := some k8c1 }
def k8c2 : Code := { maxStack := 1, maxLocals := 1, code := jdk_33_method_27_code, exceptionTable := #[], attributes := #[] }
def k8m2 : Method := { name := "intValue", desc := "()I", sig := { parameters := [], returnType := some .int }, accessFlags := 1, code := some k8c2 }
/-- java/lang/Integer -/
def k8 : Class := { plain "java/lang/Integer" (some 4) with
  accessFlags := 49
  interfaces := #[5, 6, 7]
  cf := some (fileOf pool8 1 #[.nestMembers #[189]] #[{ accessFlags := 9, nameIndex := 187, descriptorIndex := 188, attributes := #[] }, { accessFlags := 1, nameIndex := 67, descriptorIndex := 201, attributes := #[] }, { accessFlags := 1, nameIndex := 213, descriptorIndex := 121, attributes := #[] }] 49 203 #[304, 306, 308] #[{ accessFlags := 25, nameIndex := 310, descriptorIndex := 194, attributes := #[] }, { accessFlags := 25, nameIndex := 312, descriptorIndex := 194, attributes := #[] }, { accessFlags := 25, nameIndex := 302, descriptorIndex := 303, attributes := #[] }, { accessFlags := 24, nameIndex := 19, descriptorIndex := 20, attributes := #[] }, { accessFlags := 24, nameIndex := 89, descriptorIndex := 86, attributes := #[] }, { accessFlags := 24, nameIndex := 85, descriptorIndex := 86, attributes := #[] }, { accessFlags := 18, nameIndex := 207, descriptorIndex := 194, attributes := #[] }, { accessFlags := 25, nameIndex := 316, descriptorIndex := 194, attributes := #[] }, { accessFlags := 25, nameIndex := 318, descriptorIndex := 194, attributes := #[] }, { accessFlags := 26, nameIndex := 320, descriptorIndex := 321, attributes := #[] }])
  fields := #[{ name := "MIN_VALUE", type := .int, accessFlags := 25, slot := 0, constantValue := 0 }, { name := "MAX_VALUE", type := .int, accessFlags := 25, slot := 1, constantValue := 0 }, { name := "TYPE", type := (.object "java/lang/Class"), accessFlags := 25, slot := 2, constantValue := 0 }, { name := "digits", type := (.array .char), accessFlags := 24, slot := 3, constantValue := 0 }, { name := "DigitTens", type := (.array .byte), accessFlags := 24, slot := 4, constantValue := 0 }, { name := "DigitOnes", type := (.array .byte), accessFlags := 24, slot := 5, constantValue := 0 }, { name := "value", type := .int, accessFlags := 18, slot := 0, constantValue := 0 }, { name := "SIZE", type := .int, accessFlags := 25, slot := 6, constantValue := 0 }, { name := "BYTES", type := .int, accessFlags := 25, slot := 7, constantValue := 0 }, { name := "serialVersionUID", type := .long, accessFlags := 26, slot := 8, constantValue := 0 }]
  methods := #[k8m0, k8m1, k8m2]
  instanceTypes := #[.int]
  staticTypes := #[.int, .int, (.object "java/lang/Class"), (.array .char), (.array .byte), (.array .byte), .int, .int, .long]
  resolved := Array.replicate 453 none
  statics := none }

def pool9 : Array CpInfo := pool [(2, .class_ 4), (1, u "java/lang/Object"), (0, u "<init>"), (0, u "()V"), (0, .class_ 8), (0, u "java/lang/Integer"), (7, .class_ 18), (1, u "java/lang/Integer$IntegerCache"), (0, u "$assertionsDisabled"), (0, u "Z"), (26, u "high"), (0, u "I"), (8, u "archivedCache"), (0, u "[Ljava/lang/Integer;"), (12, u "cache"), (0, u "low")] 27

def k9m0 : Method := { name := "<init>", desc := "()V", sig := { parameters := [], returnType := none }, accessFlags := 2, code := none }
/-- java/lang/Integer$IntegerCache -/
def k9 : Class := { plain "java/lang/Integer$IntegerCache" (some 0) with
  accessFlags := 48
  interfaces := #[]
  cf := some (fileOf pool9 16 #[.nestHost 7] #[{ accessFlags := 2, nameIndex := 5, descriptorIndex := 6, attributes := #[] }] 48 2 #[] #[{ accessFlags := 24, nameIndex := 72, descriptorIndex := 48, attributes := #[] }, { accessFlags := 24, nameIndex := 47, descriptorIndex := 48, attributes := #[] }, { accessFlags := 24, nameIndex := 71, descriptorIndex := 58, attributes := #[] }, { accessFlags := 8, nameIndex := 57, descriptorIndex := 58, attributes := #[] }, { accessFlags := 4120, nameIndex := 19, descriptorIndex := 20, attributes := #[] }])
  fields := #[{ name := "low", type := .int, accessFlags := 24, slot := 0, constantValue := 0 }, { name := "high", type := .int, accessFlags := 24, slot := 1, constantValue := 0 }, { name := "cache", type := (.array (.object "java/lang/Integer")), accessFlags := 24, slot := 2, constantValue := 0 }, { name := "archivedCache", type := (.array (.object "java/lang/Integer")), accessFlags := 8, slot := 3, constantValue := 0 }, { name := "$assertionsDisabled", type := .boolean, accessFlags := 4120, slot := 4, constantValue := 0 }]
  methods := #[k9m0]
  instanceTypes := #[]
  staticTypes := #[.int, .int, (.array (.object "java/lang/Integer")), (.array (.object "java/lang/Integer")), .boolean]
  resolved := Array.replicate 100 none
  statics := some 0 }

def pool10 : Array CpInfo := pool [(1, u "java/lang/Cloneable"), (0, .class_ 1), (0, u "java/lang/Object"), (0, .class_ 3)] 3

/-- java/lang/Cloneable -/
def k10 : Class := { plain "java/lang/Cloneable" (some 0) with
  accessFlags := 1537
  interfaces := #[]
  cf := some (fileOf pool10 2 #[] #[] 1537 4 #[] #[])
  fields := #[]
  methods := #[]
  instanceTypes := #[]
  staticTypes := #[]
  resolved := Array.replicate 8 none
  statics := none }

/-- the primitive byte -/
def k11 : Class := { plain "byte" none with kind := .primitive 'B', accessFlags := 0x411 }
/-- [B -/
def k12 : Class := { plain "[B" (some 0) with kind := .array 11 .byte, interfaces := #[10, 3], accessFlags := 1041 }

/-- the primitive int -/
def k13 : Class := { plain "int" none with kind := .primitive 'I', accessFlags := 0x411 }
/-- [I -/
def k14 : Class := { plain "[I" (some 0) with kind := .array 13 .int, interfaces := #[10, 3], accessFlags := 1041 }

/-- [Ljava/lang/Integer; -/
def k15 : Class := { plain "[Ljava/lang/Integer;" (some 0) with kind := .array 8 (.object "java/lang/Integer"), interfaces := #[10, 3], accessFlags := 1041 }

def heap : Heap := #[{ cls := 9, slots := #[.int 0, .int 127, .ref 1, .null, .int 0], vm := .statics 9 },
  { cls := 15, slots := #[.ref 2, .ref 3, .ref 4, .ref 5, .ref 6, .ref 7, .ref 8, .ref 9, .ref 10, .ref 11, .ref 12, .ref 13, .ref 14, .ref 15, .ref 16, .ref 17, .ref 18, .ref 19, .ref 20, .ref 21, .ref 22, .ref 23, .ref 24, .ref 25, .ref 26, .ref 27, .ref 28, .ref 29, .ref 30, .ref 31, .ref 32, .ref 33, .ref 34, .ref 35, .ref 36, .ref 37, .ref 38, .ref 39, .ref 40, .ref 41, .ref 42, .ref 43, .ref 44, .ref 45, .ref 46, .ref 47, .ref 48, .ref 49, .ref 50, .ref 51, .ref 52, .ref 53, .ref 54, .ref 55, .ref 56, .ref 57, .ref 58, .ref 59, .ref 60, .ref 61, .ref 62, .ref 63, .ref 64, .ref 65, .ref 66, .ref 67, .ref 68, .ref 69, .ref 70, .ref 71, .ref 72, .ref 73, .ref 74, .ref 75, .ref 76, .ref 77, .ref 78, .ref 79, .ref 80, .ref 81, .ref 82, .ref 83, .ref 84, .ref 85, .ref 86, .ref 87, .ref 88, .ref 89, .ref 90, .ref 91, .ref 92, .ref 93, .ref 94, .ref 95, .ref 96, .ref 97, .ref 98, .ref 99, .ref 100, .ref 101, .ref 102, .ref 103, .ref 104, .ref 105, .ref 106, .ref 107, .ref 108, .ref 109, .ref 110, .ref 111, .ref 112, .ref 113, .ref 114, .ref 115, .ref 116, .ref 117, .ref 118, .ref 119, .ref 120, .ref 121, .ref 122, .ref 123, .ref 124, .ref 125, .ref 126, .ref 127, .ref 128, .ref 129, .ref 130, .ref 131, .ref 132, .ref 133, .ref 134, .ref 135, .ref 136, .ref 137, .ref 138, .ref 139, .ref 140, .ref 141, .ref 142, .ref 143, .ref 144, .ref 145, .ref 146, .ref 147, .ref 148, .ref 149, .ref 150, .ref 151, .ref 152, .ref 153, .ref 154, .ref 155, .ref 156, .ref 157, .ref 158, .ref 159, .ref 160, .ref 161, .ref 162, .ref 163, .ref 164, .ref 165, .ref 166, .ref 167, .ref 168, .ref 169, .ref 170, .ref 171, .ref 172, .ref 173, .ref 174, .ref 175, .ref 176, .ref 177, .ref 178, .ref 179, .ref 180, .ref 181, .ref 182, .ref 183, .ref 184, .ref 185, .ref 186, .ref 187, .ref 188, .ref 189, .ref 190, .ref 191, .ref 192, .ref 193, .ref 194, .ref 195, .ref 196, .ref 197, .ref 198, .ref 199, .ref 200, .ref 201, .ref 202, .ref 203, .ref 204, .ref 205, .ref 206, .ref 207, .ref 208, .ref 209, .ref 210, .ref 211, .ref 212, .ref 213, .ref 214, .ref 215, .ref 216, .ref 217, .ref 218, .ref 219, .ref 220, .ref 221, .ref 222, .ref 223, .ref 224, .ref 225, .ref 226, .ref 227, .ref 228, .ref 229, .ref 230, .ref 231, .ref 232, .ref 233, .ref 234, .ref 235, .ref 236, .ref 237, .ref 238, .ref 239, .ref 240, .ref 241, .ref 242, .ref 243, .ref 244, .ref 245, .ref 246, .ref 247, .ref 248, .ref 249, .ref 250, .ref 251, .ref 252, .ref 253, .ref 254, .ref 255, .ref 256, .ref 257], vm := .none },
  { cls := 8, slots := #[.int (-128)], vm := .none },
  { cls := 8, slots := #[.int (-127)], vm := .none },
  { cls := 8, slots := #[.int (-126)], vm := .none },
  { cls := 8, slots := #[.int (-125)], vm := .none },
  { cls := 8, slots := #[.int (-124)], vm := .none },
  { cls := 8, slots := #[.int (-123)], vm := .none },
  { cls := 8, slots := #[.int (-122)], vm := .none },
  { cls := 8, slots := #[.int (-121)], vm := .none },
  { cls := 8, slots := #[.int (-120)], vm := .none },
  { cls := 8, slots := #[.int (-119)], vm := .none },
  { cls := 8, slots := #[.int (-118)], vm := .none },
  { cls := 8, slots := #[.int (-117)], vm := .none },
  { cls := 8, slots := #[.int (-116)], vm := .none },
  { cls := 8, slots := #[.int (-115)], vm := .none },
  { cls := 8, slots := #[.int (-114)], vm := .none },
  { cls := 8, slots := #[.int (-113)], vm := .none },
  { cls := 8, slots := #[.int (-112)], vm := .none },
  { cls := 8, slots := #[.int (-111)], vm := .none },
  { cls := 8, slots := #[.int (-110)], vm := .none },
  { cls := 8, slots := #[.int (-109)], vm := .none },
  { cls := 8, slots := #[.int (-108)], vm := .none },
  { cls := 8, slots := #[.int (-107)], vm := .none },
  { cls := 8, slots := #[.int (-106)], vm := .none },
  { cls := 8, slots := #[.int (-105)], vm := .none },
  { cls := 8, slots := #[.int (-104)], vm := .none },
  { cls := 8, slots := #[.int (-103)], vm := .none },
  { cls := 8, slots := #[.int (-102)], vm := .none },
  { cls := 8, slots := #[.int (-101)], vm := .none },
  { cls := 8, slots := #[.int (-100)], vm := .none },
  { cls := 8, slots := #[.int (-99)], vm := .none },
  { cls := 8, slots := #[.int (-98)], vm := .none },
  { cls := 8, slots := #[.int (-97)], vm := .none },
  { cls := 8, slots := #[.int (-96)], vm := .none },
  { cls := 8, slots := #[.int (-95)], vm := .none },
  { cls := 8, slots := #[.int (-94)], vm := .none },
  { cls := 8, slots := #[.int (-93)], vm := .none },
  { cls := 8, slots := #[.int (-92)], vm := .none },
  { cls := 8, slots := #[.int (-91)], vm := .none },
  { cls := 8, slots := #[.int (-90)], vm := .none },
  { cls := 8, slots := #[.int (-89)], vm := .none },
  { cls := 8, slots := #[.int (-88)], vm := .none },
  { cls := 8, slots := #[.int (-87)], vm := .none },
  { cls := 8, slots := #[.int (-86)], vm := .none },
  { cls := 8, slots := #[.int (-85)], vm := .none },
  { cls := 8, slots := #[.int (-84)], vm := .none },
  { cls := 8, slots := #[.int (-83)], vm := .none },
  { cls := 8, slots := #[.int (-82)], vm := .none },
  { cls := 8, slots := #[.int (-81)], vm := .none },
  { cls := 8, slots := #[.int (-80)], vm := .none },
  { cls := 8, slots := #[.int (-79)], vm := .none },
  { cls := 8, slots := #[.int (-78)], vm := .none },
  { cls := 8, slots := #[.int (-77)], vm := .none },
  { cls := 8, slots := #[.int (-76)], vm := .none },
  { cls := 8, slots := #[.int (-75)], vm := .none },
  { cls := 8, slots := #[.int (-74)], vm := .none },
  { cls := 8, slots := #[.int (-73)], vm := .none },
  { cls := 8, slots := #[.int (-72)], vm := .none },
  { cls := 8, slots := #[.int (-71)], vm := .none },
  { cls := 8, slots := #[.int (-70)], vm := .none },
  { cls := 8, slots := #[.int (-69)], vm := .none },
  { cls := 8, slots := #[.int (-68)], vm := .none },
  { cls := 8, slots := #[.int (-67)], vm := .none },
  { cls := 8, slots := #[.int (-66)], vm := .none },
  { cls := 8, slots := #[.int (-65)], vm := .none },
  { cls := 8, slots := #[.int (-64)], vm := .none },
  { cls := 8, slots := #[.int (-63)], vm := .none },
  { cls := 8, slots := #[.int (-62)], vm := .none },
  { cls := 8, slots := #[.int (-61)], vm := .none },
  { cls := 8, slots := #[.int (-60)], vm := .none },
  { cls := 8, slots := #[.int (-59)], vm := .none },
  { cls := 8, slots := #[.int (-58)], vm := .none },
  { cls := 8, slots := #[.int (-57)], vm := .none },
  { cls := 8, slots := #[.int (-56)], vm := .none },
  { cls := 8, slots := #[.int (-55)], vm := .none },
  { cls := 8, slots := #[.int (-54)], vm := .none },
  { cls := 8, slots := #[.int (-53)], vm := .none },
  { cls := 8, slots := #[.int (-52)], vm := .none },
  { cls := 8, slots := #[.int (-51)], vm := .none },
  { cls := 8, slots := #[.int (-50)], vm := .none },
  { cls := 8, slots := #[.int (-49)], vm := .none },
  { cls := 8, slots := #[.int (-48)], vm := .none },
  { cls := 8, slots := #[.int (-47)], vm := .none },
  { cls := 8, slots := #[.int (-46)], vm := .none },
  { cls := 8, slots := #[.int (-45)], vm := .none },
  { cls := 8, slots := #[.int (-44)], vm := .none },
  { cls := 8, slots := #[.int (-43)], vm := .none },
  { cls := 8, slots := #[.int (-42)], vm := .none },
  { cls := 8, slots := #[.int (-41)], vm := .none },
  { cls := 8, slots := #[.int (-40)], vm := .none },
  { cls := 8, slots := #[.int (-39)], vm := .none },
  { cls := 8, slots := #[.int (-38)], vm := .none },
  { cls := 8, slots := #[.int (-37)], vm := .none },
  { cls := 8, slots := #[.int (-36)], vm := .none },
  { cls := 8, slots := #[.int (-35)], vm := .none },
  { cls := 8, slots := #[.int (-34)], vm := .none },
  { cls := 8, slots := #[.int (-33)], vm := .none },
  { cls := 8, slots := #[.int (-32)], vm := .none },
  { cls := 8, slots := #[.int (-31)], vm := .none },
  { cls := 8, slots := #[.int (-30)], vm := .none },
  { cls := 8, slots := #[.int (-29)], vm := .none },
  { cls := 8, slots := #[.int (-28)], vm := .none },
  { cls := 8, slots := #[.int (-27)], vm := .none },
  { cls := 8, slots := #[.int (-26)], vm := .none },
  { cls := 8, slots := #[.int (-25)], vm := .none },
  { cls := 8, slots := #[.int (-24)], vm := .none },
  { cls := 8, slots := #[.int (-23)], vm := .none },
  { cls := 8, slots := #[.int (-22)], vm := .none },
  { cls := 8, slots := #[.int (-21)], vm := .none },
  { cls := 8, slots := #[.int (-20)], vm := .none },
  { cls := 8, slots := #[.int (-19)], vm := .none },
  { cls := 8, slots := #[.int (-18)], vm := .none },
  { cls := 8, slots := #[.int (-17)], vm := .none },
  { cls := 8, slots := #[.int (-16)], vm := .none },
  { cls := 8, slots := #[.int (-15)], vm := .none },
  { cls := 8, slots := #[.int (-14)], vm := .none },
  { cls := 8, slots := #[.int (-13)], vm := .none },
  { cls := 8, slots := #[.int (-12)], vm := .none },
  { cls := 8, slots := #[.int (-11)], vm := .none },
  { cls := 8, slots := #[.int (-10)], vm := .none },
  { cls := 8, slots := #[.int (-9)], vm := .none },
  { cls := 8, slots := #[.int (-8)], vm := .none },
  { cls := 8, slots := #[.int (-7)], vm := .none },
  { cls := 8, slots := #[.int (-6)], vm := .none },
  { cls := 8, slots := #[.int (-5)], vm := .none },
  { cls := 8, slots := #[.int (-4)], vm := .none },
  { cls := 8, slots := #[.int (-3)], vm := .none },
  { cls := 8, slots := #[.int (-2)], vm := .none },
  { cls := 8, slots := #[.int (-1)], vm := .none },
  { cls := 8, slots := #[.int (0)], vm := .none },
  { cls := 8, slots := #[.int (1)], vm := .none },
  { cls := 8, slots := #[.int (2)], vm := .none },
  { cls := 8, slots := #[.int (3)], vm := .none },
  { cls := 8, slots := #[.int (4)], vm := .none },
  { cls := 8, slots := #[.int (5)], vm := .none },
  { cls := 8, slots := #[.int (6)], vm := .none },
  { cls := 8, slots := #[.int (7)], vm := .none },
  { cls := 8, slots := #[.int (8)], vm := .none },
  { cls := 8, slots := #[.int (9)], vm := .none },
  { cls := 8, slots := #[.int (10)], vm := .none },
  { cls := 8, slots := #[.int (11)], vm := .none },
  { cls := 8, slots := #[.int (12)], vm := .none },
  { cls := 8, slots := #[.int (13)], vm := .none },
  { cls := 8, slots := #[.int (14)], vm := .none },
  { cls := 8, slots := #[.int (15)], vm := .none },
  { cls := 8, slots := #[.int (16)], vm := .none },
  { cls := 8, slots := #[.int (17)], vm := .none },
  { cls := 8, slots := #[.int (18)], vm := .none },
  { cls := 8, slots := #[.int (19)], vm := .none },
  { cls := 8, slots := #[.int (20)], vm := .none },
  { cls := 8, slots := #[.int (21)], vm := .none },
  { cls := 8, slots := #[.int (22)], vm := .none },
  { cls := 8, slots := #[.int (23)], vm := .none },
  { cls := 8, slots := #[.int (24)], vm := .none },
  { cls := 8, slots := #[.int (25)], vm := .none },
  { cls := 8, slots := #[.int (26)], vm := .none },
  { cls := 8, slots := #[.int (27)], vm := .none },
  { cls := 8, slots := #[.int (28)], vm := .none },
  { cls := 8, slots := #[.int (29)], vm := .none },
  { cls := 8, slots := #[.int (30)], vm := .none },
  { cls := 8, slots := #[.int (31)], vm := .none },
  { cls := 8, slots := #[.int (32)], vm := .none },
  { cls := 8, slots := #[.int (33)], vm := .none },
  { cls := 8, slots := #[.int (34)], vm := .none },
  { cls := 8, slots := #[.int (35)], vm := .none },
  { cls := 8, slots := #[.int (36)], vm := .none },
  { cls := 8, slots := #[.int (37)], vm := .none },
  { cls := 8, slots := #[.int (38)], vm := .none },
  { cls := 8, slots := #[.int (39)], vm := .none },
  { cls := 8, slots := #[.int (40)], vm := .none },
  { cls := 8, slots := #[.int (41)], vm := .none },
  { cls := 8, slots := #[.int (42)], vm := .none },
  { cls := 8, slots := #[.int (43)], vm := .none },
  { cls := 8, slots := #[.int (44)], vm := .none },
  { cls := 8, slots := #[.int (45)], vm := .none },
  { cls := 8, slots := #[.int (46)], vm := .none },
  { cls := 8, slots := #[.int (47)], vm := .none },
  { cls := 8, slots := #[.int (48)], vm := .none },
  { cls := 8, slots := #[.int (49)], vm := .none },
  { cls := 8, slots := #[.int (50)], vm := .none },
  { cls := 8, slots := #[.int (51)], vm := .none },
  { cls := 8, slots := #[.int (52)], vm := .none },
  { cls := 8, slots := #[.int (53)], vm := .none },
  { cls := 8, slots := #[.int (54)], vm := .none },
  { cls := 8, slots := #[.int (55)], vm := .none },
  { cls := 8, slots := #[.int (56)], vm := .none },
  { cls := 8, slots := #[.int (57)], vm := .none },
  { cls := 8, slots := #[.int (58)], vm := .none },
  { cls := 8, slots := #[.int (59)], vm := .none },
  { cls := 8, slots := #[.int (60)], vm := .none },
  { cls := 8, slots := #[.int (61)], vm := .none },
  { cls := 8, slots := #[.int (62)], vm := .none },
  { cls := 8, slots := #[.int (63)], vm := .none },
  { cls := 8, slots := #[.int (64)], vm := .none },
  { cls := 8, slots := #[.int (65)], vm := .none },
  { cls := 8, slots := #[.int (66)], vm := .none },
  { cls := 8, slots := #[.int (67)], vm := .none },
  { cls := 8, slots := #[.int (68)], vm := .none },
  { cls := 8, slots := #[.int (69)], vm := .none },
  { cls := 8, slots := #[.int (70)], vm := .none },
  { cls := 8, slots := #[.int (71)], vm := .none },
  { cls := 8, slots := #[.int (72)], vm := .none },
  { cls := 8, slots := #[.int (73)], vm := .none },
  { cls := 8, slots := #[.int (74)], vm := .none },
  { cls := 8, slots := #[.int (75)], vm := .none },
  { cls := 8, slots := #[.int (76)], vm := .none },
  { cls := 8, slots := #[.int (77)], vm := .none },
  { cls := 8, slots := #[.int (78)], vm := .none },
  { cls := 8, slots := #[.int (79)], vm := .none },
  { cls := 8, slots := #[.int (80)], vm := .none },
  { cls := 8, slots := #[.int (81)], vm := .none },
  { cls := 8, slots := #[.int (82)], vm := .none },
  { cls := 8, slots := #[.int (83)], vm := .none },
  { cls := 8, slots := #[.int (84)], vm := .none },
  { cls := 8, slots := #[.int (85)], vm := .none },
  { cls := 8, slots := #[.int (86)], vm := .none },
  { cls := 8, slots := #[.int (87)], vm := .none },
  { cls := 8, slots := #[.int (88)], vm := .none },
  { cls := 8, slots := #[.int (89)], vm := .none },
  { cls := 8, slots := #[.int (90)], vm := .none },
  { cls := 8, slots := #[.int (91)], vm := .none },
  { cls := 8, slots := #[.int (92)], vm := .none },
  { cls := 8, slots := #[.int (93)], vm := .none },
  { cls := 8, slots := #[.int (94)], vm := .none },
  { cls := 8, slots := #[.int (95)], vm := .none },
  { cls := 8, slots := #[.int (96)], vm := .none },
  { cls := 8, slots := #[.int (97)], vm := .none },
  { cls := 8, slots := #[.int (98)], vm := .none },
  { cls := 8, slots := #[.int (99)], vm := .none },
  { cls := 8, slots := #[.int (100)], vm := .none },
  { cls := 8, slots := #[.int (101)], vm := .none },
  { cls := 8, slots := #[.int (102)], vm := .none },
  { cls := 8, slots := #[.int (103)], vm := .none },
  { cls := 8, slots := #[.int (104)], vm := .none },
  { cls := 8, slots := #[.int (105)], vm := .none },
  { cls := 8, slots := #[.int (106)], vm := .none },
  { cls := 8, slots := #[.int (107)], vm := .none },
  { cls := 8, slots := #[.int (108)], vm := .none },
  { cls := 8, slots := #[.int (109)], vm := .none },
  { cls := 8, slots := #[.int (110)], vm := .none },
  { cls := 8, slots := #[.int (111)], vm := .none },
  { cls := 8, slots := #[.int (112)], vm := .none },
  { cls := 8, slots := #[.int (113)], vm := .none },
  { cls := 8, slots := #[.int (114)], vm := .none },
  { cls := 8, slots := #[.int (115)], vm := .none },
  { cls := 8, slots := #[.int (116)], vm := .none },
  { cls := 8, slots := #[.int (117)], vm := .none },
  { cls := 8, slots := #[.int (118)], vm := .none },
  { cls := 8, slots := #[.int (119)], vm := .none },
  { cls := 8, slots := #[.int (120)], vm := .none },
  { cls := 8, slots := #[.int (121)], vm := .none },
  { cls := 8, slots := #[.int (122)], vm := .none },
  { cls := 8, slots := #[.int (123)], vm := .none },
  { cls := 8, slots := #[.int (124)], vm := .none },
  { cls := 8, slots := #[.int (125)], vm := .none },
  { cls := 8, slots := #[.int (126)], vm := .none },
  { cls := 8, slots := #[.int (127)], vm := .none }]
def classes : Array Class := #[k0, k1, k2, k3, k4, k5, k6, k7, k8, k9, k10, k11, k12, k13, k14, k15]
def interned : List (Array UInt16 × Addr) := []
def slotsUsed : Nat := 517
def theMethod : MethodId := ⟨1, 1⟩
def args0 : Array Value := #[.int 5, .int 3, .int 7]
def aboutOver (below : List Frame) : State where
  vm := { classes := classes, interned := interned.toArray }
  heap := heap
  slotsUsed := slotsUsed
  threads := #[{ frames := .invoking theMethod args0 :: below }]
def below0 : List Frame := [.native { method := ⟨0, 0⟩, args := #[] }]
def about1 : State := aboutOver below0
def p0 : Program := .bare "" "" ""
def e0 : Env := launch0.env 0 0 0
theorem w_frames : about1.frames = Frame.invoking theMethod args0 :: below0 := rfl
set_option maxRecDepth 65536 in
theorem w_args : argsFit about1.vm theMethod args0 = true := by decide +kernel
set_option maxRecDepth 65536 in
theorem w_heap : heapFits about1 = true := by decide +kernel
set_option maxRecDepth 65536 in
theorem w_runnable : about1.curStatus? = some .runnable := by decide +kernel
set_option maxRecDepth 65536 in
theorem w_alone : about1.alone = true := by decide +kernel
set_option maxRecDepth 65536 in
theorem w_named : about1.methodNamed? x = some theMethod := by decide +kernel
set_option maxRecDepth 65536 in
theorem w_hears : about1.hears theMethod below0 = true := by decide +kernel
set_option maxRecDepth 65536 in
theorem w_ripe : about1.ripe theMethod args0 below0 = true := by decide +kernel
theorem w_running : about1.status = .running := rfl
set_option maxRecDepth 65536 in
theorem w_room : about1.hasRoom e0.platform room_1 = true :=
  launch0.hasRoom_least _ room_1 (by decide +kernel) (by decide +kernel) (by decide +kernel) (by decide +kernel) (by decide +kernel) (by decide +kernel)
theorem allAtoms_all (ts : List Jvm.Cond) (a : Array Jvm.Value) (st : Jvm.State) : (allAtoms ts).before a st = ts.all (fun c => c.before a st) := by
  induction ts with
  | nil => rfl
  | cons c t ih =>
    show (Jvm.Cond.and c (allAtoms t)).before a st = _
    rw [Jvm.Cond.before_and, ih, List.all_cons]
def words1 : List Jvm.Cond := Jvm.Cond.code x code maxLocals ret :: tables_1
/-- a 'code' word, met by the world's own term for the bytes: nothing is compared byte by byte -/
theorem code_word {y : MethodName} {bytes : ByteArray} {mx : Nat} {rt : Option FieldType} {a : Array Value} {s : State} {m : MethodId} {meth : Method} {c : Code} (h1 : s.methodNamed? y = some m) (h2 : s.vm.method? m = some meth) (h3 : meth.code = some c) (h4 : c.code = bytes)
    (h5 : (c.maxLocals == mx && c.exceptionTable.isEmpty && decide (c.maxStack ≤ mostOperands) && decide (meth.sig.returnType = rt) && !meth.locks && decide (parseMethodDescriptor y.desc = some meth.sig)) = true) : (Jvm.Cond.code y bytes mx rt).before a s = true := by
  simp only [Bool.and_eq_true, beq_iff_eq, Bool.not_eq_true', decide_eq_true_eq] at h5
  obtain ⟨⟨⟨⟨⟨g1, g2⟩, g3⟩, g4⟩, g5⟩, g6⟩ := h5
  simp [Cond.before, Cond.holds, Cond.value, h1, h2, h3, h4, g1, g2, g3, g4, g5, g6]
def isCode : Jvm.Cond → Bool
  | .code _ _ _ _ => true
  | _ => false
theorem all_split {L : List Jvm.Cond} {P : Jvm.Cond → Bool} (h1 : L.all (fun c => isCode c || P c) = true) (h2 : ∀ c ∈ L.filter isCode, P c = true) : L.all P = true := by
  refine List.all_eq_true.mpr fun c hc => ?_
  have h := List.all_eq_true.mp h1 c hc
  rcases Bool.eq_false_or_eq_true (isCode c) with hi | hi
  · exact h2 c (List.mem_filter.mpr ⟨hc, hi⟩)
  · simpa [hi] using h
set_option maxRecDepth 65536 in
theorem w_c0 : (Jvm.Cond.code x code maxLocals ret).before args0 about1 = true := code_word (m := ⟨1, 1⟩) (meth := k1m1) (c := k1c1) (by decide +kernel) rfl rfl rfl (by decide +kernel)
set_option maxRecDepth 65536 in
theorem w_c1 : (Jvm.Cond.code ({ cls := "com/example/pathwise/pathwise/ExactInteger", name := "of", desc := "(I)Ljava/lang/Object;" } : Jvm.MethodName) prog_36_method_2_code (1 : Nat) (Option.some (Jvm.ClassFile.FieldType.object "java/lang/Object"))).before args0 about1 = true := code_word (m := ⟨2, 1⟩) (meth := k2m1) (c := k2c1) (by decide +kernel) rfl rfl rfl (by decide +kernel)
set_option maxRecDepth 65536 in
theorem w_c2 : (Jvm.Cond.code ({ cls := "com/example/pathwise/pathwise/ExactInteger", name := "<init>", desc := "(JLjava/lang/Object;Ljava/lang/Object;)V" } : Jvm.MethodName) prog_36_method_1_code (5 : Nat) (Option.none : Option Jvm.ClassFile.FieldType)).before args0 about1 = true := code_word (m := ⟨2, 0⟩) (meth := k2m0) (c := k2c0) (by decide +kernel) rfl rfl rfl (by decide +kernel)
set_option maxRecDepth 65536 in
theorem w_c3 : (Jvm.Cond.code ({ cls := "java/lang/Object", name := "<init>", desc := "()V" } : Jvm.MethodName) object_method_1_code (1 : Nat) (Option.none : Option Jvm.ClassFile.FieldType)).before args0 about1 = true := code_word (m := ⟨0, 0⟩) (meth := k0m0) (c := k0c0) (by decide +kernel) rfl rfl rfl (by decide +kernel)
set_option maxRecDepth 65536 in
theorem w_c4 : (Jvm.Cond.code ({ cls := "com/example/pathwise/pathwise/ExactInteger", name := "plain", desc := "(Ljava/lang/Object;)Ljava/lang/Object;" } : Jvm.MethodName) prog_36_method_12_code (2 : Nat) (Option.some (Jvm.ClassFile.FieldType.object "java/lang/Object"))).before args0 about1 = true := code_word (m := ⟨2, 5⟩) (meth := k2m5) (c := k2c5) (by decide +kernel) rfl rfl rfl (by decide +kernel)
set_option maxRecDepth 65536 in
theorem w_c5 : (Jvm.Cond.code ({ cls := "com/example/pathwise/pathwise/ExactInteger", name := "boxed", desc := "()Ljava/lang/Object;" } : Jvm.MethodName) prog_36_method_13_code (1 : Nat) (Option.some (Jvm.ClassFile.FieldType.object "java/lang/Object"))).before args0 about1 = true := code_word (m := ⟨2, 6⟩) (meth := k2m6) (c := k2c6) (by decide +kernel) rfl rfl rfl (by decide +kernel)
set_option maxRecDepth 65536 in
theorem w_c6 : (Jvm.Cond.code ({ cls := "com/example/pathwise/pathwise/ExactInteger", name := "isLong", desc := "()Z" } : Jvm.MethodName) prog_36_method_14_code (1 : Nat) (Option.some Jvm.ClassFile.FieldType.boolean)).before args0 about1 = true := code_word (m := ⟨2, 7⟩) (meth := k2m7) (c := k2c7) (by decide +kernel) rfl rfl rfl (by decide +kernel)
set_option maxRecDepth 65536 in
theorem w_c7 : (Jvm.Cond.code ({ cls := "com/example/pathwise/pathwise/ExactInteger", name := "isLong", desc := "(Ljava/lang/Object;)Z" } : Jvm.MethodName) prog_36_method_16_code (2 : Nat) (Option.some Jvm.ClassFile.FieldType.boolean)).before args0 about1 = true := code_word (m := ⟨2, 9⟩) (meth := k2m9) (c := k2c9) (by decide +kernel) rfl rfl rfl (by decide +kernel)
set_option maxRecDepth 65536 in
theorem w_c8 : (Jvm.Cond.code ({ cls := "java/lang/Integer", name := "valueOf", desc := "(I)Ljava/lang/Integer;" } : Jvm.MethodName) jdk_33_method_22_code (1 : Nat) (Option.some (Jvm.ClassFile.FieldType.object "java/lang/Integer"))).before args0 about1 = true := code_word (m := ⟨8, 0⟩) (meth := k8m0) (c := k8c0) (by decide +kernel) rfl rfl rfl (by decide +kernel)
set_option maxRecDepth 65536 in
theorem w_c9 : (Jvm.Cond.code ({ cls := "java/lang/Integer", name := "intValue", desc := "()I" } : Jvm.MethodName) jdk_33_method_27_code (1 : Nat) (Option.some Jvm.ClassFile.FieldType.int)).before args0 about1 = true := code_word (m := ⟨8, 2⟩) (meth := k8m2) (c := k8c2) (by decide +kernel) rfl rfl rfl (by decide +kernel)
set_option maxRecDepth 65536 in
theorem w_c10 : (Jvm.Cond.code ({ cls := "com/example/pathwise/pathwise/ExactInteger", name := "less", desc := "(Lcom/example/pathwise/pathwise/Evaluation;Lcom/example/pathwise/pathwise/Operator;Ljava/lang/Object;Ljava/lang/Object;)Z" } : Jvm.MethodName) prog_36_method_6_code (4 : Nat) (Option.some Jvm.ClassFile.FieldType.boolean)).before args0 about1 = true := code_word (m := ⟨2, 2⟩) (meth := k2m2) (c := k2c2) (by decide +kernel) rfl rfl rfl (by decide +kernel)
set_option maxRecDepth 65536 in
theorem w_c11 : (Jvm.Cond.code ({ cls := "com/example/pathwise/pathwise/ExactInteger", name := "isExact", desc := "(Ljava/lang/Object;)Z" } : Jvm.MethodName) prog_36_method_15_code (1 : Nat) (Option.some Jvm.ClassFile.FieldType.boolean)).before args0 about1 = true := code_word (m := ⟨2, 8⟩) (meth := k2m8) (c := k2c8) (by decide +kernel) rfl rfl rfl (by decide +kernel)
set_option maxRecDepth 65536 in
theorem w_c12 : (Jvm.Cond.code ({ cls := "com/example/pathwise/pathwise/ExactInteger", name := "valueOf", desc := "(Ljava/lang/Object;)J" } : Jvm.MethodName) prog_36_method_17_code (2 : Nat) (Option.some Jvm.ClassFile.FieldType.long)).before args0 about1 = true := code_word (m := ⟨2, 10⟩) (meth := k2m10) (c := k2c10) (by decide +kernel) rfl rfl rfl (by decide +kernel)
set_option maxRecDepth 65536 in
theorem w_c13 : (Jvm.Cond.code ({ cls := "com/example/pathwise/pathwise/ExactInteger", name := "equal", desc := "(Lcom/example/pathwise/pathwise/Evaluation;Lcom/example/pathwise/pathwise/Operator;Ljava/lang/Object;Ljava/lang/Object;)Z" } : Jvm.MethodName) prog_36_method_10_code (4 : Nat) (Option.some Jvm.ClassFile.FieldType.boolean)).before args0 about1 = true := code_word (m := ⟨2, 4⟩) (meth := k2m4) (c := k2c4) (by decide +kernel) rfl rfl rfl (by decide +kernel)
set_option maxRecDepth 65536 in
theorem w_c14 : (Jvm.Cond.code ({ cls := "com/example/pathwise/pathwise/ExactInteger", name := "greater", desc := "(Lcom/example/pathwise/pathwise/Evaluation;Lcom/example/pathwise/pathwise/Operator;Ljava/lang/Object;Ljava/lang/Object;)Z" } : Jvm.MethodName) prog_36_method_8_code (4 : Nat) (Option.some Jvm.ClassFile.FieldType.boolean)).before args0 about1 = true := code_word (m := ⟨2, 3⟩) (meth := k2m3) (c := k2c3) (by decide +kernel) rfl rfl rfl (by decide +kernel)
set_option maxRecDepth 65536 in
theorem w_c15 : (Jvm.Cond.code ({ cls := "java/lang/Integer", name := "<init>", desc := "(I)V" } : Jvm.MethodName) jdk_33_method_23_code (2 : Nat) (Option.none : Option Jvm.ClassFile.FieldType)).before args0 about1 = true := code_word (m := ⟨8, 1⟩) (meth := k8m1) (c := k8c1) (by decide +kernel) rfl rfl rfl (by decide +kernel)
set_option maxRecDepth 65536 in
theorem w_c16 : (Jvm.Cond.code ({ cls := "java/lang/Number", name := "<init>", desc := "()V" } : Jvm.MethodName) jdk_18_method_1_code (1 : Nat) (Option.none : Option Jvm.ClassFile.FieldType)).before args0 about1 = true := code_word (m := ⟨4, 0⟩) (meth := k4m0) (c := k4c0) (by decide +kernel) rfl rfl rfl (by decide +kernel)
def codes1 : List Jvm.Cond := [Jvm.Cond.code x code maxLocals ret, Jvm.Cond.code ({ cls := "com/example/pathwise/pathwise/ExactInteger", name := "of", desc := "(I)Ljava/lang/Object;" } : Jvm.MethodName) prog_36_method_2_code (1 : Nat) (Option.some (Jvm.ClassFile.FieldType.object "java/lang/Object")), Jvm.Cond.code ({ cls := "com/example/pathwise/pathwise/ExactInteger", name := "<init>", desc := "(JLjava/lang/Object;Ljava/lang/Object;)V" } : Jvm.MethodName) prog_36_method_1_code (5 : Nat) (Option.none : Option Jvm.ClassFile.FieldType), Jvm.Cond.code ({ cls := "java/lang/Object", name := "<init>", desc := "()V" } : Jvm.MethodName) object_method_1_code (1 : Nat) (Option.none : Option Jvm.ClassFile.FieldType), Jvm.Cond.code ({ cls := "com/example/pathwise/pathwise/ExactInteger", name := "plain", desc := "(Ljava/lang/Object;)Ljava/lang/Object;" } : Jvm.MethodName) prog_36_method_12_code (2 : Nat) (Option.some (Jvm.ClassFile.FieldType.object "java/lang/Object")), Jvm.Cond.code ({ cls := "com/example/pathwise/pathwise/ExactInteger", name := "boxed", desc := "()Ljava/lang/Object;" } : Jvm.MethodName) prog_36_method_13_code (1 : Nat) (Option.some (Jvm.ClassFile.FieldType.object "java/lang/Object")), Jvm.Cond.code ({ cls := "com/example/pathwise/pathwise/ExactInteger", name := "isLong", desc := "()Z" } : Jvm.MethodName) prog_36_method_14_code (1 : Nat) (Option.some Jvm.ClassFile.FieldType.boolean), Jvm.Cond.code ({ cls := "com/example/pathwise/pathwise/ExactInteger", name := "isLong", desc := "(Ljava/lang/Object;)Z" } : Jvm.MethodName) prog_36_method_16_code (2 : Nat) (Option.some Jvm.ClassFile.FieldType.boolean), Jvm.Cond.code ({ cls := "java/lang/Integer", name := "valueOf", desc := "(I)Ljava/lang/Integer;" } : Jvm.MethodName) jdk_33_method_22_code (1 : Nat) (Option.some (Jvm.ClassFile.FieldType.object "java/lang/Integer")), Jvm.Cond.code ({ cls := "java/lang/Integer", name := "intValue", desc := "()I" } : Jvm.MethodName) jdk_33_method_27_code (1 : Nat) (Option.some Jvm.ClassFile.FieldType.int), Jvm.Cond.code ({ cls := "com/example/pathwise/pathwise/ExactInteger", name := "less", desc := "(Lcom/example/pathwise/pathwise/Evaluation;Lcom/example/pathwise/pathwise/Operator;Ljava/lang/Object;Ljava/lang/Object;)Z" } : Jvm.MethodName) prog_36_method_6_code (4 : Nat) (Option.some Jvm.ClassFile.FieldType.boolean), Jvm.Cond.code ({ cls := "com/example/pathwise/pathwise/ExactInteger", name := "isExact", desc := "(Ljava/lang/Object;)Z" } : Jvm.MethodName) prog_36_method_15_code (1 : Nat) (Option.some Jvm.ClassFile.FieldType.boolean), Jvm.Cond.code ({ cls := "com/example/pathwise/pathwise/ExactInteger", name := "valueOf", desc := "(Ljava/lang/Object;)J" } : Jvm.MethodName) prog_36_method_17_code (2 : Nat) (Option.some Jvm.ClassFile.FieldType.long), Jvm.Cond.code ({ cls := "com/example/pathwise/pathwise/ExactInteger", name := "equal", desc := "(Lcom/example/pathwise/pathwise/Evaluation;Lcom/example/pathwise/pathwise/Operator;Ljava/lang/Object;Ljava/lang/Object;)Z" } : Jvm.MethodName) prog_36_method_10_code (4 : Nat) (Option.some Jvm.ClassFile.FieldType.boolean), Jvm.Cond.code ({ cls := "com/example/pathwise/pathwise/ExactInteger", name := "greater", desc := "(Lcom/example/pathwise/pathwise/Evaluation;Lcom/example/pathwise/pathwise/Operator;Ljava/lang/Object;Ljava/lang/Object;)Z" } : Jvm.MethodName) prog_36_method_8_code (4 : Nat) (Option.some Jvm.ClassFile.FieldType.boolean), Jvm.Cond.code ({ cls := "java/lang/Integer", name := "<init>", desc := "(I)V" } : Jvm.MethodName) jdk_33_method_23_code (2 : Nat) (Option.none : Option Jvm.ClassFile.FieldType), Jvm.Cond.code ({ cls := "java/lang/Number", name := "<init>", desc := "()V" } : Jvm.MethodName) jdk_18_method_1_code (1 : Nat) (Option.none : Option Jvm.ClassFile.FieldType)]
set_option maxRecDepth 65536 in
theorem codes_eq : words1.filter isCode = codes1 := rfl
theorem w_codes : ∀ c ∈ words1.filter isCode, c.before args0 about1 = true := by
  rw [codes_eq]
  intro c hc
  simp only [codes1, List.mem_cons, List.not_mem_nil, or_false] at hc
  rcases hc with rfl | rfl | rfl | rfl | rfl | rfl | rfl | rfl | rfl | rfl | rfl | rfl | rfl | rfl | rfl | rfl | rfl
  · exact w_c0
  · exact w_c1
  · exact w_c2
  · exact w_c3
  · exact w_c4
  · exact w_c5
  · exact w_c6
  · exact w_c7
  · exact w_c8
  · exact w_c9
  · exact w_c10
  · exact w_c11
  · exact w_c12
  · exact w_c13
  · exact w_c14
  · exact w_c15
  · exact w_c16
set_option maxRecDepth 65536 in
theorem w_t1 : (words1.take 24).all (fun c => isCode c || c.before args0 about1) = true := by decide +kernel
set_option maxRecDepth 65536 in
theorem w_t2 : ((words1.drop 24).take 24).all (fun c => isCode c || c.before args0 about1) = true := by decide +kernel
set_option maxRecDepth 65536 in
theorem w_t3 : (((words1.drop 24).drop 24).take 24).all (fun c => isCode c || c.before args0 about1) = true := by decide +kernel
set_option maxRecDepth 65536 in
theorem w_t4 : (((words1.drop 24).drop 24).drop 24).all (fun c => isCode c || c.before args0 about1) = true := by decide +kernel
theorem w_tables : (allAtoms (Jvm.Cond.code x code maxLocals ret :: tables_1)).before args0 about1 = true := by
  rw [allAtoms_all]
  show words1.all (fun c => c.before args0 about1) = true
  refine all_split ?_ w_codes
  rw [← List.take_append_drop 24 words1, List.all_append, w_t1, ← List.take_append_drop 24 (words1.drop 24), List.all_append, w_t2, ← List.take_append_drop 24 ((words1.drop 24).drop 24), List.all_append, w_t3, w_t4]
  rfl
set_option maxRecDepth 65536 in
theorem w_rest : rest_1_c.before args0 about1 = true := by decide +kernel
set_option maxRecDepth 65536 in
theorem w_case : (Jvm.Cond.and given_1 narrow_1).before args0 about1 = true := by decide +kernel
theorem w_applies : (headSpec (Jvm.Cond.code x code maxLocals ret :: tables_1) room_1).applies x e0.platform about1 = true :=
  (Spec.applies_iff w_frames).mpr ⟨w_running, w_runnable, w_alone, w_named, w_hears, w_ripe, w_room, w_tables⟩
theorem atStart : AtStart classFile x code maxLocals ret World_1 tables_1 room_1 Calls_1 rest_1 Pre_1 launch0 p0 e0 about1 theMethod args0 below0 :=
  ⟨lists_1, trivial, launch0.admits_env _ _ _, launch0.least_env, fairChoices_fair.cas, fairChoices_fair.clock, w_frames, w_args, w_heap, w_applies, trivial, w_rest, w_case⟩
end start1
theorem witness_1 : WitnessClaimed_1 := ⟨start1.p0, start1.e0, start1.about1, start1.theMethod, start1.args0, start1.below0, start1.atStart⟩
end Jvm.Pilot.@@N@@
