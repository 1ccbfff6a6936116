import JvmDerived
import JvmDerived.Pilot.@@N@@Statement
import JvmDerived.Pilot.@@N@@Code
set_option linter.unusedVariables false
set_option linter.unusedSimpArgs false
@@BLOCK:NumsL.lean.txt@@
namespace Jvm.Pilot.@@N@@
open Jvm Jvm.ClassFile Sem Op Lib Jvm.Free Jvm.Stand Jvm.LawKit Jvm.RoadKit Bundle Jvm.Pilot.@@N@@.Jvm.D
section OwnKit
variable {p : Program} {l : Launch} {e : Env} {R : Room} {s : State} {m : MethodId} {args : Array Value} {below : List Frame} {meth : Method} {c : Code} {T : State} {locs : List Loc} {cells slots : Nat} {Z : State} {a0 : Array Value} {h h' : Heap}
/-- from S the run comes to an end of which P holds -/
def Go (p : Program) (e : Env) (below : List Frame) (P : State → Outcome → Prop) (S : State) : Prop :=
  ∃ s₂ o, Steps p.tables e below S s₂ ∧ s₂.status = .running ∧ Ended s₂ below o ∧ P s₂ o
/-- what a contract says of the end -/
def Ret (s : State) (Q : Option Value → Heap → List Loc → Prop) (cs sl : Nat) : State → Outcome → Prop :=
  fun s₂ o => ∃ v L, o = .returned v ∧ Q v s₂.heap L ∧ FrameEnd s o s₂ L cs sl
theorem Go.st {P : State → Outcome → Prop} {S S' : State} (k : ∀ t, Steps p.tables e below S' t → Steps p.tables e below S t) (g : Go p e below P S') : Go p e below P S := by
  obtain ⟨t, o, q, r⟩ := g
  exact ⟨t, o, k t q, r⟩
/-- a contract in this family: entered with these arguments on this heap -/
abbrev Con (l : Launch) (Z : State) (h0 : Heap) (y : MethodName) (bytes : ByteArray) (maxL : Nat) (ret : Option FieldType) (ws : List Jvm.Cond) (rm : Room) (as' : Array Value) (Q : Option Value → Heap → List Loc → Prop) : Prop :=
  MetFree l y (head1 (Jvm.Cond.code y bytes maxL ret :: ws) rm) (fun a U => a = as' ∧ Z.Warmed39 U.vm ∧ U.heap = h0) (fun _ _ _ _ _ => True) (fun _ U o U' => ∃ v L, o = .returned v ∧ Q v U'.heap L ∧ FrameEnd U o U' L rm.cells rm.slots)
theorem own_con {h0 : Heap} {y : MethodName} {bytes : ByteArray} {maxL : Nat} {ret : Option FieldType} {ws : List Jvm.Cond} {rm : Room} {as' : Array Value} {Q : Option Value → Heap → List Loc → Prop} (hpl : plainFor y = true)
    (body : ∀ (p : Program) (e : Env) (s : State) (m : MethodId) (below : List Frame) (meth : Method) (c : Code) (T : State), Stand p l e rm s m as' below meth c T [] 0 0 → p.tables.exec = Jvm.exec → c.code = bytes → c.maxLocals = maxL → s.vm.findClass y.cls = some m.cls → meth.name = y.name → meth.sig.returnType = ret → meth.locks = false → Z.Warmed39 s.vm → T.heap = h0 →
      Go p e below (Ret s Q rm.cells rm.slots) (T.setTop (entryFrame m as' maxL))) : Con l Z h0 y bytes maxL ret ws rm as' Q := by
  refine MetFree.of_bodySF hpl hisR ?_
  intro p e s m args below meth c s₁ Bd hml0 hP hK
  obtain ⟨rfl, hZ, hh⟩ := hP
  exact body p e s m below meth c s₁ (Stand.of_body Bd) Bd.exec Bd.bytes hml0 (findClass_of_methodNamed Bd.named) (name_of_methodNamed Bd.named Bd.method).1 Bd.returns Bd.notSynchronized hZ (by rw [← hh, Bd.state]; rfl)
theorem own_callS (X : Stand p l e R s m args below meth c T locs cells slots) (hx : p.tables.exec = Jvm.exec) (hZ : Z.Warmed39 s.vm)
    {own : String} {index : Nat} {y : MethodName} {bytes : ByteArray} {maxL : Nat} {ret : Option FieldType} {rm : Room} {as' : Array Value} {Q : Option Value → Heap → List Loc → Prop}
    (hown : s.vm.findClass own = some m.cls) (w1 : (Jvm.Cond.methodLink own index y).before a0 Z = true) (w2 : (Jvm.Cond.static y).before a0 Z = true) (w3 : (Jvm.Cond.initialized y.cls).before a0 Z = true) (w4 : (Jvm.Cond.code y bytes maxL ret).before a0 Z = true)
    (hy : y.cls ≠ "java/lang/invoke/MethodHandle" ∧ y.cls ≠ "java/lang/invoke/VarHandle") (eT : T.heap = h) (hM : Con l Z h y bytes maxL ret [] rm as' Q)
    (W : Nat) (hf : rm.frames + 1 ≤ R.frames) (hl : W + (maxL + 11) + rm.locals ≤ R.locals) (hc : cells + rm.cells ≤ R.cells) (hs : slots + rm.slots ≤ R.slots)
    {g : JFrame} (hg : g.method = m) (hsize : g.locals.size = c.maxLocals) (argsL rest : List Value) (has : argsL.toArray = as') (hlen : ∀ sig, parseMethodDescriptor y.desc = some sig → argsL.length = sig.parameters.length) (hstack : g.stack = argsL.reverse ++ rest) (hW : 2 * g.monitorRoom + (rest.map fun v => v.category).sum ≤ W)
    (hd : decode c.code g.pc = .ok (.invokestatic index, 3)) :
    ∃ (v : Option Value) (T' : State) (L : List Loc), Stand p l e R s m args below meth c T' (locs ++ L) (cells + rm.cells) (slots + rm.slots) ∧ Q v T'.heap L ∧ ∀ t, Steps p.tables e below (T'.setTop { g with pc := g.pc + 3, stack := v.toList ++ rest }) t → Steps p.tables e below (T.setTop g) t := by
  obtain ⟨v, _, ⟨T', L', k', n'⟩, -, X', ⟨L, hQ, l1, l2, l3⟩, st⟩ := Jvm.LawKit.callS X hx hown (mvT hZ w1) (mvT hZ w2) (mvT hZ w3) (mvT hZ w4) hy (backOf (W := W) hM hZ w4 w3 hf hl) hg hsize hlen hstack hW hd (fun _ _ => ⟨has, eT, hc, hs⟩)
  dsimp only [Pt.U, Pt.locs, Pt.cells, Pt.slots] at X' l1 l2 l3 st hQ
  subst l1 l2 l3
  exact ⟨v, T', L, X', hQ, st⟩
theorem own_callV (X : Stand p l e R s m args below meth c T locs cells slots) (hx : p.tables.exec = Jvm.exec) (hZ : Z.Warmed39 s.vm)
    {own C : String} {index : Nat} {y z : MethodName} {bytes : ByteArray} {maxL : Nat} {ret : Option FieldType} {rm : Room} {as' : Array Value} {Q : Option Value → Heap → List Loc → Prop} {b : Addr}
    (hown : s.vm.findClass own = some m.cls) (w1 : (Jvm.Cond.methodLink own index y).before a0 Z = true) (w2 : (Jvm.Cond.declares y).before a0 Z = true) (hnf : NotFace s y) (w4 : (Jvm.Cond.selects C y z).before a0 Z = true) (w5 : (Jvm.Cond.instanceMethod z).before a0 Z = true) (w3 : (Jvm.Cond.initialized z.cls).before a0 Z = true) (w6 : (Jvm.Cond.code z bytes maxL ret).before a0 Z = true)
    (hy : y.cls ≠ "java/lang/invoke/MethodHandle" ∧ y.cls ≠ "java/lang/invoke/VarHandle") (eT : T.heap = h) (E : Exa Z h b C) (hM : Con l Z h z bytes maxL ret [] rm as' Q)
    (W : Nat) (hf : rm.frames + 1 ≤ R.frames) (hl : W + (maxL + 11) + rm.locals ≤ R.locals) (hc : cells + rm.cells ≤ R.cells) (hs : slots + rm.slots ≤ R.slots)
    {g : JFrame} (hg : g.method = m) (hsize : g.locals.size = c.maxLocals) (argsL rest : List Value) (has : (.ref b :: argsL).toArray = as') (hlen : ∀ sig, parseMethodDescriptor y.desc = some sig → argsL.length = sig.parameters.length) (hstack : g.stack = argsL.reverse ++ .ref b :: rest) (hW : 2 * g.monitorRoom + (rest.map fun v => v.category).sum ≤ W)
    (hd : decode c.code g.pc = .ok (.invokevirtual index, 3)) :
    ∃ (v : Option Value) (T' : State) (L : List Loc), Stand p l e R s m args below meth c T' (locs ++ L) (cells + rm.cells) (slots + rm.slots) ∧ Q v T'.heap L ∧ ∀ t, Steps p.tables e below (T'.setTop { g with pc := g.pc + 3, stack := v.toList ++ rest }) t → Steps p.tables e below (T.setTop g) t := by
  obtain ⟨cq, kq, qa, qb, qc⟩ := isOf hZ eT E
  obtain ⟨v, _, ⟨T', L', k', n'⟩, -, X', ⟨L, hQ, l1, l2, l3⟩, st⟩ := X.virtualBack hx hown (mvT hZ w1) (mvT hZ w2) hnf (mvT hZ w4) (mvT hZ w5) hy (backOf (W := W) hM hZ w6 w3 hf hl) qa qc hg hsize (Steps.refl _) hlen hstack hW hd (fun _ _ => ⟨has, eT, hc, hs⟩)
  dsimp only [Pt.U, Pt.locs, Pt.cells, Pt.slots] at X' l1 l2 l3 st hQ
  subst l1 l2 l3
  exact ⟨v, T', L, X', hQ, fun t k => st.trans k⟩
theorem own_callI (X : Stand p l e R s m args below meth c T locs cells slots) (hx : p.tables.exec = Jvm.exec) (hZ : Z.Warmed39 s.vm)
    {own : String} {index : Nat} {y : MethodName} {bytes : ByteArray} {maxL : Nat} {rm : Room} {as' : Array Value} {Q : Option Value → Heap → List Loc → Prop} {b : Addr} (hy1 : y.name = "<init>")
    (hown : s.vm.findClass own = some m.cls) (w1 : (Jvm.Cond.methodLink own index y).before a0 Z = true) (w5 : (Jvm.Cond.instanceMethod y).before a0 Z = true) (w3 : (Jvm.Cond.initialized y.cls).before a0 Z = true) (w6 : (Jvm.Cond.code y bytes maxL none).before a0 Z = true)
    (hy : y.cls ≠ "java/lang/invoke/MethodHandle" ∧ y.cls ≠ "java/lang/invoke/VarHandle") (eT : T.heap = h) (hM : Con l Z h y bytes maxL none [] rm as' Q)
    (W : Nat) (hf : rm.frames + 1 ≤ R.frames) (hl : W + (maxL + 11) + rm.locals ≤ R.locals) (hc : cells + rm.cells ≤ R.cells) (hs : slots + rm.slots ≤ R.slots)
    {g : JFrame} (hg : g.method = m) (hsize : g.locals.size = c.maxLocals) (argsL rest : List Value) (has : (.ref b :: argsL).toArray = as') (hlen : ∀ sig, parseMethodDescriptor y.desc = some sig → argsL.length = sig.parameters.length) (hstack : g.stack = argsL.reverse ++ .ref b :: rest) (hW : 2 * g.monitorRoom + (rest.map fun v => v.category).sum ≤ W)
    (hd : decode c.code g.pc = .ok (.invokespecial index, 3)) :
    ∃ (v : Option Value) (T' : State) (L : List Loc), Stand p l e R s m args below meth c T' (locs ++ L) (cells + rm.cells) (slots + rm.slots) ∧ Q v T'.heap L ∧ ∀ t, Steps p.tables e below (T'.setTop { g with pc := g.pc + 3, stack := v.toList ++ rest }) t → Steps p.tables e below (T.setTop g) t := by
  obtain ⟨v, _, ⟨T', L', k', n'⟩, -, X', ⟨L, hQ, l1, l2, l3⟩, st⟩ := X.specialBack hx hy1 hown (mvT hZ w1) (mvT hZ w5) (mvT hZ w6) hy (backOf (W := W) hM hZ w6 w3 hf hl) hg hsize (Steps.refl _) hlen hstack hW hd (fun _ _ => ⟨has, eT, hc, hs⟩)
  dsimp only [Pt.U, Pt.locs, Pt.cells, Pt.slots] at X' l1 l2 l3 st hQ
  subst l1 l2 l3
  exact ⟨v, T', L, X', hQ, fun t k => st.trans k⟩
/-- the end of a walk -/
theorem own_fin (X : Stand p l e R s m args below meth c T locs cells slots) (hlk : meth.locks = false) {v : Option Value} (hv : meth.sig.returnType = none → v = none) {Q : Option Value → Heap → List Loc → Prop} {cs sl : Nat} (eT : T.heap = h) (hQ : Q v h locs) (hc : cells ≤ cs) (hs : slots ≤ sl) {S : State}
    (k : ∀ fs : List Frame, (∀ (f : JFrame) (acts : List Action), f.method = m → f.locked = none → f.entered = [] → (doReturn e (T.setTop f) acts v).1 = T.setFrames fs) → Steps p.tables e below S (T.setFrames fs)) : Go p e below (Ret s Q cs sl) S := by
  obtain ⟨fs, hr, hrun, hended, hW, hsame⟩ := X.leave hv hlk
  refine ⟨_, _, k fs hr, hrun, hended, _, _, rfl, ?_, ⟨_, rfl⟩, hW, hsame.mono hc hs⟩
  have q : (T.setFrames fs).heap = h := eT
  rw [q]; exact hQ
theorem own_retO (X : Stand p l e R s m args below meth c T locs cells slots) (hx : p.tables.exec = Jvm.exec) (hlk : meth.locks = false) {pc : Nat} {Ls : Array Slot} {w : Value} {t : FieldType} {i : Instr} {rest : List Value} (hret : meth.sig.returnType = some t) (hn : narrow t w = w)
    (hi : (i = .ireturn ∧ (t = .int ∨ t = .boolean ∨ t = .byte ∨ t = .char ∨ t = .short) ∧ ∃ z, w = .int z) ∨ (i = .lreturn ∧ t = .long ∧ ∃ z, w = .long z) ∨ (i = .dreturn ∧ t = .double ∧ ∃ z, w = .double z) ∨ (i = .freturn ∧ t = .float ∧ ∃ z, w = .float z) ∨ (i = .areturn ∧ t.isReference = true ∧ w.isRef = true))
    (hd : decode c.code pc = .ok (i, 1)) {Q : Option Value → Heap → List Loc → Prop} {cs sl : Nat} (eT : T.heap = h) (hQ : Q (some w) h locs) (hc : cells ≤ cs) (hs : slots ≤ sl) : Go p e below (Ret s Q cs sl) (T.setTop (mkF m pc Ls (w :: rest))) :=
  own_fin X hlk (fun q => by rw [hret] at q; cases q) eT hQ hc hs fun fs hr => retOut X hx hret hn hi hd hr
theorem own_retI (X : Stand p l e R s m args below meth c T locs cells slots) (hx : p.tables.exec = Jvm.exec) (hlk : meth.locks = false) {pc : Nat} {Ls : Array Slot} {w : Int32} {rest : List Value} (hret : meth.sig.returnType = some .int)
    (hd : decode c.code pc = .ok (.ireturn, 1)) {Q : Option Value → Heap → List Loc → Prop} {cs sl : Nat} (eT : T.heap = h) (hQ : Q (some (.int w)) h locs) (hc : cells ≤ cs) (hs : slots ≤ sl) : Go p e below (Ret s Q cs sl) (T.setTop (mkF m pc Ls (.int w :: rest))) :=
  own_retO X hx hlk hret rfl (Or.inl ⟨rfl, Or.inl rfl, _, rfl⟩) hd eT hQ hc hs
theorem own_retJ (X : Stand p l e R s m args below meth c T locs cells slots) (hx : p.tables.exec = Jvm.exec) (hlk : meth.locks = false) {pc : Nat} {Ls : Array Slot} {w : Int64} {rest : List Value} (hret : meth.sig.returnType = some .long)
    (hd : decode c.code pc = .ok (.lreturn, 1)) {Q : Option Value → Heap → List Loc → Prop} {cs sl : Nat} (eT : T.heap = h) (hQ : Q (some (.long w)) h locs) (hc : cells ≤ cs) (hs : slots ≤ sl) : Go p e below (Ret s Q cs sl) (T.setTop (mkF m pc Ls (.long w :: rest))) :=
  own_retO X hx hlk hret rfl (Or.inr (Or.inl ⟨rfl, rfl, _, rfl⟩)) hd eT hQ hc hs
theorem own_retA (X : Stand p l e R s m args below meth c T locs cells slots) (hx : p.tables.exec = Jvm.exec) (hlk : meth.locks = false) {pc : Nat} {Ls : Array Slot} {w : Value} {t : FieldType} {rest : List Value} (hret : meth.sig.returnType = some t) (hn : narrow t w = w) (ht : t.isReference = true) (hw : w.isRef = true)
    (hd : decode c.code pc = .ok (.areturn, 1)) {Q : Option Value → Heap → List Loc → Prop} {cs sl : Nat} (eT : T.heap = h) (hQ : Q (some w) h locs) (hc : cells ≤ cs) (hs : slots ≤ sl) : Go p e below (Ret s Q cs sl) (T.setTop (mkF m pc Ls (w :: rest))) :=
  own_retO X hx hlk hret hn (Or.inr (Or.inr (Or.inr (Or.inr ⟨rfl, ht, hw⟩)))) hd eT hQ hc hs
theorem own_retN (X : Stand p l e R s m args below meth c T locs cells slots) (hx : p.tables.exec = Jvm.exec) (hlk : meth.locks = false) {pc : Nat} {Ls : Array Slot} {z : Int32} {t : FieldType} {rest : List Value} (hret : meth.sig.returnType = some t) (ht : t = .boolean ∨ t = .byte ∨ t = .char ∨ t = .short)
    (hd : decode c.code pc = .ok (.ireturn, 1)) {Q : Option Value → Heap → List Loc → Prop} {cs sl : Nat} (eT : T.heap = h) (hQ : Q (some (.int (nar t z))) h locs) (hc : cells ≤ cs) (hs : slots ≤ sl) : Go p e below (Ret s Q cs sl) (T.setTop (mkF m pc Ls (.int z :: rest))) :=
  own_fin X hlk (fun q => by rw [hret] at q; cases q) eT hQ hc hs fun fs hr => retN X hx hret ht hd hr
theorem own_retV (X : Stand p l e R s m args below meth c T locs cells slots) (hx : p.tables.exec = Jvm.exec) (hlk : meth.locks = false) {pc : Nat} {Ls : Array Slot} (hret : meth.sig.returnType = none)
    (hd : decode c.code pc = .ok (.return_, 1)) {Q : Option Value → Heap → List Loc → Prop} {cs sl : Nat} (eT : T.heap = h) (hQ : Q none h locs) (hc : cells ≤ cs) (hs : slots ≤ sl) : Go p e below (Ret s Q cs sl) (T.setTop (mkF m pc Ls [])) :=
  own_fin X hlk (fun _ => rfl) eT hQ hc hs fun fs hr => X.returnOut hx hret hd hr
theorem own_Llt {x y : Int64} (h : x < y) : ifCond.holds .lt (lcmpW x y) = true ∧ ifCond.holds .ge (lcmpW x y) = false := by
  have q := (lc_lt x y).mpr h; rw [← lcW] at q; exact ⟨(if0 _ _).trans (tlt q).1, (if0 _ _).trans (tlt q).2.1⟩
theorem own_Lnlt {x y : Int64} (h : ¬ x < y) : ifCond.holds .lt (lcmpW x y) = false ∧ ifCond.holds .ge (lcmpW x y) = true := by
  have q : ¬ lcmpW x y < 0 := fun r => h ((lc_lt x y).mp (by rw [← lcW]; exact r)); exact ⟨(if0 _ _).trans (flt q).1, (if0 _ _).trans (flt q).2.1⟩
theorem own_Lgt {x y : Int64} (h : y < x) : ifCond.holds .gt (lcmpW x y) = true ∧ ifCond.holds .le (lcmpW x y) = false := by
  have q := (lc_gt x y).mpr h; rw [← lcW] at q; exact ⟨(if0 _ _).trans (tlt q).2.2.1, (if0 _ _).trans (tlt q).2.2.2⟩
theorem own_Lngt {x y : Int64} (h : ¬ y < x) : ifCond.holds .gt (lcmpW x y) = false ∧ ifCond.holds .le (lcmpW x y) = true := by
  have q : ¬ 0 < lcmpW x y := fun r => h ((lc_gt x y).mp (by rw [← lcW]; exact r)); exact ⟨(if0 _ _).trans (flt q).2.2.1, (if0 _ _).trans (flt q).2.2.2⟩
theorem own_Leq {x y : Int64} (h : x = y) : ifCond.holds .eq (lcmpW x y) = true ∧ ifCond.holds .ne (lcmpW x y) = false := by
  have q := (lc_eq x y).mpr h; rw [← lcW] at q; exact ⟨(if0 _ _).trans (teq q).1, (if0 _ _).trans (teq q).2⟩
theorem own_Lne {x y : Int64} (h : ¬ x = y) : ifCond.holds .eq (lcmpW x y) = false ∧ ifCond.holds .ne (lcmpW x y) = true := by
  have q : ¬ lcmpW x y = 0 := fun r => h ((lc_eq x y).mp (by rw [← lcW]; exact r)); exact ⟨(if0 _ _).trans (feq q).1, (if0 _ _).trans (feq q).2⟩
theorem own_Ext.refl (h : Heap) : Ext h h := ⟨Nat.le_refl _, fun _ _ q => q⟩
theorem own_Ext.trans {h1 h2 h3 : Heap} (a : Ext h1 h2) (b : Ext h2 h3) : Ext h1 h3 := ⟨Nat.le_trans a.1 b.1, fun x c q => b.2 x c (a.2 x c q)⟩
theorem own_Ext.wr {h0 : Heap} {a : Addr} {sl : Nat} {v : Value} (E : Ext h0 h) (W : Wr h h' a sl v) (q : h0.size ≤ a) : Ext h0 h' := by
  have K : Keep h0 h [] := ⟨E.1, fun x c r _ => E.2 x c r, fun x c r => ⟨c, E.2 x c r, rfl, rfl, rfl⟩⟩
  have K' := K.wr W (Or.inr q)
  exact ⟨K'.1, fun x c r => K'.2.1 x c r (fun z => nomatch z)⟩
theorem own_Ext.keep {h0 : Heap} {ws : List Addr} (E : Ext h0 h) (K : Keep h h' ws) (q : ∀ x ∈ ws, h0.size ≤ x) : Ext h0 h' := by
  refine ⟨Nat.le_trans E.1 K.1, fun x c r => K.2.1 x c (E.2 x c r) fun z => ?_⟩
  have lt : x < h0.size := (Array.getElem?_eq_some_iff.mp r).1
  exact absurd (q x z) (Nat.not_le_of_lt lt)
theorem own_fldI {t : Term} {x : Addr} {C n d : String} {k : Int32} (ev : t.eval args s none [] s = some (.ref x)) (hq : (Jvm.Cond.eq (.field t C n d) (.int k)).value args s none s [] = some true) : Fld s s.heap x C n d (.int k) := by
  obtain ⟨u, v, e1, e2, k1, k2⟩ := cmp_v (Or.inl hq)
  obtain rfl : v = .int k := (Option.some.inj (e2.symm.trans (Term.int_eval k)))
  obtain ⟨z, rfl⟩ := k2
  obtain rfl : z = k := gotT (Jvm.Cond.eq_ints e1 (Term.int_eval k)) hq
  exact Fld.start ((fld_at ev).symm.trans e1)
theorem own_fldJ {t : Term} {x : Addr} {C n d : String} {k : Int64} (ev : t.eval args s none [] s = some (.ref x)) (hq : (Jvm.Cond.eq (.field t C n d) (.long k)).value args s none s [] = some true) : Fld s s.heap x C n d (.long k) := by
  obtain ⟨u, v, e1, e2, k1, k2⟩ := cmp_v (Or.inl hq)
  obtain rfl : v = .long k := (Option.some.inj (e2.symm.trans (long_at k)))
  obtain ⟨z, rfl⟩ := k2
  obtain rfl : z = k := gotT (eq_L e1 (long_at k)) hq
  exact Fld.start ((fld_at ev).symm.trans e1)
theorem own_len0 {t : Term} {x : Addr} {ty : FieldType} {cl : Cell} (ev : t.eval args s none [] s = some (.ref x)) (A : Arr s s.heap x cl ty) (hq : (Jvm.Cond.eq (.length t) (.int 0)).value args s none s [] = some true) : True := trivial
end OwnKit
/-- the sheet's i-th word -/
theorem ww {Z : State} {a0 : Array Value} (hw : ∀ d ∈ tables_1, d.before a0 Z = true) (i : Nat) {d : Jvm.Cond} (h : tables_1[i]? = some d) : d.before a0 Z = true := hw _ (List.mem_of_getElem? h)
theorem own_rem {x : Int32} {n : Int32} (hn : 0 < n.toInt) : 0 ≤ ((x &&& 2147483647) % n).toInt ∧ ((x &&& 2147483647) % n).toInt < n.toInt := by
  have e1 : (x &&& 2147483647).toInt = x.toInt % 2 ^ 31 := Jvm.Kit.i32_mask x 2147483647 (k := 31) (by decide) (by decide)
  have e2 := Jvm.Kit.i32_rem_nonneg (x := (x &&& 2147483647)) (y := n) (by omega)
  rw [e2]
  exact ⟨Int.emod_nonneg _ (by omega), Int.emod_lt_of_pos _ hn⟩
theorem own_i32 {x : Int32} {k : Int} (h : x.toInt = k) : x = Int32.ofInt k := by
  rw [← h, Int32.ofInt_toInt]
theorem own_lremE (x y : Int64) : x - (x / y) * y = x % y := Int64.toInt_inj.mp ((Jvm.Kit.i64_rem x y).trans (Int64.toInt_mod x y).symm)
theorem own_rem11 (x : Int32) : (x &&& 2147483647) % 11 = 0 ∨ (x &&& 2147483647) % 11 = 1 ∨ (x &&& 2147483647) % 11 = 2 ∨ (x &&& 2147483647) % 11 = 3 ∨ (x &&& 2147483647) % 11 = 4 ∨ (x &&& 2147483647) % 11 = 5 ∨ (x &&& 2147483647) % 11 = 6 ∨ (x &&& 2147483647) % 11 = 7 ∨ (x &&& 2147483647) % 11 = 8 ∨ (x &&& 2147483647) % 11 = 9 ∨ (x &&& 2147483647) % 11 = 10 := by
  have h := own_rem (x := x) (n := 11) (by decide)
  generalize (x &&& 2147483647) % 11 = k at *
  have e : (11 : Int32).toInt = 11 := by decide
  have q : k.toInt = 0 ∨ k.toInt = 1 ∨ k.toInt = 2 ∨ k.toInt = 3 ∨ k.toInt = 4 ∨ k.toInt = 5 ∨ k.toInt = 6 ∨ k.toInt = 7 ∨ k.toInt = 8 ∨ k.toInt = 9 ∨ k.toInt = 10 := by omega
  rcases q with q | q | q | q | q | q | q | q | q | q | q
  · exact Or.inl (own_i32 q)
  · exact Or.inr (Or.inl (own_i32 q))
  · exact Or.inr (Or.inr (Or.inl (own_i32 q)))
  · exact Or.inr (Or.inr (Or.inr (Or.inl (own_i32 q))))
  · exact Or.inr (Or.inr (Or.inr (Or.inr (Or.inl (own_i32 q)))))
  · exact Or.inr (Or.inr (Or.inr (Or.inr (Or.inr (Or.inl (own_i32 q))))))
  · exact Or.inr (Or.inr (Or.inr (Or.inr (Or.inr (Or.inr (Or.inl (own_i32 q)))))))
  · exact Or.inr (Or.inr (Or.inr (Or.inr (Or.inr (Or.inr (Or.inr (Or.inl (own_i32 q))))))))
  · exact Or.inr (Or.inr (Or.inr (Or.inr (Or.inr (Or.inr (Or.inr (Or.inr (Or.inl (own_i32 q)))))))))
  · exact Or.inr (Or.inr (Or.inr (Or.inr (Or.inr (Or.inr (Or.inr (Or.inr (Or.inr (Or.inl (own_i32 q))))))))))
  · exact Or.inr (Or.inr (Or.inr (Or.inr (Or.inr (Or.inr (Or.inr (Or.inr (Or.inr (Or.inr (own_i32 q))))))))))
/-- what stands at the start: the statics, their classes and fields -/
def SF (Z : State) (w_LOWER : Addr) (w_CONCAT : Addr) (w_CURRENT_DATE : Addr) (w_LOCATE : Addr) (w_ABS : Addr) (w_SQRT : Addr) (w_UPPER : Addr) (w_LENGTH : Addr) (w_CURRENT_TIMESTAMP : Addr) (w_MOD : Addr) (w_SUBSTRING : Addr) : Prop := Sta Z Z.heap "com/example/instances_to_rows/instancestorows/query/JpqlFunction" "LOWER" "Lcom/example/instances_to_rows/instancestorows/query/JpqlFunction;" (.ref w_LOWER) ∧ Exa Z Z.heap w_LOWER "com/example/instances_to_rows/instancestorows/query/JpqlFunction" ∧ Fld Z Z.heap w_LOWER "com/example/instances_to_rows/instancestorows/query/JpqlFunction" "most" "I" (.int (1 : Int32)) ∧ Fld Z Z.heap w_LOWER "com/example/instances_to_rows/instancestorows/query/JpqlFunction" "fewest" "I" (.int (1 : Int32)) ∧ Sta Z Z.heap "com/example/instances_to_rows/instancestorows/query/JpqlFunction" "CONCAT" "Lcom/example/instances_to_rows/instancestorows/query/JpqlFunction;" (.ref w_CONCAT) ∧ Exa Z Z.heap w_CONCAT "com/example/instances_to_rows/instancestorows/query/JpqlFunction" ∧ Fld Z Z.heap w_CONCAT "com/example/instances_to_rows/instancestorows/query/JpqlFunction" "most" "I" (.int (2147483647 : Int32)) ∧ Fld Z Z.heap w_CONCAT "com/example/instances_to_rows/instancestorows/query/JpqlFunction" "fewest" "I" (.int (2 : Int32)) ∧ Sta Z Z.heap "com/example/instances_to_rows/instancestorows/query/JpqlFunction" "CURRENT_DATE" "Lcom/example/instances_to_rows/instancestorows/query/JpqlFunction;" (.ref w_CURRENT_DATE) ∧ Exa Z Z.heap w_CURRENT_DATE "com/example/instances_to_rows/instancestorows/query/JpqlFunction" ∧ Fld Z Z.heap w_CURRENT_DATE "com/example/instances_to_rows/instancestorows/query/JpqlFunction" "most" "I" (.int (0 : Int32)) ∧ Fld Z Z.heap w_CURRENT_DATE "com/example/instances_to_rows/instancestorows/query/JpqlFunction" "fewest" "I" (.int (0 : Int32)) ∧ Sta Z Z.heap "com/example/instances_to_rows/instancestorows/query/JpqlFunction" "LOCATE" "Lcom/example/instances_to_rows/instancestorows/query/JpqlFunction;" (.ref w_LOCATE) ∧ Exa Z Z.heap w_LOCATE "com/example/instances_to_rows/instancestorows/query/JpqlFunction" ∧ Fld Z Z.heap w_LOCATE "com/example/instances_to_rows/instancestorows/query/JpqlFunction" "most" "I" (.int (3 : Int32)) ∧ Fld Z Z.heap w_LOCATE "com/example/instances_to_rows/instancestorows/query/JpqlFunction" "fewest" "I" (.int (2 : Int32)) ∧ Sta Z Z.heap "com/example/instances_to_rows/instancestorows/query/JpqlFunction" "ABS" "Lcom/example/instances_to_rows/instancestorows/query/JpqlFunction;" (.ref w_ABS) ∧ Exa Z Z.heap w_ABS "com/example/instances_to_rows/instancestorows/query/JpqlFunction" ∧ Fld Z Z.heap w_ABS "com/example/instances_to_rows/instancestorows/query/JpqlFunction" "most" "I" (.int (1 : Int32)) ∧ Fld Z Z.heap w_ABS "com/example/instances_to_rows/instancestorows/query/JpqlFunction" "fewest" "I" (.int (1 : Int32)) ∧ Sta Z Z.heap "com/example/instances_to_rows/instancestorows/query/JpqlFunction" "SQRT" "Lcom/example/instances_to_rows/instancestorows/query/JpqlFunction;" (.ref w_SQRT) ∧ Exa Z Z.heap w_SQRT "com/example/instances_to_rows/instancestorows/query/JpqlFunction" ∧ Fld Z Z.heap w_SQRT "com/example/instances_to_rows/instancestorows/query/JpqlFunction" "most" "I" (.int (1 : Int32)) ∧ Fld Z Z.heap w_SQRT "com/example/instances_to_rows/instancestorows/query/JpqlFunction" "fewest" "I" (.int (1 : Int32)) ∧ Sta Z Z.heap "com/example/instances_to_rows/instancestorows/query/JpqlFunction" "UPPER" "Lcom/example/instances_to_rows/instancestorows/query/JpqlFunction;" (.ref w_UPPER) ∧ Exa Z Z.heap w_UPPER "com/example/instances_to_rows/instancestorows/query/JpqlFunction" ∧ Fld Z Z.heap w_UPPER "com/example/instances_to_rows/instancestorows/query/JpqlFunction" "most" "I" (.int (1 : Int32)) ∧ Fld Z Z.heap w_UPPER "com/example/instances_to_rows/instancestorows/query/JpqlFunction" "fewest" "I" (.int (1 : Int32)) ∧ Sta Z Z.heap "com/example/instances_to_rows/instancestorows/query/JpqlFunction" "LENGTH" "Lcom/example/instances_to_rows/instancestorows/query/JpqlFunction;" (.ref w_LENGTH) ∧ Exa Z Z.heap w_LENGTH "com/example/instances_to_rows/instancestorows/query/JpqlFunction" ∧ Fld Z Z.heap w_LENGTH "com/example/instances_to_rows/instancestorows/query/JpqlFunction" "most" "I" (.int (1 : Int32)) ∧ Fld Z Z.heap w_LENGTH "com/example/instances_to_rows/instancestorows/query/JpqlFunction" "fewest" "I" (.int (1 : Int32)) ∧ Sta Z Z.heap "com/example/instances_to_rows/instancestorows/query/JpqlFunction" "CURRENT_TIMESTAMP" "Lcom/example/instances_to_rows/instancestorows/query/JpqlFunction;" (.ref w_CURRENT_TIMESTAMP) ∧ Exa Z Z.heap w_CURRENT_TIMESTAMP "com/example/instances_to_rows/instancestorows/query/JpqlFunction" ∧ Fld Z Z.heap w_CURRENT_TIMESTAMP "com/example/instances_to_rows/instancestorows/query/JpqlFunction" "most" "I" (.int (0 : Int32)) ∧ Fld Z Z.heap w_CURRENT_TIMESTAMP "com/example/instances_to_rows/instancestorows/query/JpqlFunction" "fewest" "I" (.int (0 : Int32)) ∧ Sta Z Z.heap "com/example/instances_to_rows/instancestorows/query/JpqlFunction" "MOD" "Lcom/example/instances_to_rows/instancestorows/query/JpqlFunction;" (.ref w_MOD) ∧ Exa Z Z.heap w_MOD "com/example/instances_to_rows/instancestorows/query/JpqlFunction" ∧ Fld Z Z.heap w_MOD "com/example/instances_to_rows/instancestorows/query/JpqlFunction" "most" "I" (.int (2 : Int32)) ∧ Fld Z Z.heap w_MOD "com/example/instances_to_rows/instancestorows/query/JpqlFunction" "fewest" "I" (.int (2 : Int32)) ∧ Sta Z Z.heap "com/example/instances_to_rows/instancestorows/query/JpqlFunction" "SUBSTRING" "Lcom/example/instances_to_rows/instancestorows/query/JpqlFunction;" (.ref w_SUBSTRING) ∧ Exa Z Z.heap w_SUBSTRING "com/example/instances_to_rows/instancestorows/query/JpqlFunction" ∧ Fld Z Z.heap w_SUBSTRING "com/example/instances_to_rows/instancestorows/query/JpqlFunction" "most" "I" (.int (3 : Int32)) ∧ Fld Z Z.heap w_SUBSTRING "com/example/instances_to_rows/instancestorows/query/JpqlFunction" "fewest" "I" (.int (2 : Int32))
def takF (F M n : Int32) : Int32 := if n < F then 0 else if M < n then 0 else 1
def argF (M : Int32) : Int32 := if 0 < M then 1 else 0
theorem d1_0 : decode method_3_code 0 = .ok (.iload_n 0, 1) := by decide +kernel
theorem d1_1 : decode method_3_code 1 = .ok (.ifCond .ne 7, 3) := by decide +kernel
theorem d1_4 : decode method_3_code 4 = .ok (.getstatic 24, 3) := by decide +kernel
theorem d1_7 : decode method_3_code 7 = .ok (.areturn, 1) := by decide +kernel
theorem d1_8 : decode method_3_code 8 = .ok (.iload_n 0, 1) := by decide +kernel
theorem d1_9 : decode method_3_code 9 = .ok (.iconst 1, 1) := by decide +kernel
theorem d1_10 : decode method_3_code 10 = .ok (.if_icmp .ne 7, 3) := by decide +kernel
theorem d1_13 : decode method_3_code 13 = .ok (.getstatic 28, 3) := by decide +kernel
theorem d1_16 : decode method_3_code 16 = .ok (.areturn, 1) := by decide +kernel
theorem d1_17 : decode method_3_code 17 = .ok (.iload_n 0, 1) := by decide +kernel
theorem d1_18 : decode method_3_code 18 = .ok (.iconst 2, 1) := by decide +kernel
theorem d1_19 : decode method_3_code 19 = .ok (.if_icmp .ne 7, 3) := by decide +kernel
theorem d1_22 : decode method_3_code 22 = .ok (.getstatic 31, 3) := by decide +kernel
theorem d1_25 : decode method_3_code 25 = .ok (.areturn, 1) := by decide +kernel
theorem d1_26 : decode method_3_code 26 = .ok (.iload_n 0, 1) := by decide +kernel
theorem d1_27 : decode method_3_code 27 = .ok (.iconst 3, 1) := by decide +kernel
theorem d1_28 : decode method_3_code 28 = .ok (.if_icmp .ne 7, 3) := by decide +kernel
theorem d1_31 : decode method_3_code 31 = .ok (.getstatic 34, 3) := by decide +kernel
theorem d1_34 : decode method_3_code 34 = .ok (.areturn, 1) := by decide +kernel
theorem d1_35 : decode method_3_code 35 = .ok (.iload_n 0, 1) := by decide +kernel
theorem d1_36 : decode method_3_code 36 = .ok (.iconst 4, 1) := by decide +kernel
theorem d1_37 : decode method_3_code 37 = .ok (.if_icmp .ne 7, 3) := by decide +kernel
theorem d1_40 : decode method_3_code 40 = .ok (.getstatic 37, 3) := by decide +kernel
theorem d1_43 : decode method_3_code 43 = .ok (.areturn, 1) := by decide +kernel
theorem d1_44 : decode method_3_code 44 = .ok (.iload_n 0, 1) := by decide +kernel
theorem d1_45 : decode method_3_code 45 = .ok (.iconst 5, 1) := by decide +kernel
theorem d1_46 : decode method_3_code 46 = .ok (.if_icmp .ne 7, 3) := by decide +kernel
theorem d1_49 : decode method_3_code 49 = .ok (.getstatic 40, 3) := by decide +kernel
theorem d1_52 : decode method_3_code 52 = .ok (.areturn, 1) := by decide +kernel
theorem d1_53 : decode method_3_code 53 = .ok (.iload_n 0, 1) := by decide +kernel
theorem d1_54 : decode method_3_code 54 = .ok (.bipush 6, 2) := by decide +kernel
theorem d1_56 : decode method_3_code 56 = .ok (.if_icmp .ne 7, 3) := by decide +kernel
theorem d1_59 : decode method_3_code 59 = .ok (.getstatic 43, 3) := by decide +kernel
theorem d1_62 : decode method_3_code 62 = .ok (.areturn, 1) := by decide +kernel
theorem d1_63 : decode method_3_code 63 = .ok (.iload_n 0, 1) := by decide +kernel
theorem d1_64 : decode method_3_code 64 = .ok (.bipush 7, 2) := by decide +kernel
theorem d1_66 : decode method_3_code 66 = .ok (.if_icmp .ne 7, 3) := by decide +kernel
theorem d1_69 : decode method_3_code 69 = .ok (.getstatic 46, 3) := by decide +kernel
theorem d1_72 : decode method_3_code 72 = .ok (.areturn, 1) := by decide +kernel
theorem d1_73 : decode method_3_code 73 = .ok (.iload_n 0, 1) := by decide +kernel
theorem d1_74 : decode method_3_code 74 = .ok (.bipush 8, 2) := by decide +kernel
theorem d1_76 : decode method_3_code 76 = .ok (.if_icmp .ne 7, 3) := by decide +kernel
theorem d1_79 : decode method_3_code 79 = .ok (.getstatic 49, 3) := by decide +kernel
theorem d1_82 : decode method_3_code 82 = .ok (.areturn, 1) := by decide +kernel
theorem d1_83 : decode method_3_code 83 = .ok (.iload_n 0, 1) := by decide +kernel
theorem d1_84 : decode method_3_code 84 = .ok (.bipush 9, 2) := by decide +kernel
theorem d1_86 : decode method_3_code 86 = .ok (.if_icmp .ne 7, 3) := by decide +kernel
theorem d1_89 : decode method_3_code 89 = .ok (.getstatic 52, 3) := by decide +kernel
theorem d1_92 : decode method_3_code 92 = .ok (.areturn, 1) := by decide +kernel
theorem d1_93 : decode method_3_code 93 = .ok (.getstatic 55, 3) := by decide +kernel
theorem d1_96 : decode method_3_code 96 = .ok (.areturn, 1) := by decide +kernel
theorem pn_773337 : plainName "com/example/instances_to_rows/instancestorows/query/JpqlFunctionTakesArgumentsPinLaw" = true := by first | (simp [plainName, overriddenIn]; done) | decide +kernel
theorem ef_rm1 (m : MethodId) (x0 : Int32) : entryFrame m #[(.int x0)] 1 = mkF m 0 #[.val (.int x0)] [] := by first | (simp [entryFrame, mkF, argsToLocals, Value.category]; done) | rfl
set_option maxRecDepth 65536 in
set_option maxHeartbeats 400000000 in
theorem rm1 (l : Launch) (Z : State) (a0 : Array Value) (hw : ∀ d ∈ tables_1, d.before a0 Z = true) (ws : List Jvm.Cond) (w_LOWER : Addr) (w_CONCAT : Addr) (w_CURRENT_DATE : Addr) (w_LOCATE : Addr) (w_ABS : Addr) (w_SQRT : Addr) (w_UPPER : Addr) (w_LENGTH : Addr) (w_CURRENT_TIMESTAMP : Addr) (w_MOD : Addr) (w_SUBSTRING : Addr) (hS : SF Z w_LOWER w_CONCAT w_CURRENT_DATE w_LOCATE w_ABS w_SQRT w_UPPER w_LENGTH w_CURRENT_TIMESTAMP w_MOD w_SUBSTRING) (p1 : Int32) (h0 : Heap) (O0 : Ext Z.heap h0)  :
    Con l Z h0 (⟨"com/example/instances_to_rows/instancestorows/query/JpqlFunctionTakesArgumentsPinLaw", "pick", "(I)Lcom/example/instances_to_rows/instancestorows/query/JpqlFunction;"⟩ : MethodName) method_3_code 1 (some (.object "com/example/instances_to_rows/instancestorows/query/JpqlFunction")) ws ({ frames := 0, cells := 0, slots := 0, locals := 0 } : Room) #[(.int p1)] (fun v h L => (∃ w, v = some (.ref w) ∧ (p1 = 0 → w = w_LOWER) ∧ (p1 = 1 → w = w_UPPER) ∧ (p1 = 2 → w = w_LENGTH) ∧ (p1 = 3 → w = w_CONCAT) ∧ (p1 = 4 → w = w_SUBSTRING) ∧ (p1 = 5 → w = w_LOCATE) ∧ (p1 = 6 → w = w_ABS) ∧ (p1 = 7 → w = w_MOD) ∧ (p1 = 8 → w = w_SQRT) ∧ (p1 = 9 → w = w_CURRENT_DATE) ∧ (p1 = 10 → w = w_CURRENT_TIMESTAMP)) ∧ Fr Z.heap.size L ∧ h = h0) := by
  obtain ⟨S_LOWER, E_LOWER, F_LOWER_most, F_LOWER_fewest, S_CONCAT, E_CONCAT, F_CONCAT_most, F_CONCAT_fewest, S_CURRENT_DATE, E_CURRENT_DATE, F_CURRENT_DATE_most, F_CURRENT_DATE_fewest, S_LOCATE, E_LOCATE, F_LOCATE_most, F_LOCATE_fewest, S_ABS, E_ABS, F_ABS_most, F_ABS_fewest, S_SQRT, E_SQRT, F_SQRT_most, F_SQRT_fewest, S_UPPER, E_UPPER, F_UPPER_most, F_UPPER_fewest, S_LENGTH, E_LENGTH, F_LENGTH_most, F_LENGTH_fewest, S_CURRENT_TIMESTAMP, E_CURRENT_TIMESTAMP, F_CURRENT_TIMESTAMP_most, F_CURRENT_TIMESTAMP_fewest, S_MOD, E_MOD, F_MOD_most, F_MOD_fewest, S_SUBSTRING, E_SUBSTRING, F_SUBSTRING_most, F_SUBSTRING_fewest⟩ := id hS
  refine own_con (plainFor_of_name pn_773337) ?_
  intro p e s m below meth c T0 X0 hx hby hml hown hnm hret hlk hZ e0
  have hown : s.vm.findClass "com/example/instances_to_rows/instancestorows/query/JpqlFunctionTakesArgumentsPinLaw" = some m.cls := hown
  have N0 := Fr.nil Z.heap.size
  refine Go.st (S' := T0.setTop (mkF m 0 #[.val (.int p1)] [])) (fun _ k => castTop (ef_rm1 m p1) k) ?_
  refine Go.st (S' := T0.setTop (mkF m 1 #[.val (.int p1)] [(.int p1)])) (fun _ k => XS.iloadN X0.here hx rfl (hb hby d1_0) rfl k) ?_
  by_cases hc1 : p1 = (0 : Int32)
  · refine Go.st (S' := T0.setTop (mkF m 4 #[.val (.int p1)] [])) (fun _ k => XS.ifNo X0.here hx rfl (hb hby d1_1) rfl ((if0 _ _).trans (teq hc1).2) k) ?_
    obtain ⟨T1, X1, e1, st1⟩ := getS2 X0 hx hZ hown (host := "") (Or.inl (ww hw 5 rfl)) Via.refl e0 (S_LOWER.ext O0) (g := (mkF m 4 #[.val (.int p1)] [])) rfl (hb hby d1_4)
    refine Go.st (S' := T1.setTop (mkF m 7 #[.val (.int p1)] [(.ref w_LOWER)])) st1 ?_
    exact own_retA X1 hx hlk hret rfl rfl rfl (hb hby d1_7) e1 ⟨⟨_, rfl, fun _ => rfl, fun q => absurd (hc1.symm.trans q) (by decide), fun q => absurd (hc1.symm.trans q) (by decide), fun q => absurd (hc1.symm.trans q) (by decide), fun q => absurd (hc1.symm.trans q) (by decide), fun q => absurd (hc1.symm.trans q) (by decide), fun q => absurd (hc1.symm.trans q) (by decide), fun q => absurd (hc1.symm.trans q) (by decide), fun q => absurd (hc1.symm.trans q) (by decide), fun q => absurd (hc1.symm.trans q) (by decide), fun q => absurd (hc1.symm.trans q) (by decide)⟩, N0, rfl⟩ (by decide) (by decide)
  · refine Go.st (S' := T0.setTop (mkF m 8 #[.val (.int p1)] [])) (fun _ k => XS.ifYes X0.here hx rfl (pc0 := 1) (pc' := 8) rfl (hb hby d1_1) rfl ((if0 _ _).trans (feq hc1).2) (by decide) (by decide) k) ?_
    refine Go.st (S' := T0.setTop (mkF m 9 #[.val (.int p1)] [(.int p1)])) (fun _ k => XS.iloadN X0.here hx rfl (hb hby d1_8) rfl k) ?_
    refine Go.st (S' := T0.setTop (mkF m 10 #[.val (.int p1)] [(.int (1 : Int32)), (.int p1)])) (fun _ k => XS.iconst X0.here hx rfl (hb hby d1_9) k) ?_
    by_cases hc10 : p1 = (1 : Int32)
    · refine Go.st (S' := T0.setTop (mkF m 13 #[.val (.int p1)] [])) (fun _ k => XS.icmpNo X0.here hx rfl (hb hby d1_10) rfl (teq hc10).2 k) ?_
      obtain ⟨T2, X2, e2, st2⟩ := getS2 X0 hx hZ hown (host := "") (Or.inl (ww hw 32 rfl)) Via.refl e0 (S_UPPER.ext O0) (g := (mkF m 13 #[.val (.int p1)] [])) rfl (hb hby d1_13)
      refine Go.st (S' := T2.setTop (mkF m 16 #[.val (.int p1)] [(.ref w_UPPER)])) st2 ?_
      exact own_retA X2 hx hlk hret rfl rfl rfl (hb hby d1_16) e2 ⟨⟨_, rfl, fun q => absurd (hc10.symm.trans q) (by decide), fun _ => rfl, fun q => absurd (hc10.symm.trans q) (by decide), fun q => absurd (hc10.symm.trans q) (by decide), fun q => absurd (hc10.symm.trans q) (by decide), fun q => absurd (hc10.symm.trans q) (by decide), fun q => absurd (hc10.symm.trans q) (by decide), fun q => absurd (hc10.symm.trans q) (by decide), fun q => absurd (hc10.symm.trans q) (by decide), fun q => absurd (hc10.symm.trans q) (by decide), fun q => absurd (hc10.symm.trans q) (by decide)⟩, N0, rfl⟩ (by decide) (by decide)
    · refine Go.st (S' := T0.setTop (mkF m 17 #[.val (.int p1)] [])) (fun _ k => XS.icmpYes X0.here hx rfl (pc0 := 10) (pc' := 17) rfl (hb hby d1_10) rfl (feq hc10).2 (by decide) (by decide) k) ?_
      refine Go.st (S' := T0.setTop (mkF m 18 #[.val (.int p1)] [(.int p1)])) (fun _ k => XS.iloadN X0.here hx rfl (hb hby d1_17) rfl k) ?_
      refine Go.st (S' := T0.setTop (mkF m 19 #[.val (.int p1)] [(.int (2 : Int32)), (.int p1)])) (fun _ k => XS.iconst X0.here hx rfl (hb hby d1_18) k) ?_
      by_cases hc19 : p1 = (2 : Int32)
      · refine Go.st (S' := T0.setTop (mkF m 22 #[.val (.int p1)] [])) (fun _ k => XS.icmpNo X0.here hx rfl (hb hby d1_19) rfl (teq hc19).2 k) ?_
        obtain ⟨T3, X3, e3, st3⟩ := getS2 X0 hx hZ hown (host := "") (Or.inl (ww hw 34 rfl)) Via.refl e0 (S_LENGTH.ext O0) (g := (mkF m 22 #[.val (.int p1)] [])) rfl (hb hby d1_22)
        refine Go.st (S' := T3.setTop (mkF m 25 #[.val (.int p1)] [(.ref w_LENGTH)])) st3 ?_
        exact own_retA X3 hx hlk hret rfl rfl rfl (hb hby d1_25) e3 ⟨⟨_, rfl, fun q => absurd (hc19.symm.trans q) (by decide), fun q => absurd (hc19.symm.trans q) (by decide), fun _ => rfl, fun q => absurd (hc19.symm.trans q) (by decide), fun q => absurd (hc19.symm.trans q) (by decide), fun q => absurd (hc19.symm.trans q) (by decide), fun q => absurd (hc19.symm.trans q) (by decide), fun q => absurd (hc19.symm.trans q) (by decide), fun q => absurd (hc19.symm.trans q) (by decide), fun q => absurd (hc19.symm.trans q) (by decide), fun q => absurd (hc19.symm.trans q) (by decide)⟩, N0, rfl⟩ (by decide) (by decide)
      · refine Go.st (S' := T0.setTop (mkF m 26 #[.val (.int p1)] [])) (fun _ k => XS.icmpYes X0.here hx rfl (pc0 := 19) (pc' := 26) rfl (hb hby d1_19) rfl (feq hc19).2 (by decide) (by decide) k) ?_
        refine Go.st (S' := T0.setTop (mkF m 27 #[.val (.int p1)] [(.int p1)])) (fun _ k => XS.iloadN X0.here hx rfl (hb hby d1_26) rfl k) ?_
        refine Go.st (S' := T0.setTop (mkF m 28 #[.val (.int p1)] [(.int (3 : Int32)), (.int p1)])) (fun _ k => XS.iconst X0.here hx rfl (hb hby d1_27) k) ?_
        by_cases hc28 : p1 = (3 : Int32)
        · refine Go.st (S' := T0.setTop (mkF m 31 #[.val (.int p1)] [])) (fun _ k => XS.icmpNo X0.here hx rfl (hb hby d1_28) rfl (teq hc28).2 k) ?_
          obtain ⟨T4, X4, e4, st4⟩ := getS2 X0 hx hZ hown (host := "") (Or.inl (ww hw 22 rfl)) Via.refl e0 (S_CONCAT.ext O0) (g := (mkF m 31 #[.val (.int p1)] [])) rfl (hb hby d1_31)
          refine Go.st (S' := T4.setTop (mkF m 34 #[.val (.int p1)] [(.ref w_CONCAT)])) st4 ?_
          exact own_retA X4 hx hlk hret rfl rfl rfl (hb hby d1_34) e4 ⟨⟨_, rfl, fun q => absurd (hc28.symm.trans q) (by decide), fun q => absurd (hc28.symm.trans q) (by decide), fun q => absurd (hc28.symm.trans q) (by decide), fun _ => rfl, fun q => absurd (hc28.symm.trans q) (by decide), fun q => absurd (hc28.symm.trans q) (by decide), fun q => absurd (hc28.symm.trans q) (by decide), fun q => absurd (hc28.symm.trans q) (by decide), fun q => absurd (hc28.symm.trans q) (by decide), fun q => absurd (hc28.symm.trans q) (by decide), fun q => absurd (hc28.symm.trans q) (by decide)⟩, N0, rfl⟩ (by decide) (by decide)
        · refine Go.st (S' := T0.setTop (mkF m 35 #[.val (.int p1)] [])) (fun _ k => XS.icmpYes X0.here hx rfl (pc0 := 28) (pc' := 35) rfl (hb hby d1_28) rfl (feq hc28).2 (by decide) (by decide) k) ?_
          refine Go.st (S' := T0.setTop (mkF m 36 #[.val (.int p1)] [(.int p1)])) (fun _ k => XS.iloadN X0.here hx rfl (hb hby d1_35) rfl k) ?_
          refine Go.st (S' := T0.setTop (mkF m 37 #[.val (.int p1)] [(.int (4 : Int32)), (.int p1)])) (fun _ k => XS.iconst X0.here hx rfl (hb hby d1_36) k) ?_
          by_cases hc37 : p1 = (4 : Int32)
          · refine Go.st (S' := T0.setTop (mkF m 40 #[.val (.int p1)] [])) (fun _ k => XS.icmpNo X0.here hx rfl (hb hby d1_37) rfl (teq hc37).2 k) ?_
            obtain ⟨T5, X5, e5, st5⟩ := getS2 X0 hx hZ hown (host := "") (Or.inl (ww hw 40 rfl)) Via.refl e0 (S_SUBSTRING.ext O0) (g := (mkF m 40 #[.val (.int p1)] [])) rfl (hb hby d1_40)
            refine Go.st (S' := T5.setTop (mkF m 43 #[.val (.int p1)] [(.ref w_SUBSTRING)])) st5 ?_
            exact own_retA X5 hx hlk hret rfl rfl rfl (hb hby d1_43) e5 ⟨⟨_, rfl, fun q => absurd (hc37.symm.trans q) (by decide), fun q => absurd (hc37.symm.trans q) (by decide), fun q => absurd (hc37.symm.trans q) (by decide), fun q => absurd (hc37.symm.trans q) (by decide), fun _ => rfl, fun q => absurd (hc37.symm.trans q) (by decide), fun q => absurd (hc37.symm.trans q) (by decide), fun q => absurd (hc37.symm.trans q) (by decide), fun q => absurd (hc37.symm.trans q) (by decide), fun q => absurd (hc37.symm.trans q) (by decide), fun q => absurd (hc37.symm.trans q) (by decide)⟩, N0, rfl⟩ (by decide) (by decide)
          · refine Go.st (S' := T0.setTop (mkF m 44 #[.val (.int p1)] [])) (fun _ k => XS.icmpYes X0.here hx rfl (pc0 := 37) (pc' := 44) rfl (hb hby d1_37) rfl (feq hc37).2 (by decide) (by decide) k) ?_
            refine Go.st (S' := T0.setTop (mkF m 45 #[.val (.int p1)] [(.int p1)])) (fun _ k => XS.iloadN X0.here hx rfl (hb hby d1_44) rfl k) ?_
            refine Go.st (S' := T0.setTop (mkF m 46 #[.val (.int p1)] [(.int (5 : Int32)), (.int p1)])) (fun _ k => XS.iconst X0.here hx rfl (hb hby d1_45) k) ?_
            by_cases hc46 : p1 = (5 : Int32)
            · refine Go.st (S' := T0.setTop (mkF m 49 #[.val (.int p1)] [])) (fun _ k => XS.icmpNo X0.here hx rfl (hb hby d1_46) rfl (teq hc46).2 k) ?_
              obtain ⟨T6, X6, e6, st6⟩ := getS2 X0 hx hZ hown (host := "") (Or.inl (ww hw 26 rfl)) Via.refl e0 (S_LOCATE.ext O0) (g := (mkF m 49 #[.val (.int p1)] [])) rfl (hb hby d1_49)
              refine Go.st (S' := T6.setTop (mkF m 52 #[.val (.int p1)] [(.ref w_LOCATE)])) st6 ?_
              exact own_retA X6 hx hlk hret rfl rfl rfl (hb hby d1_52) e6 ⟨⟨_, rfl, fun q => absurd (hc46.symm.trans q) (by decide), fun q => absurd (hc46.symm.trans q) (by decide), fun q => absurd (hc46.symm.trans q) (by decide), fun q => absurd (hc46.symm.trans q) (by decide), fun q => absurd (hc46.symm.trans q) (by decide), fun _ => rfl, fun q => absurd (hc46.symm.trans q) (by decide), fun q => absurd (hc46.symm.trans q) (by decide), fun q => absurd (hc46.symm.trans q) (by decide), fun q => absurd (hc46.symm.trans q) (by decide), fun q => absurd (hc46.symm.trans q) (by decide)⟩, N0, rfl⟩ (by decide) (by decide)
            · refine Go.st (S' := T0.setTop (mkF m 53 #[.val (.int p1)] [])) (fun _ k => XS.icmpYes X0.here hx rfl (pc0 := 46) (pc' := 53) rfl (hb hby d1_46) rfl (feq hc46).2 (by decide) (by decide) k) ?_
              refine Go.st (S' := T0.setTop (mkF m 54 #[.val (.int p1)] [(.int p1)])) (fun _ k => XS.iloadN X0.here hx rfl (hb hby d1_53) rfl k) ?_
              refine Go.st (S' := T0.setTop (mkF m 56 #[.val (.int p1)] [(.int (6 : Int32)), (.int p1)])) (fun _ k => XS.bipush X0.here hx rfl (hb hby d1_54) k) ?_
              by_cases hc56 : p1 = (6 : Int32)
              · refine Go.st (S' := T0.setTop (mkF m 59 #[.val (.int p1)] [])) (fun _ k => XS.icmpNo X0.here hx rfl (hb hby d1_56) rfl (teq hc56).2 k) ?_
                obtain ⟨T7, X7, e7, st7⟩ := getS2 X0 hx hZ hown (host := "") (Or.inl (ww hw 28 rfl)) Via.refl e0 (S_ABS.ext O0) (g := (mkF m 59 #[.val (.int p1)] [])) rfl (hb hby d1_59)
                refine Go.st (S' := T7.setTop (mkF m 62 #[.val (.int p1)] [(.ref w_ABS)])) st7 ?_
                exact own_retA X7 hx hlk hret rfl rfl rfl (hb hby d1_62) e7 ⟨⟨_, rfl, fun q => absurd (hc56.symm.trans q) (by decide), fun q => absurd (hc56.symm.trans q) (by decide), fun q => absurd (hc56.symm.trans q) (by decide), fun q => absurd (hc56.symm.trans q) (by decide), fun q => absurd (hc56.symm.trans q) (by decide), fun q => absurd (hc56.symm.trans q) (by decide), fun _ => rfl, fun q => absurd (hc56.symm.trans q) (by decide), fun q => absurd (hc56.symm.trans q) (by decide), fun q => absurd (hc56.symm.trans q) (by decide), fun q => absurd (hc56.symm.trans q) (by decide)⟩, N0, rfl⟩ (by decide) (by decide)
              · refine Go.st (S' := T0.setTop (mkF m 63 #[.val (.int p1)] [])) (fun _ k => XS.icmpYes X0.here hx rfl (pc0 := 56) (pc' := 63) rfl (hb hby d1_56) rfl (feq hc56).2 (by decide) (by decide) k) ?_
                refine Go.st (S' := T0.setTop (mkF m 64 #[.val (.int p1)] [(.int p1)])) (fun _ k => XS.iloadN X0.here hx rfl (hb hby d1_63) rfl k) ?_
                refine Go.st (S' := T0.setTop (mkF m 66 #[.val (.int p1)] [(.int (7 : Int32)), (.int p1)])) (fun _ k => XS.bipush X0.here hx rfl (hb hby d1_64) k) ?_
                by_cases hc66 : p1 = (7 : Int32)
                · refine Go.st (S' := T0.setTop (mkF m 69 #[.val (.int p1)] [])) (fun _ k => XS.icmpNo X0.here hx rfl (hb hby d1_66) rfl (teq hc66).2 k) ?_
                  obtain ⟨T8, X8, e8, st8⟩ := getS2 X0 hx hZ hown (host := "") (Or.inl (ww hw 38 rfl)) Via.refl e0 (S_MOD.ext O0) (g := (mkF m 69 #[.val (.int p1)] [])) rfl (hb hby d1_69)
                  refine Go.st (S' := T8.setTop (mkF m 72 #[.val (.int p1)] [(.ref w_MOD)])) st8 ?_
                  exact own_retA X8 hx hlk hret rfl rfl rfl (hb hby d1_72) e8 ⟨⟨_, rfl, fun q => absurd (hc66.symm.trans q) (by decide), fun q => absurd (hc66.symm.trans q) (by decide), fun q => absurd (hc66.symm.trans q) (by decide), fun q => absurd (hc66.symm.trans q) (by decide), fun q => absurd (hc66.symm.trans q) (by decide), fun q => absurd (hc66.symm.trans q) (by decide), fun q => absurd (hc66.symm.trans q) (by decide), fun _ => rfl, fun q => absurd (hc66.symm.trans q) (by decide), fun q => absurd (hc66.symm.trans q) (by decide), fun q => absurd (hc66.symm.trans q) (by decide)⟩, N0, rfl⟩ (by decide) (by decide)
                · refine Go.st (S' := T0.setTop (mkF m 73 #[.val (.int p1)] [])) (fun _ k => XS.icmpYes X0.here hx rfl (pc0 := 66) (pc' := 73) rfl (hb hby d1_66) rfl (feq hc66).2 (by decide) (by decide) k) ?_
                  refine Go.st (S' := T0.setTop (mkF m 74 #[.val (.int p1)] [(.int p1)])) (fun _ k => XS.iloadN X0.here hx rfl (hb hby d1_73) rfl k) ?_
                  refine Go.st (S' := T0.setTop (mkF m 76 #[.val (.int p1)] [(.int (8 : Int32)), (.int p1)])) (fun _ k => XS.bipush X0.here hx rfl (hb hby d1_74) k) ?_
                  by_cases hc76 : p1 = (8 : Int32)
                  · refine Go.st (S' := T0.setTop (mkF m 79 #[.val (.int p1)] [])) (fun _ k => XS.icmpNo X0.here hx rfl (hb hby d1_76) rfl (teq hc76).2 k) ?_
                    obtain ⟨T9, X9, e9, st9⟩ := getS2 X0 hx hZ hown (host := "") (Or.inl (ww hw 30 rfl)) Via.refl e0 (S_SQRT.ext O0) (g := (mkF m 79 #[.val (.int p1)] [])) rfl (hb hby d1_79)
                    refine Go.st (S' := T9.setTop (mkF m 82 #[.val (.int p1)] [(.ref w_SQRT)])) st9 ?_
                    exact own_retA X9 hx hlk hret rfl rfl rfl (hb hby d1_82) e9 ⟨⟨_, rfl, fun q => absurd (hc76.symm.trans q) (by decide), fun q => absurd (hc76.symm.trans q) (by decide), fun q => absurd (hc76.symm.trans q) (by decide), fun q => absurd (hc76.symm.trans q) (by decide), fun q => absurd (hc76.symm.trans q) (by decide), fun q => absurd (hc76.symm.trans q) (by decide), fun q => absurd (hc76.symm.trans q) (by decide), fun q => absurd (hc76.symm.trans q) (by decide), fun _ => rfl, fun q => absurd (hc76.symm.trans q) (by decide), fun q => absurd (hc76.symm.trans q) (by decide)⟩, N0, rfl⟩ (by decide) (by decide)
                  · refine Go.st (S' := T0.setTop (mkF m 83 #[.val (.int p1)] [])) (fun _ k => XS.icmpYes X0.here hx rfl (pc0 := 76) (pc' := 83) rfl (hb hby d1_76) rfl (feq hc76).2 (by decide) (by decide) k) ?_
                    refine Go.st (S' := T0.setTop (mkF m 84 #[.val (.int p1)] [(.int p1)])) (fun _ k => XS.iloadN X0.here hx rfl (hb hby d1_83) rfl k) ?_
                    refine Go.st (S' := T0.setTop (mkF m 86 #[.val (.int p1)] [(.int (9 : Int32)), (.int p1)])) (fun _ k => XS.bipush X0.here hx rfl (hb hby d1_84) k) ?_
                    by_cases hc86 : p1 = (9 : Int32)
                    · refine Go.st (S' := T0.setTop (mkF m 89 #[.val (.int p1)] [])) (fun _ k => XS.icmpNo X0.here hx rfl (hb hby d1_86) rfl (teq hc86).2 k) ?_
                      obtain ⟨T10, X10, e10, st10⟩ := getS2 X0 hx hZ hown (host := "") (Or.inl (ww hw 24 rfl)) Via.refl e0 (S_CURRENT_DATE.ext O0) (g := (mkF m 89 #[.val (.int p1)] [])) rfl (hb hby d1_89)
                      refine Go.st (S' := T10.setTop (mkF m 92 #[.val (.int p1)] [(.ref w_CURRENT_DATE)])) st10 ?_
                      exact own_retA X10 hx hlk hret rfl rfl rfl (hb hby d1_92) e10 ⟨⟨_, rfl, fun q => absurd (hc86.symm.trans q) (by decide), fun q => absurd (hc86.symm.trans q) (by decide), fun q => absurd (hc86.symm.trans q) (by decide), fun q => absurd (hc86.symm.trans q) (by decide), fun q => absurd (hc86.symm.trans q) (by decide), fun q => absurd (hc86.symm.trans q) (by decide), fun q => absurd (hc86.symm.trans q) (by decide), fun q => absurd (hc86.symm.trans q) (by decide), fun q => absurd (hc86.symm.trans q) (by decide), fun _ => rfl, fun q => absurd (hc86.symm.trans q) (by decide)⟩, N0, rfl⟩ (by decide) (by decide)
                    · refine Go.st (S' := T0.setTop (mkF m 93 #[.val (.int p1)] [])) (fun _ k => XS.icmpYes X0.here hx rfl (pc0 := 86) (pc' := 93) rfl (hb hby d1_86) rfl (feq hc86).2 (by decide) (by decide) k) ?_
                      obtain ⟨T11, X11, e11, st11⟩ := getS2 X0 hx hZ hown (host := "") (Or.inl (ww hw 36 rfl)) Via.refl e0 (S_CURRENT_TIMESTAMP.ext O0) (g := (mkF m 93 #[.val (.int p1)] [])) rfl (hb hby d1_93)
                      refine Go.st (S' := T11.setTop (mkF m 96 #[.val (.int p1)] [(.ref w_CURRENT_TIMESTAMP)])) st11 ?_
                      exact own_retA X11 hx hlk hret rfl rfl rfl (hb hby d1_96) e11 ⟨⟨_, rfl, fun q => absurd q hc1, fun q => absurd q hc10, fun q => absurd q hc19, fun q => absurd q hc28, fun q => absurd q hc37, fun q => absurd q hc46, fun q => absurd q hc56, fun q => absurd q hc66, fun q => absurd q hc76, fun q => absurd q hc86, fun _ => rfl⟩, N0, rfl⟩ (by decide) (by decide)
theorem d2_0 : decode prog_17_method_5_code 0 = .ok (.aload_n 0, 1) := by decide +kernel
theorem d2_1 : decode prog_17_method_5_code 1 = .ok (.getfield 60, 3) := by decide +kernel
theorem d2_4 : decode prog_17_method_5_code 4 = .ok (.ifCond .le 7, 3) := by decide +kernel
theorem d2_7 : decode prog_17_method_5_code 7 = .ok (.iconst 1, 1) := by decide +kernel
theorem d2_8 : decode prog_17_method_5_code 8 = .ok (.goto 4, 3) := by decide +kernel
theorem d2_11 : decode prog_17_method_5_code 11 = .ok (.iconst 0, 1) := by decide +kernel
theorem d2_12 : decode prog_17_method_5_code 12 = .ok (.ireturn, 1) := by decide +kernel
theorem pn_831223 : plainName "com/example/instances_to_rows/instancestorows/query/JpqlFunction" = true := by first | (simp [plainName, overriddenIn]; done) | decide +kernel
theorem ef_rm2 (m : MethodId) (x0 : Addr) : entryFrame m #[(.ref x0)] 1 = mkF m 0 #[.val (.ref x0)] [] := by first | (simp [entryFrame, mkF, argsToLocals, Value.category]; done) | rfl
set_option maxRecDepth 65536 in
set_option maxHeartbeats 400000000 in
theorem rm2 (l : Launch) (Z : State) (a0 : Array Value) (hw : ∀ d ∈ tables_1, d.before a0 Z = true) (ws : List Jvm.Cond) (w_LOWER : Addr) (w_CONCAT : Addr) (w_CURRENT_DATE : Addr) (w_LOCATE : Addr) (w_ABS : Addr) (w_SQRT : Addr) (w_UPPER : Addr) (w_LENGTH : Addr) (w_CURRENT_TIMESTAMP : Addr) (w_MOD : Addr) (w_SUBSTRING : Addr) (hS : SF Z w_LOWER w_CONCAT w_CURRENT_DATE w_LOCATE w_ABS w_SQRT w_UPPER w_LENGTH w_CURRENT_TIMESTAMP w_MOD w_SUBSTRING) (a1 : Addr) (M r : Int32) (hr : argF M = r) (h0 : Heap) (O0 : Ext Z.heap h0) (FM : Fld Z h0 a1 "com/example/instances_to_rows/instancestorows/query/JpqlFunction" "most" "I" (.int M)) :
    Con l Z h0 (⟨"com/example/instances_to_rows/instancestorows/query/JpqlFunction", "takesArguments", "()Z"⟩ : MethodName) prog_17_method_5_code 1 (some .boolean) ws ({ frames := 0, cells := 0, slots := 0, locals := 0 } : Room) #[(.ref a1)] (fun v h L => v = some (.int r) ∧ Fr Z.heap.size L ∧ h = h0) := by
  obtain ⟨S_LOWER, E_LOWER, F_LOWER_most, F_LOWER_fewest, S_CONCAT, E_CONCAT, F_CONCAT_most, F_CONCAT_fewest, S_CURRENT_DATE, E_CURRENT_DATE, F_CURRENT_DATE_most, F_CURRENT_DATE_fewest, S_LOCATE, E_LOCATE, F_LOCATE_most, F_LOCATE_fewest, S_ABS, E_ABS, F_ABS_most, F_ABS_fewest, S_SQRT, E_SQRT, F_SQRT_most, F_SQRT_fewest, S_UPPER, E_UPPER, F_UPPER_most, F_UPPER_fewest, S_LENGTH, E_LENGTH, F_LENGTH_most, F_LENGTH_fewest, S_CURRENT_TIMESTAMP, E_CURRENT_TIMESTAMP, F_CURRENT_TIMESTAMP_most, F_CURRENT_TIMESTAMP_fewest, S_MOD, E_MOD, F_MOD_most, F_MOD_fewest, S_SUBSTRING, E_SUBSTRING, F_SUBSTRING_most, F_SUBSTRING_fewest⟩ := id hS
  refine own_con (plainFor_of_name pn_831223) ?_
  intro p e s m below meth c T0 X0 hx hby hml hown hnm hret hlk hZ e0
  have hown : s.vm.findClass "com/example/instances_to_rows/instancestorows/query/JpqlFunction" = some m.cls := hown
  have N0 := Fr.nil Z.heap.size
  refine Go.st (S' := T0.setTop (mkF m 0 #[.val (.ref a1)] [])) (fun _ k => castTop (ef_rm2 m a1) k) ?_
  refine Go.st (S' := T0.setTop (mkF m 1 #[.val (.ref a1)] [(.ref a1)])) (fun _ k => XS.aloadN X0.here hx rfl (hb hby d2_0) rfl rfl k) ?_
  obtain ⟨T12, X12, e12, st12⟩ := getF X0 hx hZ hown (host := "") (Or.inl (ww hw 13 rfl)) Via.refl e0 FM (g := (mkF m 1 #[.val (.ref a1)] [(.ref a1)])) rfl rfl (hb hby d2_1)
  refine Go.st (S' := T12.setTop (mkF m 4 #[.val (.ref a1)] [(.int M)])) st12 ?_
  by_cases hc4 : (0 : Int32) < M
  · refine Go.st (S' := T12.setTop (mkF m 7 #[.val (.ref a1)] [])) (fun _ k => XS.ifNo X12.here hx rfl (hb hby d2_4) rfl ((if0 _ _).trans (tlt hc4).2.2.2) k) ?_
    refine Go.st (S' := T12.setTop (mkF m 8 #[.val (.ref a1)] [(.int (1 : Int32))])) (fun _ k => XS.iconst X12.here hx rfl (hb hby d2_7) k) ?_
    refine Go.st (S' := T12.setTop (mkF m 12 #[.val (.ref a1)] [(.int (1 : Int32))])) (fun _ k => XS.goto X12.here hx rfl (pc0 := 8) (pc' := 12) rfl (hb hby d2_8) (by decide) (by decide) k) ?_
    exact own_retN X12 hx hlk hret (by simp) (hb hby d2_12) e12 ⟨by simp [← hr, argF, hc4, nar], N0, rfl⟩ (by decide) (by decide)
  · refine Go.st (S' := T12.setTop (mkF m 11 #[.val (.ref a1)] [])) (fun _ k => XS.ifYes X12.here hx rfl (pc0 := 4) (pc' := 11) rfl (hb hby d2_4) rfl ((if0 _ _).trans (flt hc4).2.2.2) (by decide) (by decide) k) ?_
    refine Go.st (S' := T12.setTop (mkF m 12 #[.val (.ref a1)] [(.int (0 : Int32))])) (fun _ k => XS.iconst X12.here hx rfl (hb hby d2_11) k) ?_
    exact own_retN X12 hx hlk hret (by simp) (hb hby d2_12) e12 ⟨by simp [← hr, argF, hc4, nar], N0, rfl⟩ (by decide) (by decide)
theorem d3_0 : decode prog_17_method_6_code 0 = .ok (.iload_n 1, 1) := by decide +kernel
theorem d3_1 : decode prog_17_method_6_code 1 = .ok (.aload_n 0, 1) := by decide +kernel
theorem d3_2 : decode prog_17_method_6_code 2 = .ok (.getfield 56, 3) := by decide +kernel
theorem d3_5 : decode prog_17_method_6_code 5 = .ok (.if_icmp .lt 15, 3) := by decide +kernel
theorem d3_8 : decode prog_17_method_6_code 8 = .ok (.iload_n 1, 1) := by decide +kernel
theorem d3_9 : decode prog_17_method_6_code 9 = .ok (.aload_n 0, 1) := by decide +kernel
theorem d3_10 : decode prog_17_method_6_code 10 = .ok (.getfield 60, 3) := by decide +kernel
theorem d3_13 : decode prog_17_method_6_code 13 = .ok (.if_icmp .gt 7, 3) := by decide +kernel
theorem d3_16 : decode prog_17_method_6_code 16 = .ok (.iconst 1, 1) := by decide +kernel
theorem d3_17 : decode prog_17_method_6_code 17 = .ok (.goto 4, 3) := by decide +kernel
theorem d3_20 : decode prog_17_method_6_code 20 = .ok (.iconst 0, 1) := by decide +kernel
theorem d3_21 : decode prog_17_method_6_code 21 = .ok (.ireturn, 1) := by decide +kernel
theorem ef_rm3 (m : MethodId) (x0 : Addr) (x1 : Int32) : entryFrame m #[(.ref x0), (.int x1)] 2 = mkF m 0 #[.val (.ref x0), .val (.int x1)] [] := by first | (simp [entryFrame, mkF, argsToLocals, Value.category]; done) | rfl
set_option maxRecDepth 65536 in
set_option maxHeartbeats 400000000 in
theorem rm3 (l : Launch) (Z : State) (a0 : Array Value) (hw : ∀ d ∈ tables_1, d.before a0 Z = true) (ws : List Jvm.Cond) (w_LOWER : Addr) (w_CONCAT : Addr) (w_CURRENT_DATE : Addr) (w_LOCATE : Addr) (w_ABS : Addr) (w_SQRT : Addr) (w_UPPER : Addr) (w_LENGTH : Addr) (w_CURRENT_TIMESTAMP : Addr) (w_MOD : Addr) (w_SUBSTRING : Addr) (hS : SF Z w_LOWER w_CONCAT w_CURRENT_DATE w_LOCATE w_ABS w_SQRT w_UPPER w_LENGTH w_CURRENT_TIMESTAMP w_MOD w_SUBSTRING) (a1 : Addr) (p2 : Int32) (F M r : Int32) (hr : takF F M p2 = r) (h0 : Heap) (O0 : Ext Z.heap h0) (FF : Fld Z h0 a1 "com/example/instances_to_rows/instancestorows/query/JpqlFunction" "fewest" "I" (.int F)) (FM : Fld Z h0 a1 "com/example/instances_to_rows/instancestorows/query/JpqlFunction" "most" "I" (.int M)) :
    Con l Z h0 (⟨"com/example/instances_to_rows/instancestorows/query/JpqlFunction", "takes", "(I)Z"⟩ : MethodName) prog_17_method_6_code 2 (some .boolean) ws ({ frames := 0, cells := 0, slots := 0, locals := 0 } : Room) #[(.ref a1), (.int p2)] (fun v h L => v = some (.int r) ∧ Fr Z.heap.size L ∧ h = h0) := by
  obtain ⟨S_LOWER, E_LOWER, F_LOWER_most, F_LOWER_fewest, S_CONCAT, E_CONCAT, F_CONCAT_most, F_CONCAT_fewest, S_CURRENT_DATE, E_CURRENT_DATE, F_CURRENT_DATE_most, F_CURRENT_DATE_fewest, S_LOCATE, E_LOCATE, F_LOCATE_most, F_LOCATE_fewest, S_ABS, E_ABS, F_ABS_most, F_ABS_fewest, S_SQRT, E_SQRT, F_SQRT_most, F_SQRT_fewest, S_UPPER, E_UPPER, F_UPPER_most, F_UPPER_fewest, S_LENGTH, E_LENGTH, F_LENGTH_most, F_LENGTH_fewest, S_CURRENT_TIMESTAMP, E_CURRENT_TIMESTAMP, F_CURRENT_TIMESTAMP_most, F_CURRENT_TIMESTAMP_fewest, S_MOD, E_MOD, F_MOD_most, F_MOD_fewest, S_SUBSTRING, E_SUBSTRING, F_SUBSTRING_most, F_SUBSTRING_fewest⟩ := id hS
  refine own_con (plainFor_of_name pn_831223) ?_
  intro p e s m below meth c T0 X0 hx hby hml hown hnm hret hlk hZ e0
  have hown : s.vm.findClass "com/example/instances_to_rows/instancestorows/query/JpqlFunction" = some m.cls := hown
  have N0 := Fr.nil Z.heap.size
  refine Go.st (S' := T0.setTop (mkF m 0 #[.val (.ref a1), .val (.int p2)] [])) (fun _ k => castTop (ef_rm3 m a1 p2) k) ?_
  refine Go.st (S' := T0.setTop (mkF m 1 #[.val (.ref a1), .val (.int p2)] [(.int p2)])) (fun _ k => XS.iloadN X0.here hx rfl (hb hby d3_0) rfl k) ?_
  refine Go.st (S' := T0.setTop (mkF m 2 #[.val (.ref a1), .val (.int p2)] [(.ref a1), (.int p2)])) (fun _ k => XS.aloadN X0.here hx rfl (hb hby d3_1) rfl rfl k) ?_
  obtain ⟨T13, X13, e13, st13⟩ := getF X0 hx hZ hown (host := "") (Or.inl (ww hw 20 rfl)) Via.refl e0 FF (g := (mkF m 2 #[.val (.ref a1), .val (.int p2)] [(.ref a1), (.int p2)])) rfl rfl (hb hby d3_2)
  refine Go.st (S' := T13.setTop (mkF m 5 #[.val (.ref a1), .val (.int p2)] [(.int F), (.int p2)])) st13 ?_
  by_cases hc5 : p2 < F
  · refine Go.st (S' := T13.setTop (mkF m 20 #[.val (.ref a1), .val (.int p2)] [])) (fun _ k => XS.icmpYes X13.here hx rfl (pc0 := 5) (pc' := 20) rfl (hb hby d3_5) rfl (tlt hc5).1 (by decide) (by decide) k) ?_
    refine Go.st (S' := T13.setTop (mkF m 21 #[.val (.ref a1), .val (.int p2)] [(.int (0 : Int32))])) (fun _ k => XS.iconst X13.here hx rfl (hb hby d3_20) k) ?_
    exact own_retN X13 hx hlk hret (by simp) (hb hby d3_21) e13 ⟨by simp [← hr, takF, hc5, nar], N0, rfl⟩ (by decide) (by decide)
  · refine Go.st (S' := T13.setTop (mkF m 8 #[.val (.ref a1), .val (.int p2)] [])) (fun _ k => XS.icmpNo X13.here hx rfl (hb hby d3_5) rfl (flt hc5).1 k) ?_
    refine Go.st (S' := T13.setTop (mkF m 9 #[.val (.ref a1), .val (.int p2)] [(.int p2)])) (fun _ k => XS.iloadN X13.here hx rfl (hb hby d3_8) rfl k) ?_
    refine Go.st (S' := T13.setTop (mkF m 10 #[.val (.ref a1), .val (.int p2)] [(.ref a1), (.int p2)])) (fun _ k => XS.aloadN X13.here hx rfl (hb hby d3_9) rfl rfl k) ?_
    obtain ⟨T14, X14, e14, st14⟩ := getF X13 hx hZ hown (host := "") (Or.inl (ww hw 13 rfl)) Via.refl e13 FM (g := (mkF m 10 #[.val (.ref a1), .val (.int p2)] [(.ref a1), (.int p2)])) rfl rfl (hb hby d3_10)
    refine Go.st (S' := T14.setTop (mkF m 13 #[.val (.ref a1), .val (.int p2)] [(.int M), (.int p2)])) st14 ?_
    by_cases hc13 : M < p2
    · refine Go.st (S' := T14.setTop (mkF m 20 #[.val (.ref a1), .val (.int p2)] [])) (fun _ k => XS.icmpYes X14.here hx rfl (pc0 := 13) (pc' := 20) rfl (hb hby d3_13) rfl (tlt hc13).2.2.1 (by decide) (by decide) k) ?_
      refine Go.st (S' := T14.setTop (mkF m 21 #[.val (.ref a1), .val (.int p2)] [(.int (0 : Int32))])) (fun _ k => XS.iconst X14.here hx rfl (hb hby d3_20) k) ?_
      exact own_retN X14 hx hlk hret (by simp) (hb hby d3_21) e14 ⟨by simp [← hr, takF, hc5, hc13, nar], N0, rfl⟩ (by decide) (by decide)
    · refine Go.st (S' := T14.setTop (mkF m 16 #[.val (.ref a1), .val (.int p2)] [])) (fun _ k => XS.icmpNo X14.here hx rfl (hb hby d3_13) rfl (flt hc13).2.2.1 k) ?_
      refine Go.st (S' := T14.setTop (mkF m 17 #[.val (.ref a1), .val (.int p2)] [(.int (1 : Int32))])) (fun _ k => XS.iconst X14.here hx rfl (hb hby d3_16) k) ?_
      refine Go.st (S' := T14.setTop (mkF m 21 #[.val (.ref a1), .val (.int p2)] [(.int (1 : Int32))])) (fun _ k => XS.goto X14.here hx rfl (pc0 := 17) (pc' := 21) rfl (hb hby d3_17) (by decide) (by decide) k) ?_
      exact own_retN X14 hx hlk hret (by simp) (hb hby d3_21) e14 ⟨by simp [← hr, takF, hc5, hc13, nar], N0, rfl⟩ (by decide) (by decide)
theorem pd_515209 : parseMethodDescriptor "(I)Lcom/example/instances_to_rows/instancestorows/query/JpqlFunction;" = some ⟨[.int], some (.object "com/example/instances_to_rows/instancestorows/query/JpqlFunction")⟩ := by decide +kernel
theorem pd_428490 : parseMethodDescriptor "()Z" = some ⟨[], some .boolean⟩ := by decide +kernel
theorem pd_674845 : parseMethodDescriptor "(I)Z" = some ⟨[.int], some .boolean⟩ := by decide +kernel
theorem ef_rm0 (m : MethodId) (x0 : Int32) (x1 : Int32) : entryFrame m #[(.int x0), (.int x1)] maxLocals = mkF m 0 #[.val (.int x0), .val (.int x1), .unset, .unset, .unset, .unset] [] := by first | (simp [entryFrame, mkF, argsToLocals, Value.category, maxLocals]; done) | rfl
set_option maxRecDepth 65536 in
set_option maxHeartbeats 400000000 in
theorem rm0 (l : Launch) (Z : State) (a0 : Array Value) (hw : ∀ d ∈ tables_1, d.before a0 Z = true) (ws : List Jvm.Cond) (w_LOWER : Addr) (w_CONCAT : Addr) (w_CURRENT_DATE : Addr) (w_LOCATE : Addr) (w_ABS : Addr) (w_SQRT : Addr) (w_UPPER : Addr) (w_LENGTH : Addr) (w_CURRENT_TIMESTAMP : Addr) (w_MOD : Addr) (w_SUBSTRING : Addr) (hS : SF Z w_LOWER w_CONCAT w_CURRENT_DATE w_LOCATE w_ABS w_SQRT w_UPPER w_LENGTH w_CURRENT_TIMESTAMP w_MOD w_SUBSTRING) (p1 : Int32) (p2 : Int32) (h0 : Heap) (O0 : Ext Z.heap h0)  :
    Con l Z h0 x code maxLocals ret ws room_1 #[(.int p1), (.int p2)] (fun v h L => v = some (.int 1) ∧ Fr Z.heap.size L) := by
  obtain ⟨S_LOWER, E_LOWER, F_LOWER_most, F_LOWER_fewest, S_CONCAT, E_CONCAT, F_CONCAT_most, F_CONCAT_fewest, S_CURRENT_DATE, E_CURRENT_DATE, F_CURRENT_DATE_most, F_CURRENT_DATE_fewest, S_LOCATE, E_LOCATE, F_LOCATE_most, F_LOCATE_fewest, S_ABS, E_ABS, F_ABS_most, F_ABS_fewest, S_SQRT, E_SQRT, F_SQRT_most, F_SQRT_fewest, S_UPPER, E_UPPER, F_UPPER_most, F_UPPER_fewest, S_LENGTH, E_LENGTH, F_LENGTH_most, F_LENGTH_fewest, S_CURRENT_TIMESTAMP, E_CURRENT_TIMESTAMP, F_CURRENT_TIMESTAMP_most, F_CURRENT_TIMESTAMP_fewest, S_MOD, E_MOD, F_MOD_most, F_MOD_fewest, S_SUBSTRING, E_SUBSTRING, F_SUBSTRING_most, F_SUBSTRING_fewest⟩ := id hS
  refine own_con (plainFor_of_name pn_773337) ?_
  intro p e s m below meth c T0 X0 hx hby hml hown hnm hret hlk hZ e0
  have hown : s.vm.findClass "com/example/instances_to_rows/instancestorows/query/JpqlFunctionTakesArgumentsPinLaw" = some m.cls := hown
  have N0 := Fr.nil Z.heap.size
  refine Go.st (S' := T0.setTop (mkF m 0 #[.val (.int p1), .val (.int p2), .unset, .unset, .unset, .unset] [])) (fun _ k => castTop (ef_rm0 m p1 p2) k) ?_
  refine Go.st (S' := T0.setTop (mkF m 1 #[.val (.int p1), .val (.int p2), .unset, .unset, .unset, .unset] [(.int p1)])) (fun _ k => XS.iloadN X0.here hx rfl (hb hby at_0) rfl k) ?_
  refine Go.st (S' := T0.setTop (mkF m 3 #[.val (.int p1), .val (.int p2), .unset, .unset, .unset, .unset] [(.int (2147483647 : Int32)), (.int p1)])) (X0.ldcInt hx hown (mvT hZ (ww hw 0 rfl)) (g := (mkF m 1 #[.val (.int p1), .val (.int p2), .unset, .unset, .unset, .unset] [(.int p1)])) rfl (hb hby at_1)) ?_
  refine Go.st (S' := T0.setTop (mkF m 4 #[.val (.int p1), .val (.int p2), .unset, .unset, .unset, .unset] [(.int (p1 &&& (2147483647 : Int32)))])) (fun _ k => XS.iand X0.here hx rfl (hb hby at_3) rfl k) ?_
  refine Go.st (S' := T0.setTop (mkF m 6 #[.val (.int p1), .val (.int p2), .unset, .unset, .unset, .unset] [(.int (11 : Int32)), (.int (p1 &&& (2147483647 : Int32)))])) (fun _ k => XS.bipush X0.here hx rfl (hb hby at_4) k) ?_
  refine Go.st (S' := T0.setTop (mkF m 7 #[.val (.int p1), .val (.int p2), .unset, .unset, .unset, .unset] [(.int ((p1 &&& (2147483647 : Int32)) % (11 : Int32)))])) (fun _ k => iremM X0 hx rfl (hb hby at_6) rfl (by decide) k) ?_
  rcases own_rem11 p1 with hk | hk | hk | hk | hk | hk | hk | hk | hk | hk | hk
  · refine Go.st (S' := T0.setTop (mkF m 7 #[.val (.int p1), .val (.int p2), .unset, .unset, .unset, .unset] [(.int (0 : Int32))])) (fun _ k => by rw [hk]; exact k) ?_
    refine Go.st (S' := T0.setTop (mkF m 8 #[.val (.int p1), .val (.int p2), .val (.int (0 : Int32)), .unset, .unset, .unset] [])) (fun _ k => XS.istoreN X0.here hx rfl (hb hby at_7) rfl (l' := #[.val (.int p1), .val (.int p2), .val (.int (0 : Int32)), .unset, .unset, .unset]) rfl k) ?_
    refine Go.st (S' := T0.setTop (mkF m 9 #[.val (.int p1), .val (.int p2), .val (.int (0 : Int32)), .unset, .unset, .unset] [(.int (0 : Int32))])) (fun _ k => XS.iloadN X0.here hx rfl (hb hby at_8) rfl k) ?_
    obtain ⟨_, T15, L15, X15, ⟨⟨w15, rfl, m015, m115, m215, m315, m415, m515, m615, m715, m815, m915, m1015⟩, Nq15, eq15⟩, st15⟩ := own_callS X0 hx hZ hown (ww hw 1 rfl) (ww hw 2 rfl) (ww hw 3 rfl) (ww hw 4 rfl) (by decide) e0 (rm1 l Z a0 hw [] w_LOWER w_CONCAT w_CURRENT_DATE w_LOCATE w_ABS w_SQRT w_UPPER w_LENGTH w_CURRENT_TIMESTAMP w_MOD w_SUBSTRING hS (0 : Int32) h0 O0) 0 (by decide) (by decide) (by decide) (by decide) (g := (mkF m 9 #[.val (.int p1), .val (.int p2), .val (.int (0 : Int32)), .unset, .unset, .unset] [(.int (0 : Int32))])) rfl (by rw [hml]; rfl) [(.int (0 : Int32))] [] rfl (lenOf pd_515209 rfl) rfl (by show 2 * 0 + _ ≤ _; exact Nat.le_of_eq rfl) (hb hby at_9)
    have N15 := Fr.app N0 Nq15
    obtain rfl : w_LOWER = w15 := (m015 rfl).symm
    refine Go.st (S' := T15.setTop (mkF m 12 #[.val (.int p1), .val (.int p2), .val (.int (0 : Int32)), .unset, .unset, .unset] [(.ref w_LOWER)])) st15 ?_
    refine Go.st (S' := T15.setTop (mkF m 13 #[.val (.int p1), .val (.int p2), .val (.int (0 : Int32)), .val (.ref w_LOWER), .unset, .unset] [])) (fun _ k => XS.astoreN X15.here hx rfl (hb hby at_12) rfl rfl (l' := #[.val (.int p1), .val (.int p2), .val (.int (0 : Int32)), .val (.ref w_LOWER), .unset, .unset]) rfl k) ?_
    refine Go.st (S' := T15.setTop (mkF m 14 #[.val (.int p1), .val (.int p2), .val (.int (0 : Int32)), .val (.ref w_LOWER), .unset, .unset] [(.ref w_LOWER)])) (fun _ k => XS.aloadN X15.here hx rfl (hb hby at_13) rfl rfl k) ?_
    obtain ⟨_, T16, L16, X16, ⟨rfl, Nq16, eq16⟩, st16⟩ := own_callV X15 hx hZ hown (ww hw 8 rfl) (ww hw 9 rfl) (notFace_of_selects (args := #[]) (mvT hZ (ww hw 11 rfl))) (ww hw 11 rfl) (ww hw 10 rfl) (ww hw 6 rfl) (ww hw 12 rfl) (by decide) eq15 (E_LOWER.ext O0) (rm2 l Z a0 hw [] w_LOWER w_CONCAT w_CURRENT_DATE w_LOCATE w_ABS w_SQRT w_UPPER w_LENGTH w_CURRENT_TIMESTAMP w_MOD w_SUBSTRING hS w_LOWER (1 : Int32) (1 : Int32) (by decide) h0 O0 (F_LOWER_most.ext O0)) 0 (by decide) (by decide) (by decide) (by decide) (g := (mkF m 14 #[.val (.int p1), .val (.int p2), .val (.int (0 : Int32)), .val (.ref w_LOWER), .unset, .unset] [(.ref w_LOWER)])) rfl (by rw [hml]; rfl) [] [] rfl (lenOf pd_428490 rfl) rfl (by show 2 * 0 + _ ≤ _; exact Nat.le_of_eq rfl) (hb hby at_14)
    have N16 := Fr.app N15 Nq16
    refine Go.st (S' := T16.setTop (mkF m 17 #[.val (.int p1), .val (.int p2), .val (.int (0 : Int32)), .val (.ref w_LOWER), .unset, .unset] [(.int (1 : Int32))])) st16 ?_
    refine Go.st (S' := T16.setTop (mkF m 19 #[.val (.int p1), .val (.int p2), .val (.int (0 : Int32)), .val (.ref w_LOWER), .val (.int (1 : Int32)), .unset] [])) (fun _ k => XS.istore X16.here hx rfl (hb hby at_17) rfl (l' := #[.val (.int p1), .val (.int p2), .val (.int (0 : Int32)), .val (.ref w_LOWER), .val (.int (1 : Int32)), .unset]) rfl k) ?_
    refine Go.st (S' := T16.setTop (mkF m 20 #[.val (.int p1), .val (.int p2), .val (.int (0 : Int32)), .val (.ref w_LOWER), .val (.int (1 : Int32)), .unset] [(.int (0 : Int32))])) (fun _ k => XS.iloadN X16.here hx rfl (hb hby at_19) rfl k) ?_
    refine Go.st (S' := T16.setTop (mkF m 22 #[.val (.int p1), .val (.int p2), .val (.int (0 : Int32)), .val (.ref w_LOWER), .val (.int (1 : Int32)), .unset] [(.int (9 : Int32)), (.int (0 : Int32))])) (fun _ k => XS.bipush X16.here hx rfl (hb hby at_20) k) ?_
    refine Go.st (S' := T16.setTop (mkF m 25 #[.val (.int p1), .val (.int p2), .val (.int (0 : Int32)), .val (.ref w_LOWER), .val (.int (1 : Int32)), .unset] [])) (fun _ k => XS.icmpNo X16.here hx rfl (hb hby at_22) rfl (tlt (by decide)).2.1 k) ?_
    refine Go.st (S' := T16.setTop (mkF m 26 #[.val (.int p1), .val (.int p2), .val (.int (0 : Int32)), .val (.ref w_LOWER), .val (.int (1 : Int32)), .unset] [(.int (1 : Int32))])) (fun _ k => XS.iconst X16.here hx rfl (hb hby at_25) k) ?_
    refine Go.st (S' := T16.setTop (mkF m 30 #[.val (.int p1), .val (.int p2), .val (.int (0 : Int32)), .val (.ref w_LOWER), .val (.int (1 : Int32)), .unset] [(.int (1 : Int32))])) (fun _ k => XS.goto X16.here hx rfl (pc0 := 26) (pc' := 30) rfl (hb hby at_26) (by decide) (by decide) k) ?_
    refine Go.st (S' := T16.setTop (mkF m 32 #[.val (.int p1), .val (.int p2), .val (.int (0 : Int32)), .val (.ref w_LOWER), .val (.int (1 : Int32)), .val (.int (1 : Int32))] [])) (fun _ k => XS.istore X16.here hx rfl (hb hby at_30) rfl (l' := #[.val (.int p1), .val (.int p2), .val (.int (0 : Int32)), .val (.ref w_LOWER), .val (.int (1 : Int32)), .val (.int (1 : Int32))]) rfl k) ?_
    refine Go.st (S' := T16.setTop (mkF m 34 #[.val (.int p1), .val (.int p2), .val (.int (0 : Int32)), .val (.ref w_LOWER), .val (.int (1 : Int32)), .val (.int (1 : Int32))] [(.int (1 : Int32))])) (fun _ k => XS.iload X16.here hx rfl (hb hby at_32) rfl k) ?_
    refine Go.st (S' := T16.setTop (mkF m 36 #[.val (.int p1), .val (.int p2), .val (.int (0 : Int32)), .val (.ref w_LOWER), .val (.int (1 : Int32)), .val (.int (1 : Int32))] [(.int (1 : Int32)), (.int (1 : Int32))])) (fun _ k => XS.iload X16.here hx rfl (hb hby at_34) rfl k) ?_
    refine Go.st (S' := T16.setTop (mkF m 41 #[.val (.int p1), .val (.int p2), .val (.int (0 : Int32)), .val (.ref w_LOWER), .val (.int (1 : Int32)), .val (.int (1 : Int32))] [])) (fun _ k => XS.icmpYes X16.here hx rfl (pc0 := 36) (pc' := 41) rfl (hb hby at_36) rfl (teq (by decide)).1 (by decide) (by decide) k) ?_
    refine Go.st (S' := T16.setTop (mkF m 43 #[.val (.int p1), .val (.int p2), .val (.int (0 : Int32)), .val (.ref w_LOWER), .val (.int (1 : Int32)), .val (.int (1 : Int32))] [(.int (1 : Int32))])) (fun _ k => XS.iload X16.here hx rfl (hb hby at_41) rfl k) ?_
    refine Go.st (S' := T16.setTop (mkF m 44 #[.val (.int p1), .val (.int p2), .val (.int (0 : Int32)), .val (.ref w_LOWER), .val (.int (1 : Int32)), .val (.int (1 : Int32))] [(.ref w_LOWER), (.int (1 : Int32))])) (fun _ k => XS.aloadN X16.here hx rfl (hb hby at_43) rfl rfl k) ?_
    refine Go.st (S' := T16.setTop (mkF m 45 #[.val (.int p1), .val (.int p2), .val (.int (0 : Int32)), .val (.ref w_LOWER), .val (.int (1 : Int32)), .val (.int (1 : Int32))] [(.int (0 : Int32)), (.ref w_LOWER), (.int (1 : Int32))])) (fun _ k => XS.iconst X16.here hx rfl (hb hby at_44) k) ?_
    obtain ⟨_, T17, L17, X17, ⟨rfl, Nq17, eq17⟩, st17⟩ := own_callV X16 hx hZ hown (ww hw 15 rfl) (ww hw 16 rfl) (notFace_of_selects (args := #[]) (mvT hZ (ww hw 18 rfl))) (ww hw 18 rfl) (ww hw 17 rfl) (ww hw 6 rfl) (ww hw 19 rfl) (by decide) eq16 (E_LOWER.ext O0) (rm3 l Z a0 hw [] w_LOWER w_CONCAT w_CURRENT_DATE w_LOCATE w_ABS w_SQRT w_UPPER w_LENGTH w_CURRENT_TIMESTAMP w_MOD w_SUBSTRING hS w_LOWER (0 : Int32) (1 : Int32) (1 : Int32) (0 : Int32) (by decide) h0 O0 (F_LOWER_fewest.ext O0) (F_LOWER_most.ext O0)) 1 (by decide) (by decide) (by decide) (by decide) (g := (mkF m 45 #[.val (.int p1), .val (.int p2), .val (.int (0 : Int32)), .val (.ref w_LOWER), .val (.int (1 : Int32)), .val (.int (1 : Int32))] [(.int (0 : Int32)), (.ref w_LOWER), (.int (1 : Int32))])) rfl (by rw [hml]; rfl) [(.int (0 : Int32))] [(.int (1 : Int32))] rfl (lenOf pd_674845 rfl) rfl (by show 2 * 0 + _ ≤ _; exact Nat.le_of_eq rfl) (hb hby at_45)
    have N17 := Fr.app N16 Nq17
    refine Go.st (S' := T17.setTop (mkF m 48 #[.val (.int p1), .val (.int p2), .val (.int (0 : Int32)), .val (.ref w_LOWER), .val (.int (1 : Int32)), .val (.int (1 : Int32))] [(.int (0 : Int32)), (.int (1 : Int32))])) st17 ?_
    refine Go.st (S' := T17.setTop (mkF m 53 #[.val (.int p1), .val (.int p2), .val (.int (0 : Int32)), .val (.ref w_LOWER), .val (.int (1 : Int32)), .val (.int (1 : Int32))] [])) (fun _ k => XS.icmpYes X17.here hx rfl (pc0 := 48) (pc' := 53) rfl (hb hby at_48) rfl (feq (by decide)).2 (by decide) (by decide) k) ?_
    refine Go.st (S' := T17.setTop (mkF m 54 #[.val (.int p1), .val (.int p2), .val (.int (0 : Int32)), .val (.ref w_LOWER), .val (.int (1 : Int32)), .val (.int (1 : Int32))] [(.int p2)])) (fun _ k => XS.iloadN X17.here hx rfl (hb hby at_53) rfl k) ?_
    by_cases hc54 : (0 : Int32) < p2
    · refine Go.st (S' := T17.setTop (mkF m 57 #[.val (.int p1), .val (.int p2), .val (.int (0 : Int32)), .val (.ref w_LOWER), .val (.int (1 : Int32)), .val (.int (1 : Int32))] [])) (fun _ k => XS.ifNo X17.here hx rfl (hb hby at_54) rfl ((if0 _ _).trans (tlt hc54).2.2.2) k) ?_
      refine Go.st (S' := T17.setTop (mkF m 58 #[.val (.int p1), .val (.int p2), .val (.int (0 : Int32)), .val (.ref w_LOWER), .val (.int (1 : Int32)), .val (.int (1 : Int32))] [(.ref w_LOWER)])) (fun _ k => XS.aloadN X17.here hx rfl (hb hby at_57) rfl rfl k) ?_
      refine Go.st (S' := T17.setTop (mkF m 59 #[.val (.int p1), .val (.int p2), .val (.int (0 : Int32)), .val (.ref w_LOWER), .val (.int (1 : Int32)), .val (.int (1 : Int32))] [(.int p2), (.ref w_LOWER)])) (fun _ k => XS.iloadN X17.here hx rfl (hb hby at_58) rfl k) ?_
      obtain ⟨_, T18, L18, X18, ⟨rfl, Nq18, eq18⟩, st18⟩ := own_callV X17 hx hZ hown (ww hw 15 rfl) (ww hw 16 rfl) (notFace_of_selects (args := #[]) (mvT hZ (ww hw 18 rfl))) (ww hw 18 rfl) (ww hw 17 rfl) (ww hw 6 rfl) (ww hw 19 rfl) (by decide) eq17 (E_LOWER.ext O0) (rm3 l Z a0 hw [] w_LOWER w_CONCAT w_CURRENT_DATE w_LOCATE w_ABS w_SQRT w_UPPER w_LENGTH w_CURRENT_TIMESTAMP w_MOD w_SUBSTRING hS w_LOWER p2 (1 : Int32) (1 : Int32) (takF (1 : Int32) (1 : Int32) p2) rfl h0 O0 (F_LOWER_fewest.ext O0) (F_LOWER_most.ext O0)) 0 (by decide) (by decide) (by decide) (by decide) (g := (mkF m 59 #[.val (.int p1), .val (.int p2), .val (.int (0 : Int32)), .val (.ref w_LOWER), .val (.int (1 : Int32)), .val (.int (1 : Int32))] [(.int p2), (.ref w_LOWER)])) rfl (by rw [hml]; rfl) [(.int p2)] [] rfl (lenOf pd_674845 rfl) rfl (by show 2 * 0 + _ ≤ _; exact Nat.le_of_eq rfl) (hb hby at_59)
      have N18 := Fr.app N17 Nq18
      refine Go.st (S' := T18.setTop (mkF m 62 #[.val (.int p1), .val (.int p2), .val (.int (0 : Int32)), .val (.ref w_LOWER), .val (.int (1 : Int32)), .val (.int (1 : Int32))] [(.int (takF (1 : Int32) (1 : Int32) p2))])) st18 ?_
      by_cases hc62 : (takF (1 : Int32) (1 : Int32) p2) = (0 : Int32)
      · refine Go.st (S' := T18.setTop (mkF m 72 #[.val (.int p1), .val (.int p2), .val (.int (0 : Int32)), .val (.ref w_LOWER), .val (.int (1 : Int32)), .val (.int (1 : Int32))] [])) (fun _ k => XS.ifYes X18.here hx rfl (pc0 := 62) (pc' := 72) rfl (hb hby at_62) rfl ((if0 _ _).trans (teq hc62).1) (by decide) (by decide) k) ?_
        refine Go.st (S' := T18.setTop (mkF m 73 #[.val (.int p1), .val (.int p2), .val (.int (0 : Int32)), .val (.ref w_LOWER), .val (.int (1 : Int32)), .val (.int (1 : Int32))] [(.int (1 : Int32))])) (fun _ k => XS.iconst X18.here hx rfl (hb hby at_72) k) ?_
        exact own_retN X18 hx hlk hret (by simp) (hb hby at_73) eq18 ⟨rfl, N18⟩ (by decide) (by decide)
      · refine Go.st (S' := T18.setTop (mkF m 65 #[.val (.int p1), .val (.int p2), .val (.int (0 : Int32)), .val (.ref w_LOWER), .val (.int (1 : Int32)), .val (.int (1 : Int32))] [])) (fun _ k => XS.ifNo X18.here hx rfl (hb hby at_62) rfl ((if0 _ _).trans (feq hc62).1) k) ?_
        refine Go.st (S' := T18.setTop (mkF m 67 #[.val (.int p1), .val (.int p2), .val (.int (0 : Int32)), .val (.ref w_LOWER), .val (.int (1 : Int32)), .val (.int (1 : Int32))] [(.int (1 : Int32))])) (fun _ k => XS.iload X18.here hx rfl (hb hby at_65) rfl k) ?_
        refine Go.st (S' := T18.setTop (mkF m 72 #[.val (.int p1), .val (.int p2), .val (.int (0 : Int32)), .val (.ref w_LOWER), .val (.int (1 : Int32)), .val (.int (1 : Int32))] [])) (fun _ k => XS.ifYes X18.here hx rfl (pc0 := 67) (pc' := 72) rfl (hb hby at_67) rfl ((if0 _ _).trans (feq (by decide)).2) (by decide) (by decide) k) ?_
        refine Go.st (S' := T18.setTop (mkF m 73 #[.val (.int p1), .val (.int p2), .val (.int (0 : Int32)), .val (.ref w_LOWER), .val (.int (1 : Int32)), .val (.int (1 : Int32))] [(.int (1 : Int32))])) (fun _ k => XS.iconst X18.here hx rfl (hb hby at_72) k) ?_
        exact own_retN X18 hx hlk hret (by simp) (hb hby at_73) eq18 ⟨rfl, N18⟩ (by decide) (by decide)
    · refine Go.st (S' := T17.setTop (mkF m 72 #[.val (.int p1), .val (.int p2), .val (.int (0 : Int32)), .val (.ref w_LOWER), .val (.int (1 : Int32)), .val (.int (1 : Int32))] [])) (fun _ k => XS.ifYes X17.here hx rfl (pc0 := 54) (pc' := 72) rfl (hb hby at_54) rfl ((if0 _ _).trans (flt hc54).2.2.2) (by decide) (by decide) k) ?_
      refine Go.st (S' := T17.setTop (mkF m 73 #[.val (.int p1), .val (.int p2), .val (.int (0 : Int32)), .val (.ref w_LOWER), .val (.int (1 : Int32)), .val (.int (1 : Int32))] [(.int (1 : Int32))])) (fun _ k => XS.iconst X17.here hx rfl (hb hby at_72) k) ?_
      exact own_retN X17 hx hlk hret (by simp) (hb hby at_73) eq17 ⟨rfl, N17⟩ (by decide) (by decide)
  · refine Go.st (S' := T0.setTop (mkF m 7 #[.val (.int p1), .val (.int p2), .unset, .unset, .unset, .unset] [(.int (1 : Int32))])) (fun _ k => by rw [hk]; exact k) ?_
    refine Go.st (S' := T0.setTop (mkF m 8 #[.val (.int p1), .val (.int p2), .val (.int (1 : Int32)), .unset, .unset, .unset] [])) (fun _ k => XS.istoreN X0.here hx rfl (hb hby at_7) rfl (l' := #[.val (.int p1), .val (.int p2), .val (.int (1 : Int32)), .unset, .unset, .unset]) rfl k) ?_
    refine Go.st (S' := T0.setTop (mkF m 9 #[.val (.int p1), .val (.int p2), .val (.int (1 : Int32)), .unset, .unset, .unset] [(.int (1 : Int32))])) (fun _ k => XS.iloadN X0.here hx rfl (hb hby at_8) rfl k) ?_
    obtain ⟨_, T19, L19, X19, ⟨⟨w19, rfl, m019, m119, m219, m319, m419, m519, m619, m719, m819, m919, m1019⟩, Nq19, eq19⟩, st19⟩ := own_callS X0 hx hZ hown (ww hw 1 rfl) (ww hw 2 rfl) (ww hw 3 rfl) (ww hw 4 rfl) (by decide) e0 (rm1 l Z a0 hw [] w_LOWER w_CONCAT w_CURRENT_DATE w_LOCATE w_ABS w_SQRT w_UPPER w_LENGTH w_CURRENT_TIMESTAMP w_MOD w_SUBSTRING hS (1 : Int32) h0 O0) 0 (by decide) (by decide) (by decide) (by decide) (g := (mkF m 9 #[.val (.int p1), .val (.int p2), .val (.int (1 : Int32)), .unset, .unset, .unset] [(.int (1 : Int32))])) rfl (by rw [hml]; rfl) [(.int (1 : Int32))] [] rfl (lenOf pd_515209 rfl) rfl (by show 2 * 0 + _ ≤ _; exact Nat.le_of_eq rfl) (hb hby at_9)
    have N19 := Fr.app N0 Nq19
    obtain rfl : w_UPPER = w19 := (m119 rfl).symm
    refine Go.st (S' := T19.setTop (mkF m 12 #[.val (.int p1), .val (.int p2), .val (.int (1 : Int32)), .unset, .unset, .unset] [(.ref w_UPPER)])) st19 ?_
    refine Go.st (S' := T19.setTop (mkF m 13 #[.val (.int p1), .val (.int p2), .val (.int (1 : Int32)), .val (.ref w_UPPER), .unset, .unset] [])) (fun _ k => XS.astoreN X19.here hx rfl (hb hby at_12) rfl rfl (l' := #[.val (.int p1), .val (.int p2), .val (.int (1 : Int32)), .val (.ref w_UPPER), .unset, .unset]) rfl k) ?_
    refine Go.st (S' := T19.setTop (mkF m 14 #[.val (.int p1), .val (.int p2), .val (.int (1 : Int32)), .val (.ref w_UPPER), .unset, .unset] [(.ref w_UPPER)])) (fun _ k => XS.aloadN X19.here hx rfl (hb hby at_13) rfl rfl k) ?_
    obtain ⟨_, T20, L20, X20, ⟨rfl, Nq20, eq20⟩, st20⟩ := own_callV X19 hx hZ hown (ww hw 8 rfl) (ww hw 9 rfl) (notFace_of_selects (args := #[]) (mvT hZ (ww hw 11 rfl))) (ww hw 11 rfl) (ww hw 10 rfl) (ww hw 6 rfl) (ww hw 12 rfl) (by decide) eq19 (E_UPPER.ext O0) (rm2 l Z a0 hw [] w_LOWER w_CONCAT w_CURRENT_DATE w_LOCATE w_ABS w_SQRT w_UPPER w_LENGTH w_CURRENT_TIMESTAMP w_MOD w_SUBSTRING hS w_UPPER (1 : Int32) (1 : Int32) (by decide) h0 O0 (F_UPPER_most.ext O0)) 0 (by decide) (by decide) (by decide) (by decide) (g := (mkF m 14 #[.val (.int p1), .val (.int p2), .val (.int (1 : Int32)), .val (.ref w_UPPER), .unset, .unset] [(.ref w_UPPER)])) rfl (by rw [hml]; rfl) [] [] rfl (lenOf pd_428490 rfl) rfl (by show 2 * 0 + _ ≤ _; exact Nat.le_of_eq rfl) (hb hby at_14)
    have N20 := Fr.app N19 Nq20
    refine Go.st (S' := T20.setTop (mkF m 17 #[.val (.int p1), .val (.int p2), .val (.int (1 : Int32)), .val (.ref w_UPPER), .unset, .unset] [(.int (1 : Int32))])) st20 ?_
    refine Go.st (S' := T20.setTop (mkF m 19 #[.val (.int p1), .val (.int p2), .val (.int (1 : Int32)), .val (.ref w_UPPER), .val (.int (1 : Int32)), .unset] [])) (fun _ k => XS.istore X20.here hx rfl (hb hby at_17) rfl (l' := #[.val (.int p1), .val (.int p2), .val (.int (1 : Int32)), .val (.ref w_UPPER), .val (.int (1 : Int32)), .unset]) rfl k) ?_
    refine Go.st (S' := T20.setTop (mkF m 20 #[.val (.int p1), .val (.int p2), .val (.int (1 : Int32)), .val (.ref w_UPPER), .val (.int (1 : Int32)), .unset] [(.int (1 : Int32))])) (fun _ k => XS.iloadN X20.here hx rfl (hb hby at_19) rfl k) ?_
    refine Go.st (S' := T20.setTop (mkF m 22 #[.val (.int p1), .val (.int p2), .val (.int (1 : Int32)), .val (.ref w_UPPER), .val (.int (1 : Int32)), .unset] [(.int (9 : Int32)), (.int (1 : Int32))])) (fun _ k => XS.bipush X20.here hx rfl (hb hby at_20) k) ?_
    refine Go.st (S' := T20.setTop (mkF m 25 #[.val (.int p1), .val (.int p2), .val (.int (1 : Int32)), .val (.ref w_UPPER), .val (.int (1 : Int32)), .unset] [])) (fun _ k => XS.icmpNo X20.here hx rfl (hb hby at_22) rfl (tlt (by decide)).2.1 k) ?_
    refine Go.st (S' := T20.setTop (mkF m 26 #[.val (.int p1), .val (.int p2), .val (.int (1 : Int32)), .val (.ref w_UPPER), .val (.int (1 : Int32)), .unset] [(.int (1 : Int32))])) (fun _ k => XS.iconst X20.here hx rfl (hb hby at_25) k) ?_
    refine Go.st (S' := T20.setTop (mkF m 30 #[.val (.int p1), .val (.int p2), .val (.int (1 : Int32)), .val (.ref w_UPPER), .val (.int (1 : Int32)), .unset] [(.int (1 : Int32))])) (fun _ k => XS.goto X20.here hx rfl (pc0 := 26) (pc' := 30) rfl (hb hby at_26) (by decide) (by decide) k) ?_
    refine Go.st (S' := T20.setTop (mkF m 32 #[.val (.int p1), .val (.int p2), .val (.int (1 : Int32)), .val (.ref w_UPPER), .val (.int (1 : Int32)), .val (.int (1 : Int32))] [])) (fun _ k => XS.istore X20.here hx rfl (hb hby at_30) rfl (l' := #[.val (.int p1), .val (.int p2), .val (.int (1 : Int32)), .val (.ref w_UPPER), .val (.int (1 : Int32)), .val (.int (1 : Int32))]) rfl k) ?_
    refine Go.st (S' := T20.setTop (mkF m 34 #[.val (.int p1), .val (.int p2), .val (.int (1 : Int32)), .val (.ref w_UPPER), .val (.int (1 : Int32)), .val (.int (1 : Int32))] [(.int (1 : Int32))])) (fun _ k => XS.iload X20.here hx rfl (hb hby at_32) rfl k) ?_
    refine Go.st (S' := T20.setTop (mkF m 36 #[.val (.int p1), .val (.int p2), .val (.int (1 : Int32)), .val (.ref w_UPPER), .val (.int (1 : Int32)), .val (.int (1 : Int32))] [(.int (1 : Int32)), (.int (1 : Int32))])) (fun _ k => XS.iload X20.here hx rfl (hb hby at_34) rfl k) ?_
    refine Go.st (S' := T20.setTop (mkF m 41 #[.val (.int p1), .val (.int p2), .val (.int (1 : Int32)), .val (.ref w_UPPER), .val (.int (1 : Int32)), .val (.int (1 : Int32))] [])) (fun _ k => XS.icmpYes X20.here hx rfl (pc0 := 36) (pc' := 41) rfl (hb hby at_36) rfl (teq (by decide)).1 (by decide) (by decide) k) ?_
    refine Go.st (S' := T20.setTop (mkF m 43 #[.val (.int p1), .val (.int p2), .val (.int (1 : Int32)), .val (.ref w_UPPER), .val (.int (1 : Int32)), .val (.int (1 : Int32))] [(.int (1 : Int32))])) (fun _ k => XS.iload X20.here hx rfl (hb hby at_41) rfl k) ?_
    refine Go.st (S' := T20.setTop (mkF m 44 #[.val (.int p1), .val (.int p2), .val (.int (1 : Int32)), .val (.ref w_UPPER), .val (.int (1 : Int32)), .val (.int (1 : Int32))] [(.ref w_UPPER), (.int (1 : Int32))])) (fun _ k => XS.aloadN X20.here hx rfl (hb hby at_43) rfl rfl k) ?_
    refine Go.st (S' := T20.setTop (mkF m 45 #[.val (.int p1), .val (.int p2), .val (.int (1 : Int32)), .val (.ref w_UPPER), .val (.int (1 : Int32)), .val (.int (1 : Int32))] [(.int (0 : Int32)), (.ref w_UPPER), (.int (1 : Int32))])) (fun _ k => XS.iconst X20.here hx rfl (hb hby at_44) k) ?_
    obtain ⟨_, T21, L21, X21, ⟨rfl, Nq21, eq21⟩, st21⟩ := own_callV X20 hx hZ hown (ww hw 15 rfl) (ww hw 16 rfl) (notFace_of_selects (args := #[]) (mvT hZ (ww hw 18 rfl))) (ww hw 18 rfl) (ww hw 17 rfl) (ww hw 6 rfl) (ww hw 19 rfl) (by decide) eq20 (E_UPPER.ext O0) (rm3 l Z a0 hw [] w_LOWER w_CONCAT w_CURRENT_DATE w_LOCATE w_ABS w_SQRT w_UPPER w_LENGTH w_CURRENT_TIMESTAMP w_MOD w_SUBSTRING hS w_UPPER (0 : Int32) (1 : Int32) (1 : Int32) (0 : Int32) (by decide) h0 O0 (F_UPPER_fewest.ext O0) (F_UPPER_most.ext O0)) 1 (by decide) (by decide) (by decide) (by decide) (g := (mkF m 45 #[.val (.int p1), .val (.int p2), .val (.int (1 : Int32)), .val (.ref w_UPPER), .val (.int (1 : Int32)), .val (.int (1 : Int32))] [(.int (0 : Int32)), (.ref w_UPPER), (.int (1 : Int32))])) rfl (by rw [hml]; rfl) [(.int (0 : Int32))] [(.int (1 : Int32))] rfl (lenOf pd_674845 rfl) rfl (by show 2 * 0 + _ ≤ _; exact Nat.le_of_eq rfl) (hb hby at_45)
    have N21 := Fr.app N20 Nq21
    refine Go.st (S' := T21.setTop (mkF m 48 #[.val (.int p1), .val (.int p2), .val (.int (1 : Int32)), .val (.ref w_UPPER), .val (.int (1 : Int32)), .val (.int (1 : Int32))] [(.int (0 : Int32)), (.int (1 : Int32))])) st21 ?_
    refine Go.st (S' := T21.setTop (mkF m 53 #[.val (.int p1), .val (.int p2), .val (.int (1 : Int32)), .val (.ref w_UPPER), .val (.int (1 : Int32)), .val (.int (1 : Int32))] [])) (fun _ k => XS.icmpYes X21.here hx rfl (pc0 := 48) (pc' := 53) rfl (hb hby at_48) rfl (feq (by decide)).2 (by decide) (by decide) k) ?_
    refine Go.st (S' := T21.setTop (mkF m 54 #[.val (.int p1), .val (.int p2), .val (.int (1 : Int32)), .val (.ref w_UPPER), .val (.int (1 : Int32)), .val (.int (1 : Int32))] [(.int p2)])) (fun _ k => XS.iloadN X21.here hx rfl (hb hby at_53) rfl k) ?_
    by_cases hc54_1 : (0 : Int32) < p2
    · refine Go.st (S' := T21.setTop (mkF m 57 #[.val (.int p1), .val (.int p2), .val (.int (1 : Int32)), .val (.ref w_UPPER), .val (.int (1 : Int32)), .val (.int (1 : Int32))] [])) (fun _ k => XS.ifNo X21.here hx rfl (hb hby at_54) rfl ((if0 _ _).trans (tlt hc54_1).2.2.2) k) ?_
      refine Go.st (S' := T21.setTop (mkF m 58 #[.val (.int p1), .val (.int p2), .val (.int (1 : Int32)), .val (.ref w_UPPER), .val (.int (1 : Int32)), .val (.int (1 : Int32))] [(.ref w_UPPER)])) (fun _ k => XS.aloadN X21.here hx rfl (hb hby at_57) rfl rfl k) ?_
      refine Go.st (S' := T21.setTop (mkF m 59 #[.val (.int p1), .val (.int p2), .val (.int (1 : Int32)), .val (.ref w_UPPER), .val (.int (1 : Int32)), .val (.int (1 : Int32))] [(.int p2), (.ref w_UPPER)])) (fun _ k => XS.iloadN X21.here hx rfl (hb hby at_58) rfl k) ?_
      obtain ⟨_, T22, L22, X22, ⟨rfl, Nq22, eq22⟩, st22⟩ := own_callV X21 hx hZ hown (ww hw 15 rfl) (ww hw 16 rfl) (notFace_of_selects (args := #[]) (mvT hZ (ww hw 18 rfl))) (ww hw 18 rfl) (ww hw 17 rfl) (ww hw 6 rfl) (ww hw 19 rfl) (by decide) eq21 (E_UPPER.ext O0) (rm3 l Z a0 hw [] w_LOWER w_CONCAT w_CURRENT_DATE w_LOCATE w_ABS w_SQRT w_UPPER w_LENGTH w_CURRENT_TIMESTAMP w_MOD w_SUBSTRING hS w_UPPER p2 (1 : Int32) (1 : Int32) (takF (1 : Int32) (1 : Int32) p2) rfl h0 O0 (F_UPPER_fewest.ext O0) (F_UPPER_most.ext O0)) 0 (by decide) (by decide) (by decide) (by decide) (g := (mkF m 59 #[.val (.int p1), .val (.int p2), .val (.int (1 : Int32)), .val (.ref w_UPPER), .val (.int (1 : Int32)), .val (.int (1 : Int32))] [(.int p2), (.ref w_UPPER)])) rfl (by rw [hml]; rfl) [(.int p2)] [] rfl (lenOf pd_674845 rfl) rfl (by show 2 * 0 + _ ≤ _; exact Nat.le_of_eq rfl) (hb hby at_59)
      have N22 := Fr.app N21 Nq22
      refine Go.st (S' := T22.setTop (mkF m 62 #[.val (.int p1), .val (.int p2), .val (.int (1 : Int32)), .val (.ref w_UPPER), .val (.int (1 : Int32)), .val (.int (1 : Int32))] [(.int (takF (1 : Int32) (1 : Int32) p2))])) st22 ?_
      by_cases hc62_1 : (takF (1 : Int32) (1 : Int32) p2) = (0 : Int32)
      · refine Go.st (S' := T22.setTop (mkF m 72 #[.val (.int p1), .val (.int p2), .val (.int (1 : Int32)), .val (.ref w_UPPER), .val (.int (1 : Int32)), .val (.int (1 : Int32))] [])) (fun _ k => XS.ifYes X22.here hx rfl (pc0 := 62) (pc' := 72) rfl (hb hby at_62) rfl ((if0 _ _).trans (teq hc62_1).1) (by decide) (by decide) k) ?_
        refine Go.st (S' := T22.setTop (mkF m 73 #[.val (.int p1), .val (.int p2), .val (.int (1 : Int32)), .val (.ref w_UPPER), .val (.int (1 : Int32)), .val (.int (1 : Int32))] [(.int (1 : Int32))])) (fun _ k => XS.iconst X22.here hx rfl (hb hby at_72) k) ?_
        exact own_retN X22 hx hlk hret (by simp) (hb hby at_73) eq22 ⟨rfl, N22⟩ (by decide) (by decide)
      · refine Go.st (S' := T22.setTop (mkF m 65 #[.val (.int p1), .val (.int p2), .val (.int (1 : Int32)), .val (.ref w_UPPER), .val (.int (1 : Int32)), .val (.int (1 : Int32))] [])) (fun _ k => XS.ifNo X22.here hx rfl (hb hby at_62) rfl ((if0 _ _).trans (feq hc62_1).1) k) ?_
        refine Go.st (S' := T22.setTop (mkF m 67 #[.val (.int p1), .val (.int p2), .val (.int (1 : Int32)), .val (.ref w_UPPER), .val (.int (1 : Int32)), .val (.int (1 : Int32))] [(.int (1 : Int32))])) (fun _ k => XS.iload X22.here hx rfl (hb hby at_65) rfl k) ?_
        refine Go.st (S' := T22.setTop (mkF m 72 #[.val (.int p1), .val (.int p2), .val (.int (1 : Int32)), .val (.ref w_UPPER), .val (.int (1 : Int32)), .val (.int (1 : Int32))] [])) (fun _ k => XS.ifYes X22.here hx rfl (pc0 := 67) (pc' := 72) rfl (hb hby at_67) rfl ((if0 _ _).trans (feq (by decide)).2) (by decide) (by decide) k) ?_
        refine Go.st (S' := T22.setTop (mkF m 73 #[.val (.int p1), .val (.int p2), .val (.int (1 : Int32)), .val (.ref w_UPPER), .val (.int (1 : Int32)), .val (.int (1 : Int32))] [(.int (1 : Int32))])) (fun _ k => XS.iconst X22.here hx rfl (hb hby at_72) k) ?_
        exact own_retN X22 hx hlk hret (by simp) (hb hby at_73) eq22 ⟨rfl, N22⟩ (by decide) (by decide)
    · refine Go.st (S' := T21.setTop (mkF m 72 #[.val (.int p1), .val (.int p2), .val (.int (1 : Int32)), .val (.ref w_UPPER), .val (.int (1 : Int32)), .val (.int (1 : Int32))] [])) (fun _ k => XS.ifYes X21.here hx rfl (pc0 := 54) (pc' := 72) rfl (hb hby at_54) rfl ((if0 _ _).trans (flt hc54_1).2.2.2) (by decide) (by decide) k) ?_
      refine Go.st (S' := T21.setTop (mkF m 73 #[.val (.int p1), .val (.int p2), .val (.int (1 : Int32)), .val (.ref w_UPPER), .val (.int (1 : Int32)), .val (.int (1 : Int32))] [(.int (1 : Int32))])) (fun _ k => XS.iconst X21.here hx rfl (hb hby at_72) k) ?_
      exact own_retN X21 hx hlk hret (by simp) (hb hby at_73) eq21 ⟨rfl, N21⟩ (by decide) (by decide)
  · refine Go.st (S' := T0.setTop (mkF m 7 #[.val (.int p1), .val (.int p2), .unset, .unset, .unset, .unset] [(.int (2 : Int32))])) (fun _ k => by rw [hk]; exact k) ?_
    refine Go.st (S' := T0.setTop (mkF m 8 #[.val (.int p1), .val (.int p2), .val (.int (2 : Int32)), .unset, .unset, .unset] [])) (fun _ k => XS.istoreN X0.here hx rfl (hb hby at_7) rfl (l' := #[.val (.int p1), .val (.int p2), .val (.int (2 : Int32)), .unset, .unset, .unset]) rfl k) ?_
    refine Go.st (S' := T0.setTop (mkF m 9 #[.val (.int p1), .val (.int p2), .val (.int (2 : Int32)), .unset, .unset, .unset] [(.int (2 : Int32))])) (fun _ k => XS.iloadN X0.here hx rfl (hb hby at_8) rfl k) ?_
    obtain ⟨_, T23, L23, X23, ⟨⟨w23, rfl, m023, m123, m223, m323, m423, m523, m623, m723, m823, m923, m1023⟩, Nq23, eq23⟩, st23⟩ := own_callS X0 hx hZ hown (ww hw 1 rfl) (ww hw 2 rfl) (ww hw 3 rfl) (ww hw 4 rfl) (by decide) e0 (rm1 l Z a0 hw [] w_LOWER w_CONCAT w_CURRENT_DATE w_LOCATE w_ABS w_SQRT w_UPPER w_LENGTH w_CURRENT_TIMESTAMP w_MOD w_SUBSTRING hS (2 : Int32) h0 O0) 0 (by decide) (by decide) (by decide) (by decide) (g := (mkF m 9 #[.val (.int p1), .val (.int p2), .val (.int (2 : Int32)), .unset, .unset, .unset] [(.int (2 : Int32))])) rfl (by rw [hml]; rfl) [(.int (2 : Int32))] [] rfl (lenOf pd_515209 rfl) rfl (by show 2 * 0 + _ ≤ _; exact Nat.le_of_eq rfl) (hb hby at_9)
    have N23 := Fr.app N0 Nq23
    obtain rfl : w_LENGTH = w23 := (m223 rfl).symm
    refine Go.st (S' := T23.setTop (mkF m 12 #[.val (.int p1), .val (.int p2), .val (.int (2 : Int32)), .unset, .unset, .unset] [(.ref w_LENGTH)])) st23 ?_
    refine Go.st (S' := T23.setTop (mkF m 13 #[.val (.int p1), .val (.int p2), .val (.int (2 : Int32)), .val (.ref w_LENGTH), .unset, .unset] [])) (fun _ k => XS.astoreN X23.here hx rfl (hb hby at_12) rfl rfl (l' := #[.val (.int p1), .val (.int p2), .val (.int (2 : Int32)), .val (.ref w_LENGTH), .unset, .unset]) rfl k) ?_
    refine Go.st (S' := T23.setTop (mkF m 14 #[.val (.int p1), .val (.int p2), .val (.int (2 : Int32)), .val (.ref w_LENGTH), .unset, .unset] [(.ref w_LENGTH)])) (fun _ k => XS.aloadN X23.here hx rfl (hb hby at_13) rfl rfl k) ?_
    obtain ⟨_, T24, L24, X24, ⟨rfl, Nq24, eq24⟩, st24⟩ := own_callV X23 hx hZ hown (ww hw 8 rfl) (ww hw 9 rfl) (notFace_of_selects (args := #[]) (mvT hZ (ww hw 11 rfl))) (ww hw 11 rfl) (ww hw 10 rfl) (ww hw 6 rfl) (ww hw 12 rfl) (by decide) eq23 (E_LENGTH.ext O0) (rm2 l Z a0 hw [] w_LOWER w_CONCAT w_CURRENT_DATE w_LOCATE w_ABS w_SQRT w_UPPER w_LENGTH w_CURRENT_TIMESTAMP w_MOD w_SUBSTRING hS w_LENGTH (1 : Int32) (1 : Int32) (by decide) h0 O0 (F_LENGTH_most.ext O0)) 0 (by decide) (by decide) (by decide) (by decide) (g := (mkF m 14 #[.val (.int p1), .val (.int p2), .val (.int (2 : Int32)), .val (.ref w_LENGTH), .unset, .unset] [(.ref w_LENGTH)])) rfl (by rw [hml]; rfl) [] [] rfl (lenOf pd_428490 rfl) rfl (by show 2 * 0 + _ ≤ _; exact Nat.le_of_eq rfl) (hb hby at_14)
    have N24 := Fr.app N23 Nq24
    refine Go.st (S' := T24.setTop (mkF m 17 #[.val (.int p1), .val (.int p2), .val (.int (2 : Int32)), .val (.ref w_LENGTH), .unset, .unset] [(.int (1 : Int32))])) st24 ?_
    refine Go.st (S' := T24.setTop (mkF m 19 #[.val (.int p1), .val (.int p2), .val (.int (2 : Int32)), .val (.ref w_LENGTH), .val (.int (1 : Int32)), .unset] [])) (fun _ k => XS.istore X24.here hx rfl (hb hby at_17) rfl (l' := #[.val (.int p1), .val (.int p2), .val (.int (2 : Int32)), .val (.ref w_LENGTH), .val (.int (1 : Int32)), .unset]) rfl k) ?_
    refine Go.st (S' := T24.setTop (mkF m 20 #[.val (.int p1), .val (.int p2), .val (.int (2 : Int32)), .val (.ref w_LENGTH), .val (.int (1 : Int32)), .unset] [(.int (2 : Int32))])) (fun _ k => XS.iloadN X24.here hx rfl (hb hby at_19) rfl k) ?_
    refine Go.st (S' := T24.setTop (mkF m 22 #[.val (.int p1), .val (.int p2), .val (.int (2 : Int32)), .val (.ref w_LENGTH), .val (.int (1 : Int32)), .unset] [(.int (9 : Int32)), (.int (2 : Int32))])) (fun _ k => XS.bipush X24.here hx rfl (hb hby at_20) k) ?_
    refine Go.st (S' := T24.setTop (mkF m 25 #[.val (.int p1), .val (.int p2), .val (.int (2 : Int32)), .val (.ref w_LENGTH), .val (.int (1 : Int32)), .unset] [])) (fun _ k => XS.icmpNo X24.here hx rfl (hb hby at_22) rfl (tlt (by decide)).2.1 k) ?_
    refine Go.st (S' := T24.setTop (mkF m 26 #[.val (.int p1), .val (.int p2), .val (.int (2 : Int32)), .val (.ref w_LENGTH), .val (.int (1 : Int32)), .unset] [(.int (1 : Int32))])) (fun _ k => XS.iconst X24.here hx rfl (hb hby at_25) k) ?_
    refine Go.st (S' := T24.setTop (mkF m 30 #[.val (.int p1), .val (.int p2), .val (.int (2 : Int32)), .val (.ref w_LENGTH), .val (.int (1 : Int32)), .unset] [(.int (1 : Int32))])) (fun _ k => XS.goto X24.here hx rfl (pc0 := 26) (pc' := 30) rfl (hb hby at_26) (by decide) (by decide) k) ?_
    refine Go.st (S' := T24.setTop (mkF m 32 #[.val (.int p1), .val (.int p2), .val (.int (2 : Int32)), .val (.ref w_LENGTH), .val (.int (1 : Int32)), .val (.int (1 : Int32))] [])) (fun _ k => XS.istore X24.here hx rfl (hb hby at_30) rfl (l' := #[.val (.int p1), .val (.int p2), .val (.int (2 : Int32)), .val (.ref w_LENGTH), .val (.int (1 : Int32)), .val (.int (1 : Int32))]) rfl k) ?_
    refine Go.st (S' := T24.setTop (mkF m 34 #[.val (.int p1), .val (.int p2), .val (.int (2 : Int32)), .val (.ref w_LENGTH), .val (.int (1 : Int32)), .val (.int (1 : Int32))] [(.int (1 : Int32))])) (fun _ k => XS.iload X24.here hx rfl (hb hby at_32) rfl k) ?_
    refine Go.st (S' := T24.setTop (mkF m 36 #[.val (.int p1), .val (.int p2), .val (.int (2 : Int32)), .val (.ref w_LENGTH), .val (.int (1 : Int32)), .val (.int (1 : Int32))] [(.int (1 : Int32)), (.int (1 : Int32))])) (fun _ k => XS.iload X24.here hx rfl (hb hby at_34) rfl k) ?_
    refine Go.st (S' := T24.setTop (mkF m 41 #[.val (.int p1), .val (.int p2), .val (.int (2 : Int32)), .val (.ref w_LENGTH), .val (.int (1 : Int32)), .val (.int (1 : Int32))] [])) (fun _ k => XS.icmpYes X24.here hx rfl (pc0 := 36) (pc' := 41) rfl (hb hby at_36) rfl (teq (by decide)).1 (by decide) (by decide) k) ?_
    refine Go.st (S' := T24.setTop (mkF m 43 #[.val (.int p1), .val (.int p2), .val (.int (2 : Int32)), .val (.ref w_LENGTH), .val (.int (1 : Int32)), .val (.int (1 : Int32))] [(.int (1 : Int32))])) (fun _ k => XS.iload X24.here hx rfl (hb hby at_41) rfl k) ?_
    refine Go.st (S' := T24.setTop (mkF m 44 #[.val (.int p1), .val (.int p2), .val (.int (2 : Int32)), .val (.ref w_LENGTH), .val (.int (1 : Int32)), .val (.int (1 : Int32))] [(.ref w_LENGTH), (.int (1 : Int32))])) (fun _ k => XS.aloadN X24.here hx rfl (hb hby at_43) rfl rfl k) ?_
    refine Go.st (S' := T24.setTop (mkF m 45 #[.val (.int p1), .val (.int p2), .val (.int (2 : Int32)), .val (.ref w_LENGTH), .val (.int (1 : Int32)), .val (.int (1 : Int32))] [(.int (0 : Int32)), (.ref w_LENGTH), (.int (1 : Int32))])) (fun _ k => XS.iconst X24.here hx rfl (hb hby at_44) k) ?_
    obtain ⟨_, T25, L25, X25, ⟨rfl, Nq25, eq25⟩, st25⟩ := own_callV X24 hx hZ hown (ww hw 15 rfl) (ww hw 16 rfl) (notFace_of_selects (args := #[]) (mvT hZ (ww hw 18 rfl))) (ww hw 18 rfl) (ww hw 17 rfl) (ww hw 6 rfl) (ww hw 19 rfl) (by decide) eq24 (E_LENGTH.ext O0) (rm3 l Z a0 hw [] w_LOWER w_CONCAT w_CURRENT_DATE w_LOCATE w_ABS w_SQRT w_UPPER w_LENGTH w_CURRENT_TIMESTAMP w_MOD w_SUBSTRING hS w_LENGTH (0 : Int32) (1 : Int32) (1 : Int32) (0 : Int32) (by decide) h0 O0 (F_LENGTH_fewest.ext O0) (F_LENGTH_most.ext O0)) 1 (by decide) (by decide) (by decide) (by decide) (g := (mkF m 45 #[.val (.int p1), .val (.int p2), .val (.int (2 : Int32)), .val (.ref w_LENGTH), .val (.int (1 : Int32)), .val (.int (1 : Int32))] [(.int (0 : Int32)), (.ref w_LENGTH), (.int (1 : Int32))])) rfl (by rw [hml]; rfl) [(.int (0 : Int32))] [(.int (1 : Int32))] rfl (lenOf pd_674845 rfl) rfl (by show 2 * 0 + _ ≤ _; exact Nat.le_of_eq rfl) (hb hby at_45)
    have N25 := Fr.app N24 Nq25
    refine Go.st (S' := T25.setTop (mkF m 48 #[.val (.int p1), .val (.int p2), .val (.int (2 : Int32)), .val (.ref w_LENGTH), .val (.int (1 : Int32)), .val (.int (1 : Int32))] [(.int (0 : Int32)), (.int (1 : Int32))])) st25 ?_
    refine Go.st (S' := T25.setTop (mkF m 53 #[.val (.int p1), .val (.int p2), .val (.int (2 : Int32)), .val (.ref w_LENGTH), .val (.int (1 : Int32)), .val (.int (1 : Int32))] [])) (fun _ k => XS.icmpYes X25.here hx rfl (pc0 := 48) (pc' := 53) rfl (hb hby at_48) rfl (feq (by decide)).2 (by decide) (by decide) k) ?_
    refine Go.st (S' := T25.setTop (mkF m 54 #[.val (.int p1), .val (.int p2), .val (.int (2 : Int32)), .val (.ref w_LENGTH), .val (.int (1 : Int32)), .val (.int (1 : Int32))] [(.int p2)])) (fun _ k => XS.iloadN X25.here hx rfl (hb hby at_53) rfl k) ?_
    by_cases hc54_2 : (0 : Int32) < p2
    · refine Go.st (S' := T25.setTop (mkF m 57 #[.val (.int p1), .val (.int p2), .val (.int (2 : Int32)), .val (.ref w_LENGTH), .val (.int (1 : Int32)), .val (.int (1 : Int32))] [])) (fun _ k => XS.ifNo X25.here hx rfl (hb hby at_54) rfl ((if0 _ _).trans (tlt hc54_2).2.2.2) k) ?_
      refine Go.st (S' := T25.setTop (mkF m 58 #[.val (.int p1), .val (.int p2), .val (.int (2 : Int32)), .val (.ref w_LENGTH), .val (.int (1 : Int32)), .val (.int (1 : Int32))] [(.ref w_LENGTH)])) (fun _ k => XS.aloadN X25.here hx rfl (hb hby at_57) rfl rfl k) ?_
      refine Go.st (S' := T25.setTop (mkF m 59 #[.val (.int p1), .val (.int p2), .val (.int (2 : Int32)), .val (.ref w_LENGTH), .val (.int (1 : Int32)), .val (.int (1 : Int32))] [(.int p2), (.ref w_LENGTH)])) (fun _ k => XS.iloadN X25.here hx rfl (hb hby at_58) rfl k) ?_
      obtain ⟨_, T26, L26, X26, ⟨rfl, Nq26, eq26⟩, st26⟩ := own_callV X25 hx hZ hown (ww hw 15 rfl) (ww hw 16 rfl) (notFace_of_selects (args := #[]) (mvT hZ (ww hw 18 rfl))) (ww hw 18 rfl) (ww hw 17 rfl) (ww hw 6 rfl) (ww hw 19 rfl) (by decide) eq25 (E_LENGTH.ext O0) (rm3 l Z a0 hw [] w_LOWER w_CONCAT w_CURRENT_DATE w_LOCATE w_ABS w_SQRT w_UPPER w_LENGTH w_CURRENT_TIMESTAMP w_MOD w_SUBSTRING hS w_LENGTH p2 (1 : Int32) (1 : Int32) (takF (1 : Int32) (1 : Int32) p2) rfl h0 O0 (F_LENGTH_fewest.ext O0) (F_LENGTH_most.ext O0)) 0 (by decide) (by decide) (by decide) (by decide) (g := (mkF m 59 #[.val (.int p1), .val (.int p2), .val (.int (2 : Int32)), .val (.ref w_LENGTH), .val (.int (1 : Int32)), .val (.int (1 : Int32))] [(.int p2), (.ref w_LENGTH)])) rfl (by rw [hml]; rfl) [(.int p2)] [] rfl (lenOf pd_674845 rfl) rfl (by show 2 * 0 + _ ≤ _; exact Nat.le_of_eq rfl) (hb hby at_59)
      have N26 := Fr.app N25 Nq26
      refine Go.st (S' := T26.setTop (mkF m 62 #[.val (.int p1), .val (.int p2), .val (.int (2 : Int32)), .val (.ref w_LENGTH), .val (.int (1 : Int32)), .val (.int (1 : Int32))] [(.int (takF (1 : Int32) (1 : Int32) p2))])) st26 ?_
      by_cases hc62_2 : (takF (1 : Int32) (1 : Int32) p2) = (0 : Int32)
      · refine Go.st (S' := T26.setTop (mkF m 72 #[.val (.int p1), .val (.int p2), .val (.int (2 : Int32)), .val (.ref w_LENGTH), .val (.int (1 : Int32)), .val (.int (1 : Int32))] [])) (fun _ k => XS.ifYes X26.here hx rfl (pc0 := 62) (pc' := 72) rfl (hb hby at_62) rfl ((if0 _ _).trans (teq hc62_2).1) (by decide) (by decide) k) ?_
        refine Go.st (S' := T26.setTop (mkF m 73 #[.val (.int p1), .val (.int p2), .val (.int (2 : Int32)), .val (.ref w_LENGTH), .val (.int (1 : Int32)), .val (.int (1 : Int32))] [(.int (1 : Int32))])) (fun _ k => XS.iconst X26.here hx rfl (hb hby at_72) k) ?_
        exact own_retN X26 hx hlk hret (by simp) (hb hby at_73) eq26 ⟨rfl, N26⟩ (by decide) (by decide)
      · refine Go.st (S' := T26.setTop (mkF m 65 #[.val (.int p1), .val (.int p2), .val (.int (2 : Int32)), .val (.ref w_LENGTH), .val (.int (1 : Int32)), .val (.int (1 : Int32))] [])) (fun _ k => XS.ifNo X26.here hx rfl (hb hby at_62) rfl ((if0 _ _).trans (feq hc62_2).1) k) ?_
        refine Go.st (S' := T26.setTop (mkF m 67 #[.val (.int p1), .val (.int p2), .val (.int (2 : Int32)), .val (.ref w_LENGTH), .val (.int (1 : Int32)), .val (.int (1 : Int32))] [(.int (1 : Int32))])) (fun _ k => XS.iload X26.here hx rfl (hb hby at_65) rfl k) ?_
        refine Go.st (S' := T26.setTop (mkF m 72 #[.val (.int p1), .val (.int p2), .val (.int (2 : Int32)), .val (.ref w_LENGTH), .val (.int (1 : Int32)), .val (.int (1 : Int32))] [])) (fun _ k => XS.ifYes X26.here hx rfl (pc0 := 67) (pc' := 72) rfl (hb hby at_67) rfl ((if0 _ _).trans (feq (by decide)).2) (by decide) (by decide) k) ?_
        refine Go.st (S' := T26.setTop (mkF m 73 #[.val (.int p1), .val (.int p2), .val (.int (2 : Int32)), .val (.ref w_LENGTH), .val (.int (1 : Int32)), .val (.int (1 : Int32))] [(.int (1 : Int32))])) (fun _ k => XS.iconst X26.here hx rfl (hb hby at_72) k) ?_
        exact own_retN X26 hx hlk hret (by simp) (hb hby at_73) eq26 ⟨rfl, N26⟩ (by decide) (by decide)
    · refine Go.st (S' := T25.setTop (mkF m 72 #[.val (.int p1), .val (.int p2), .val (.int (2 : Int32)), .val (.ref w_LENGTH), .val (.int (1 : Int32)), .val (.int (1 : Int32))] [])) (fun _ k => XS.ifYes X25.here hx rfl (pc0 := 54) (pc' := 72) rfl (hb hby at_54) rfl ((if0 _ _).trans (flt hc54_2).2.2.2) (by decide) (by decide) k) ?_
      refine Go.st (S' := T25.setTop (mkF m 73 #[.val (.int p1), .val (.int p2), .val (.int (2 : Int32)), .val (.ref w_LENGTH), .val (.int (1 : Int32)), .val (.int (1 : Int32))] [(.int (1 : Int32))])) (fun _ k => XS.iconst X25.here hx rfl (hb hby at_72) k) ?_
      exact own_retN X25 hx hlk hret (by simp) (hb hby at_73) eq25 ⟨rfl, N25⟩ (by decide) (by decide)
  · refine Go.st (S' := T0.setTop (mkF m 7 #[.val (.int p1), .val (.int p2), .unset, .unset, .unset, .unset] [(.int (3 : Int32))])) (fun _ k => by rw [hk]; exact k) ?_
    refine Go.st (S' := T0.setTop (mkF m 8 #[.val (.int p1), .val (.int p2), .val (.int (3 : Int32)), .unset, .unset, .unset] [])) (fun _ k => XS.istoreN X0.here hx rfl (hb hby at_7) rfl (l' := #[.val (.int p1), .val (.int p2), .val (.int (3 : Int32)), .unset, .unset, .unset]) rfl k) ?_
    refine Go.st (S' := T0.setTop (mkF m 9 #[.val (.int p1), .val (.int p2), .val (.int (3 : Int32)), .unset, .unset, .unset] [(.int (3 : Int32))])) (fun _ k => XS.iloadN X0.here hx rfl (hb hby at_8) rfl k) ?_
    obtain ⟨_, T27, L27, X27, ⟨⟨w27, rfl, m027, m127, m227, m327, m427, m527, m627, m727, m827, m927, m1027⟩, Nq27, eq27⟩, st27⟩ := own_callS X0 hx hZ hown (ww hw 1 rfl) (ww hw 2 rfl) (ww hw 3 rfl) (ww hw 4 rfl) (by decide) e0 (rm1 l Z a0 hw [] w_LOWER w_CONCAT w_CURRENT_DATE w_LOCATE w_ABS w_SQRT w_UPPER w_LENGTH w_CURRENT_TIMESTAMP w_MOD w_SUBSTRING hS (3 : Int32) h0 O0) 0 (by decide) (by decide) (by decide) (by decide) (g := (mkF m 9 #[.val (.int p1), .val (.int p2), .val (.int (3 : Int32)), .unset, .unset, .unset] [(.int (3 : Int32))])) rfl (by rw [hml]; rfl) [(.int (3 : Int32))] [] rfl (lenOf pd_515209 rfl) rfl (by show 2 * 0 + _ ≤ _; exact Nat.le_of_eq rfl) (hb hby at_9)
    have N27 := Fr.app N0 Nq27
    obtain rfl : w_CONCAT = w27 := (m327 rfl).symm
    refine Go.st (S' := T27.setTop (mkF m 12 #[.val (.int p1), .val (.int p2), .val (.int (3 : Int32)), .unset, .unset, .unset] [(.ref w_CONCAT)])) st27 ?_
    refine Go.st (S' := T27.setTop (mkF m 13 #[.val (.int p1), .val (.int p2), .val (.int (3 : Int32)), .val (.ref w_CONCAT), .unset, .unset] [])) (fun _ k => XS.astoreN X27.here hx rfl (hb hby at_12) rfl rfl (l' := #[.val (.int p1), .val (.int p2), .val (.int (3 : Int32)), .val (.ref w_CONCAT), .unset, .unset]) rfl k) ?_
    refine Go.st (S' := T27.setTop (mkF m 14 #[.val (.int p1), .val (.int p2), .val (.int (3 : Int32)), .val (.ref w_CONCAT), .unset, .unset] [(.ref w_CONCAT)])) (fun _ k => XS.aloadN X27.here hx rfl (hb hby at_13) rfl rfl k) ?_
    obtain ⟨_, T28, L28, X28, ⟨rfl, Nq28, eq28⟩, st28⟩ := own_callV X27 hx hZ hown (ww hw 8 rfl) (ww hw 9 rfl) (notFace_of_selects (args := #[]) (mvT hZ (ww hw 11 rfl))) (ww hw 11 rfl) (ww hw 10 rfl) (ww hw 6 rfl) (ww hw 12 rfl) (by decide) eq27 (E_CONCAT.ext O0) (rm2 l Z a0 hw [] w_LOWER w_CONCAT w_CURRENT_DATE w_LOCATE w_ABS w_SQRT w_UPPER w_LENGTH w_CURRENT_TIMESTAMP w_MOD w_SUBSTRING hS w_CONCAT (2147483647 : Int32) (1 : Int32) (by decide) h0 O0 (F_CONCAT_most.ext O0)) 0 (by decide) (by decide) (by decide) (by decide) (g := (mkF m 14 #[.val (.int p1), .val (.int p2), .val (.int (3 : Int32)), .val (.ref w_CONCAT), .unset, .unset] [(.ref w_CONCAT)])) rfl (by rw [hml]; rfl) [] [] rfl (lenOf pd_428490 rfl) rfl (by show 2 * 0 + _ ≤ _; exact Nat.le_of_eq rfl) (hb hby at_14)
    have N28 := Fr.app N27 Nq28
    refine Go.st (S' := T28.setTop (mkF m 17 #[.val (.int p1), .val (.int p2), .val (.int (3 : Int32)), .val (.ref w_CONCAT), .unset, .unset] [(.int (1 : Int32))])) st28 ?_
    refine Go.st (S' := T28.setTop (mkF m 19 #[.val (.int p1), .val (.int p2), .val (.int (3 : Int32)), .val (.ref w_CONCAT), .val (.int (1 : Int32)), .unset] [])) (fun _ k => XS.istore X28.here hx rfl (hb hby at_17) rfl (l' := #[.val (.int p1), .val (.int p2), .val (.int (3 : Int32)), .val (.ref w_CONCAT), .val (.int (1 : Int32)), .unset]) rfl k) ?_
    refine Go.st (S' := T28.setTop (mkF m 20 #[.val (.int p1), .val (.int p2), .val (.int (3 : Int32)), .val (.ref w_CONCAT), .val (.int (1 : Int32)), .unset] [(.int (3 : Int32))])) (fun _ k => XS.iloadN X28.here hx rfl (hb hby at_19) rfl k) ?_
    refine Go.st (S' := T28.setTop (mkF m 22 #[.val (.int p1), .val (.int p2), .val (.int (3 : Int32)), .val (.ref w_CONCAT), .val (.int (1 : Int32)), .unset] [(.int (9 : Int32)), (.int (3 : Int32))])) (fun _ k => XS.bipush X28.here hx rfl (hb hby at_20) k) ?_
    refine Go.st (S' := T28.setTop (mkF m 25 #[.val (.int p1), .val (.int p2), .val (.int (3 : Int32)), .val (.ref w_CONCAT), .val (.int (1 : Int32)), .unset] [])) (fun _ k => XS.icmpNo X28.here hx rfl (hb hby at_22) rfl (tlt (by decide)).2.1 k) ?_
    refine Go.st (S' := T28.setTop (mkF m 26 #[.val (.int p1), .val (.int p2), .val (.int (3 : Int32)), .val (.ref w_CONCAT), .val (.int (1 : Int32)), .unset] [(.int (1 : Int32))])) (fun _ k => XS.iconst X28.here hx rfl (hb hby at_25) k) ?_
    refine Go.st (S' := T28.setTop (mkF m 30 #[.val (.int p1), .val (.int p2), .val (.int (3 : Int32)), .val (.ref w_CONCAT), .val (.int (1 : Int32)), .unset] [(.int (1 : Int32))])) (fun _ k => XS.goto X28.here hx rfl (pc0 := 26) (pc' := 30) rfl (hb hby at_26) (by decide) (by decide) k) ?_
    refine Go.st (S' := T28.setTop (mkF m 32 #[.val (.int p1), .val (.int p2), .val (.int (3 : Int32)), .val (.ref w_CONCAT), .val (.int (1 : Int32)), .val (.int (1 : Int32))] [])) (fun _ k => XS.istore X28.here hx rfl (hb hby at_30) rfl (l' := #[.val (.int p1), .val (.int p2), .val (.int (3 : Int32)), .val (.ref w_CONCAT), .val (.int (1 : Int32)), .val (.int (1 : Int32))]) rfl k) ?_
    refine Go.st (S' := T28.setTop (mkF m 34 #[.val (.int p1), .val (.int p2), .val (.int (3 : Int32)), .val (.ref w_CONCAT), .val (.int (1 : Int32)), .val (.int (1 : Int32))] [(.int (1 : Int32))])) (fun _ k => XS.iload X28.here hx rfl (hb hby at_32) rfl k) ?_
    refine Go.st (S' := T28.setTop (mkF m 36 #[.val (.int p1), .val (.int p2), .val (.int (3 : Int32)), .val (.ref w_CONCAT), .val (.int (1 : Int32)), .val (.int (1 : Int32))] [(.int (1 : Int32)), (.int (1 : Int32))])) (fun _ k => XS.iload X28.here hx rfl (hb hby at_34) rfl k) ?_
    refine Go.st (S' := T28.setTop (mkF m 41 #[.val (.int p1), .val (.int p2), .val (.int (3 : Int32)), .val (.ref w_CONCAT), .val (.int (1 : Int32)), .val (.int (1 : Int32))] [])) (fun _ k => XS.icmpYes X28.here hx rfl (pc0 := 36) (pc' := 41) rfl (hb hby at_36) rfl (teq (by decide)).1 (by decide) (by decide) k) ?_
    refine Go.st (S' := T28.setTop (mkF m 43 #[.val (.int p1), .val (.int p2), .val (.int (3 : Int32)), .val (.ref w_CONCAT), .val (.int (1 : Int32)), .val (.int (1 : Int32))] [(.int (1 : Int32))])) (fun _ k => XS.iload X28.here hx rfl (hb hby at_41) rfl k) ?_
    refine Go.st (S' := T28.setTop (mkF m 44 #[.val (.int p1), .val (.int p2), .val (.int (3 : Int32)), .val (.ref w_CONCAT), .val (.int (1 : Int32)), .val (.int (1 : Int32))] [(.ref w_CONCAT), (.int (1 : Int32))])) (fun _ k => XS.aloadN X28.here hx rfl (hb hby at_43) rfl rfl k) ?_
    refine Go.st (S' := T28.setTop (mkF m 45 #[.val (.int p1), .val (.int p2), .val (.int (3 : Int32)), .val (.ref w_CONCAT), .val (.int (1 : Int32)), .val (.int (1 : Int32))] [(.int (0 : Int32)), (.ref w_CONCAT), (.int (1 : Int32))])) (fun _ k => XS.iconst X28.here hx rfl (hb hby at_44) k) ?_
    obtain ⟨_, T29, L29, X29, ⟨rfl, Nq29, eq29⟩, st29⟩ := own_callV X28 hx hZ hown (ww hw 15 rfl) (ww hw 16 rfl) (notFace_of_selects (args := #[]) (mvT hZ (ww hw 18 rfl))) (ww hw 18 rfl) (ww hw 17 rfl) (ww hw 6 rfl) (ww hw 19 rfl) (by decide) eq28 (E_CONCAT.ext O0) (rm3 l Z a0 hw [] w_LOWER w_CONCAT w_CURRENT_DATE w_LOCATE w_ABS w_SQRT w_UPPER w_LENGTH w_CURRENT_TIMESTAMP w_MOD w_SUBSTRING hS w_CONCAT (0 : Int32) (2 : Int32) (2147483647 : Int32) (0 : Int32) (by decide) h0 O0 (F_CONCAT_fewest.ext O0) (F_CONCAT_most.ext O0)) 1 (by decide) (by decide) (by decide) (by decide) (g := (mkF m 45 #[.val (.int p1), .val (.int p2), .val (.int (3 : Int32)), .val (.ref w_CONCAT), .val (.int (1 : Int32)), .val (.int (1 : Int32))] [(.int (0 : Int32)), (.ref w_CONCAT), (.int (1 : Int32))])) rfl (by rw [hml]; rfl) [(.int (0 : Int32))] [(.int (1 : Int32))] rfl (lenOf pd_674845 rfl) rfl (by show 2 * 0 + _ ≤ _; exact Nat.le_of_eq rfl) (hb hby at_45)
    have N29 := Fr.app N28 Nq29
    refine Go.st (S' := T29.setTop (mkF m 48 #[.val (.int p1), .val (.int p2), .val (.int (3 : Int32)), .val (.ref w_CONCAT), .val (.int (1 : Int32)), .val (.int (1 : Int32))] [(.int (0 : Int32)), (.int (1 : Int32))])) st29 ?_
    refine Go.st (S' := T29.setTop (mkF m 53 #[.val (.int p1), .val (.int p2), .val (.int (3 : Int32)), .val (.ref w_CONCAT), .val (.int (1 : Int32)), .val (.int (1 : Int32))] [])) (fun _ k => XS.icmpYes X29.here hx rfl (pc0 := 48) (pc' := 53) rfl (hb hby at_48) rfl (feq (by decide)).2 (by decide) (by decide) k) ?_
    refine Go.st (S' := T29.setTop (mkF m 54 #[.val (.int p1), .val (.int p2), .val (.int (3 : Int32)), .val (.ref w_CONCAT), .val (.int (1 : Int32)), .val (.int (1 : Int32))] [(.int p2)])) (fun _ k => XS.iloadN X29.here hx rfl (hb hby at_53) rfl k) ?_
    by_cases hc54_3 : (0 : Int32) < p2
    · refine Go.st (S' := T29.setTop (mkF m 57 #[.val (.int p1), .val (.int p2), .val (.int (3 : Int32)), .val (.ref w_CONCAT), .val (.int (1 : Int32)), .val (.int (1 : Int32))] [])) (fun _ k => XS.ifNo X29.here hx rfl (hb hby at_54) rfl ((if0 _ _).trans (tlt hc54_3).2.2.2) k) ?_
      refine Go.st (S' := T29.setTop (mkF m 58 #[.val (.int p1), .val (.int p2), .val (.int (3 : Int32)), .val (.ref w_CONCAT), .val (.int (1 : Int32)), .val (.int (1 : Int32))] [(.ref w_CONCAT)])) (fun _ k => XS.aloadN X29.here hx rfl (hb hby at_57) rfl rfl k) ?_
      refine Go.st (S' := T29.setTop (mkF m 59 #[.val (.int p1), .val (.int p2), .val (.int (3 : Int32)), .val (.ref w_CONCAT), .val (.int (1 : Int32)), .val (.int (1 : Int32))] [(.int p2), (.ref w_CONCAT)])) (fun _ k => XS.iloadN X29.here hx rfl (hb hby at_58) rfl k) ?_
      obtain ⟨_, T30, L30, X30, ⟨rfl, Nq30, eq30⟩, st30⟩ := own_callV X29 hx hZ hown (ww hw 15 rfl) (ww hw 16 rfl) (notFace_of_selects (args := #[]) (mvT hZ (ww hw 18 rfl))) (ww hw 18 rfl) (ww hw 17 rfl) (ww hw 6 rfl) (ww hw 19 rfl) (by decide) eq29 (E_CONCAT.ext O0) (rm3 l Z a0 hw [] w_LOWER w_CONCAT w_CURRENT_DATE w_LOCATE w_ABS w_SQRT w_UPPER w_LENGTH w_CURRENT_TIMESTAMP w_MOD w_SUBSTRING hS w_CONCAT p2 (2 : Int32) (2147483647 : Int32) (takF (2 : Int32) (2147483647 : Int32) p2) rfl h0 O0 (F_CONCAT_fewest.ext O0) (F_CONCAT_most.ext O0)) 0 (by decide) (by decide) (by decide) (by decide) (g := (mkF m 59 #[.val (.int p1), .val (.int p2), .val (.int (3 : Int32)), .val (.ref w_CONCAT), .val (.int (1 : Int32)), .val (.int (1 : Int32))] [(.int p2), (.ref w_CONCAT)])) rfl (by rw [hml]; rfl) [(.int p2)] [] rfl (lenOf pd_674845 rfl) rfl (by show 2 * 0 + _ ≤ _; exact Nat.le_of_eq rfl) (hb hby at_59)
      have N30 := Fr.app N29 Nq30
      refine Go.st (S' := T30.setTop (mkF m 62 #[.val (.int p1), .val (.int p2), .val (.int (3 : Int32)), .val (.ref w_CONCAT), .val (.int (1 : Int32)), .val (.int (1 : Int32))] [(.int (takF (2 : Int32) (2147483647 : Int32) p2))])) st30 ?_
      by_cases hc62_3 : (takF (2 : Int32) (2147483647 : Int32) p2) = (0 : Int32)
      · refine Go.st (S' := T30.setTop (mkF m 72 #[.val (.int p1), .val (.int p2), .val (.int (3 : Int32)), .val (.ref w_CONCAT), .val (.int (1 : Int32)), .val (.int (1 : Int32))] [])) (fun _ k => XS.ifYes X30.here hx rfl (pc0 := 62) (pc' := 72) rfl (hb hby at_62) rfl ((if0 _ _).trans (teq hc62_3).1) (by decide) (by decide) k) ?_
        refine Go.st (S' := T30.setTop (mkF m 73 #[.val (.int p1), .val (.int p2), .val (.int (3 : Int32)), .val (.ref w_CONCAT), .val (.int (1 : Int32)), .val (.int (1 : Int32))] [(.int (1 : Int32))])) (fun _ k => XS.iconst X30.here hx rfl (hb hby at_72) k) ?_
        exact own_retN X30 hx hlk hret (by simp) (hb hby at_73) eq30 ⟨rfl, N30⟩ (by decide) (by decide)
      · refine Go.st (S' := T30.setTop (mkF m 65 #[.val (.int p1), .val (.int p2), .val (.int (3 : Int32)), .val (.ref w_CONCAT), .val (.int (1 : Int32)), .val (.int (1 : Int32))] [])) (fun _ k => XS.ifNo X30.here hx rfl (hb hby at_62) rfl ((if0 _ _).trans (feq hc62_3).1) k) ?_
        refine Go.st (S' := T30.setTop (mkF m 67 #[.val (.int p1), .val (.int p2), .val (.int (3 : Int32)), .val (.ref w_CONCAT), .val (.int (1 : Int32)), .val (.int (1 : Int32))] [(.int (1 : Int32))])) (fun _ k => XS.iload X30.here hx rfl (hb hby at_65) rfl k) ?_
        refine Go.st (S' := T30.setTop (mkF m 72 #[.val (.int p1), .val (.int p2), .val (.int (3 : Int32)), .val (.ref w_CONCAT), .val (.int (1 : Int32)), .val (.int (1 : Int32))] [])) (fun _ k => XS.ifYes X30.here hx rfl (pc0 := 67) (pc' := 72) rfl (hb hby at_67) rfl ((if0 _ _).trans (feq (by decide)).2) (by decide) (by decide) k) ?_
        refine Go.st (S' := T30.setTop (mkF m 73 #[.val (.int p1), .val (.int p2), .val (.int (3 : Int32)), .val (.ref w_CONCAT), .val (.int (1 : Int32)), .val (.int (1 : Int32))] [(.int (1 : Int32))])) (fun _ k => XS.iconst X30.here hx rfl (hb hby at_72) k) ?_
        exact own_retN X30 hx hlk hret (by simp) (hb hby at_73) eq30 ⟨rfl, N30⟩ (by decide) (by decide)
    · refine Go.st (S' := T29.setTop (mkF m 72 #[.val (.int p1), .val (.int p2), .val (.int (3 : Int32)), .val (.ref w_CONCAT), .val (.int (1 : Int32)), .val (.int (1 : Int32))] [])) (fun _ k => XS.ifYes X29.here hx rfl (pc0 := 54) (pc' := 72) rfl (hb hby at_54) rfl ((if0 _ _).trans (flt hc54_3).2.2.2) (by decide) (by decide) k) ?_
      refine Go.st (S' := T29.setTop (mkF m 73 #[.val (.int p1), .val (.int p2), .val (.int (3 : Int32)), .val (.ref w_CONCAT), .val (.int (1 : Int32)), .val (.int (1 : Int32))] [(.int (1 : Int32))])) (fun _ k => XS.iconst X29.here hx rfl (hb hby at_72) k) ?_
      exact own_retN X29 hx hlk hret (by simp) (hb hby at_73) eq29 ⟨rfl, N29⟩ (by decide) (by decide)
  · refine Go.st (S' := T0.setTop (mkF m 7 #[.val (.int p1), .val (.int p2), .unset, .unset, .unset, .unset] [(.int (4 : Int32))])) (fun _ k => by rw [hk]; exact k) ?_
    refine Go.st (S' := T0.setTop (mkF m 8 #[.val (.int p1), .val (.int p2), .val (.int (4 : Int32)), .unset, .unset, .unset] [])) (fun _ k => XS.istoreN X0.here hx rfl (hb hby at_7) rfl (l' := #[.val (.int p1), .val (.int p2), .val (.int (4 : Int32)), .unset, .unset, .unset]) rfl k) ?_
    refine Go.st (S' := T0.setTop (mkF m 9 #[.val (.int p1), .val (.int p2), .val (.int (4 : Int32)), .unset, .unset, .unset] [(.int (4 : Int32))])) (fun _ k => XS.iloadN X0.here hx rfl (hb hby at_8) rfl k) ?_
    obtain ⟨_, T31, L31, X31, ⟨⟨w31, rfl, m031, m131, m231, m331, m431, m531, m631, m731, m831, m931, m1031⟩, Nq31, eq31⟩, st31⟩ := own_callS X0 hx hZ hown (ww hw 1 rfl) (ww hw 2 rfl) (ww hw 3 rfl) (ww hw 4 rfl) (by decide) e0 (rm1 l Z a0 hw [] w_LOWER w_CONCAT w_CURRENT_DATE w_LOCATE w_ABS w_SQRT w_UPPER w_LENGTH w_CURRENT_TIMESTAMP w_MOD w_SUBSTRING hS (4 : Int32) h0 O0) 0 (by decide) (by decide) (by decide) (by decide) (g := (mkF m 9 #[.val (.int p1), .val (.int p2), .val (.int (4 : Int32)), .unset, .unset, .unset] [(.int (4 : Int32))])) rfl (by rw [hml]; rfl) [(.int (4 : Int32))] [] rfl (lenOf pd_515209 rfl) rfl (by show 2 * 0 + _ ≤ _; exact Nat.le_of_eq rfl) (hb hby at_9)
    have N31 := Fr.app N0 Nq31
    obtain rfl : w_SUBSTRING = w31 := (m431 rfl).symm
    refine Go.st (S' := T31.setTop (mkF m 12 #[.val (.int p1), .val (.int p2), .val (.int (4 : Int32)), .unset, .unset, .unset] [(.ref w_SUBSTRING)])) st31 ?_
    refine Go.st (S' := T31.setTop (mkF m 13 #[.val (.int p1), .val (.int p2), .val (.int (4 : Int32)), .val (.ref w_SUBSTRING), .unset, .unset] [])) (fun _ k => XS.astoreN X31.here hx rfl (hb hby at_12) rfl rfl (l' := #[.val (.int p1), .val (.int p2), .val (.int (4 : Int32)), .val (.ref w_SUBSTRING), .unset, .unset]) rfl k) ?_
    refine Go.st (S' := T31.setTop (mkF m 14 #[.val (.int p1), .val (.int p2), .val (.int (4 : Int32)), .val (.ref w_SUBSTRING), .unset, .unset] [(.ref w_SUBSTRING)])) (fun _ k => XS.aloadN X31.here hx rfl (hb hby at_13) rfl rfl k) ?_
    obtain ⟨_, T32, L32, X32, ⟨rfl, Nq32, eq32⟩, st32⟩ := own_callV X31 hx hZ hown (ww hw 8 rfl) (ww hw 9 rfl) (notFace_of_selects (args := #[]) (mvT hZ (ww hw 11 rfl))) (ww hw 11 rfl) (ww hw 10 rfl) (ww hw 6 rfl) (ww hw 12 rfl) (by decide) eq31 (E_SUBSTRING.ext O0) (rm2 l Z a0 hw [] w_LOWER w_CONCAT w_CURRENT_DATE w_LOCATE w_ABS w_SQRT w_UPPER w_LENGTH w_CURRENT_TIMESTAMP w_MOD w_SUBSTRING hS w_SUBSTRING (3 : Int32) (1 : Int32) (by decide) h0 O0 (F_SUBSTRING_most.ext O0)) 0 (by decide) (by decide) (by decide) (by decide) (g := (mkF m 14 #[.val (.int p1), .val (.int p2), .val (.int (4 : Int32)), .val (.ref w_SUBSTRING), .unset, .unset] [(.ref w_SUBSTRING)])) rfl (by rw [hml]; rfl) [] [] rfl (lenOf pd_428490 rfl) rfl (by show 2 * 0 + _ ≤ _; exact Nat.le_of_eq rfl) (hb hby at_14)
    have N32 := Fr.app N31 Nq32
    refine Go.st (S' := T32.setTop (mkF m 17 #[.val (.int p1), .val (.int p2), .val (.int (4 : Int32)), .val (.ref w_SUBSTRING), .unset, .unset] [(.int (1 : Int32))])) st32 ?_
    refine Go.st (S' := T32.setTop (mkF m 19 #[.val (.int p1), .val (.int p2), .val (.int (4 : Int32)), .val (.ref w_SUBSTRING), .val (.int (1 : Int32)), .unset] [])) (fun _ k => XS.istore X32.here hx rfl (hb hby at_17) rfl (l' := #[.val (.int p1), .val (.int p2), .val (.int (4 : Int32)), .val (.ref w_SUBSTRING), .val (.int (1 : Int32)), .unset]) rfl k) ?_
    refine Go.st (S' := T32.setTop (mkF m 20 #[.val (.int p1), .val (.int p2), .val (.int (4 : Int32)), .val (.ref w_SUBSTRING), .val (.int (1 : Int32)), .unset] [(.int (4 : Int32))])) (fun _ k => XS.iloadN X32.here hx rfl (hb hby at_19) rfl k) ?_
    refine Go.st (S' := T32.setTop (mkF m 22 #[.val (.int p1), .val (.int p2), .val (.int (4 : Int32)), .val (.ref w_SUBSTRING), .val (.int (1 : Int32)), .unset] [(.int (9 : Int32)), (.int (4 : Int32))])) (fun _ k => XS.bipush X32.here hx rfl (hb hby at_20) k) ?_
    refine Go.st (S' := T32.setTop (mkF m 25 #[.val (.int p1), .val (.int p2), .val (.int (4 : Int32)), .val (.ref w_SUBSTRING), .val (.int (1 : Int32)), .unset] [])) (fun _ k => XS.icmpNo X32.here hx rfl (hb hby at_22) rfl (tlt (by decide)).2.1 k) ?_
    refine Go.st (S' := T32.setTop (mkF m 26 #[.val (.int p1), .val (.int p2), .val (.int (4 : Int32)), .val (.ref w_SUBSTRING), .val (.int (1 : Int32)), .unset] [(.int (1 : Int32))])) (fun _ k => XS.iconst X32.here hx rfl (hb hby at_25) k) ?_
    refine Go.st (S' := T32.setTop (mkF m 30 #[.val (.int p1), .val (.int p2), .val (.int (4 : Int32)), .val (.ref w_SUBSTRING), .val (.int (1 : Int32)), .unset] [(.int (1 : Int32))])) (fun _ k => XS.goto X32.here hx rfl (pc0 := 26) (pc' := 30) rfl (hb hby at_26) (by decide) (by decide) k) ?_
    refine Go.st (S' := T32.setTop (mkF m 32 #[.val (.int p1), .val (.int p2), .val (.int (4 : Int32)), .val (.ref w_SUBSTRING), .val (.int (1 : Int32)), .val (.int (1 : Int32))] [])) (fun _ k => XS.istore X32.here hx rfl (hb hby at_30) rfl (l' := #[.val (.int p1), .val (.int p2), .val (.int (4 : Int32)), .val (.ref w_SUBSTRING), .val (.int (1 : Int32)), .val (.int (1 : Int32))]) rfl k) ?_
    refine Go.st (S' := T32.setTop (mkF m 34 #[.val (.int p1), .val (.int p2), .val (.int (4 : Int32)), .val (.ref w_SUBSTRING), .val (.int (1 : Int32)), .val (.int (1 : Int32))] [(.int (1 : Int32))])) (fun _ k => XS.iload X32.here hx rfl (hb hby at_32) rfl k) ?_
    refine Go.st (S' := T32.setTop (mkF m 36 #[.val (.int p1), .val (.int p2), .val (.int (4 : Int32)), .val (.ref w_SUBSTRING), .val (.int (1 : Int32)), .val (.int (1 : Int32))] [(.int (1 : Int32)), (.int (1 : Int32))])) (fun _ k => XS.iload X32.here hx rfl (hb hby at_34) rfl k) ?_
    refine Go.st (S' := T32.setTop (mkF m 41 #[.val (.int p1), .val (.int p2), .val (.int (4 : Int32)), .val (.ref w_SUBSTRING), .val (.int (1 : Int32)), .val (.int (1 : Int32))] [])) (fun _ k => XS.icmpYes X32.here hx rfl (pc0 := 36) (pc' := 41) rfl (hb hby at_36) rfl (teq (by decide)).1 (by decide) (by decide) k) ?_
    refine Go.st (S' := T32.setTop (mkF m 43 #[.val (.int p1), .val (.int p2), .val (.int (4 : Int32)), .val (.ref w_SUBSTRING), .val (.int (1 : Int32)), .val (.int (1 : Int32))] [(.int (1 : Int32))])) (fun _ k => XS.iload X32.here hx rfl (hb hby at_41) rfl k) ?_
    refine Go.st (S' := T32.setTop (mkF m 44 #[.val (.int p1), .val (.int p2), .val (.int (4 : Int32)), .val (.ref w_SUBSTRING), .val (.int (1 : Int32)), .val (.int (1 : Int32))] [(.ref w_SUBSTRING), (.int (1 : Int32))])) (fun _ k => XS.aloadN X32.here hx rfl (hb hby at_43) rfl rfl k) ?_
    refine Go.st (S' := T32.setTop (mkF m 45 #[.val (.int p1), .val (.int p2), .val (.int (4 : Int32)), .val (.ref w_SUBSTRING), .val (.int (1 : Int32)), .val (.int (1 : Int32))] [(.int (0 : Int32)), (.ref w_SUBSTRING), (.int (1 : Int32))])) (fun _ k => XS.iconst X32.here hx rfl (hb hby at_44) k) ?_
    obtain ⟨_, T33, L33, X33, ⟨rfl, Nq33, eq33⟩, st33⟩ := own_callV X32 hx hZ hown (ww hw 15 rfl) (ww hw 16 rfl) (notFace_of_selects (args := #[]) (mvT hZ (ww hw 18 rfl))) (ww hw 18 rfl) (ww hw 17 rfl) (ww hw 6 rfl) (ww hw 19 rfl) (by decide) eq32 (E_SUBSTRING.ext O0) (rm3 l Z a0 hw [] w_LOWER w_CONCAT w_CURRENT_DATE w_LOCATE w_ABS w_SQRT w_UPPER w_LENGTH w_CURRENT_TIMESTAMP w_MOD w_SUBSTRING hS w_SUBSTRING (0 : Int32) (2 : Int32) (3 : Int32) (0 : Int32) (by decide) h0 O0 (F_SUBSTRING_fewest.ext O0) (F_SUBSTRING_most.ext O0)) 1 (by decide) (by decide) (by decide) (by decide) (g := (mkF m 45 #[.val (.int p1), .val (.int p2), .val (.int (4 : Int32)), .val (.ref w_SUBSTRING), .val (.int (1 : Int32)), .val (.int (1 : Int32))] [(.int (0 : Int32)), (.ref w_SUBSTRING), (.int (1 : Int32))])) rfl (by rw [hml]; rfl) [(.int (0 : Int32))] [(.int (1 : Int32))] rfl (lenOf pd_674845 rfl) rfl (by show 2 * 0 + _ ≤ _; exact Nat.le_of_eq rfl) (hb hby at_45)
    have N33 := Fr.app N32 Nq33
    refine Go.st (S' := T33.setTop (mkF m 48 #[.val (.int p1), .val (.int p2), .val (.int (4 : Int32)), .val (.ref w_SUBSTRING), .val (.int (1 : Int32)), .val (.int (1 : Int32))] [(.int (0 : Int32)), (.int (1 : Int32))])) st33 ?_
    refine Go.st (S' := T33.setTop (mkF m 53 #[.val (.int p1), .val (.int p2), .val (.int (4 : Int32)), .val (.ref w_SUBSTRING), .val (.int (1 : Int32)), .val (.int (1 : Int32))] [])) (fun _ k => XS.icmpYes X33.here hx rfl (pc0 := 48) (pc' := 53) rfl (hb hby at_48) rfl (feq (by decide)).2 (by decide) (by decide) k) ?_
    refine Go.st (S' := T33.setTop (mkF m 54 #[.val (.int p1), .val (.int p2), .val (.int (4 : Int32)), .val (.ref w_SUBSTRING), .val (.int (1 : Int32)), .val (.int (1 : Int32))] [(.int p2)])) (fun _ k => XS.iloadN X33.here hx rfl (hb hby at_53) rfl k) ?_
    by_cases hc54_4 : (0 : Int32) < p2
    · refine Go.st (S' := T33.setTop (mkF m 57 #[.val (.int p1), .val (.int p2), .val (.int (4 : Int32)), .val (.ref w_SUBSTRING), .val (.int (1 : Int32)), .val (.int (1 : Int32))] [])) (fun _ k => XS.ifNo X33.here hx rfl (hb hby at_54) rfl ((if0 _ _).trans (tlt hc54_4).2.2.2) k) ?_
      refine Go.st (S' := T33.setTop (mkF m 58 #[.val (.int p1), .val (.int p2), .val (.int (4 : Int32)), .val (.ref w_SUBSTRING), .val (.int (1 : Int32)), .val (.int (1 : Int32))] [(.ref w_SUBSTRING)])) (fun _ k => XS.aloadN X33.here hx rfl (hb hby at_57) rfl rfl k) ?_
      refine Go.st (S' := T33.setTop (mkF m 59 #[.val (.int p1), .val (.int p2), .val (.int (4 : Int32)), .val (.ref w_SUBSTRING), .val (.int (1 : Int32)), .val (.int (1 : Int32))] [(.int p2), (.ref w_SUBSTRING)])) (fun _ k => XS.iloadN X33.here hx rfl (hb hby at_58) rfl k) ?_
      obtain ⟨_, T34, L34, X34, ⟨rfl, Nq34, eq34⟩, st34⟩ := own_callV X33 hx hZ hown (ww hw 15 rfl) (ww hw 16 rfl) (notFace_of_selects (args := #[]) (mvT hZ (ww hw 18 rfl))) (ww hw 18 rfl) (ww hw 17 rfl) (ww hw 6 rfl) (ww hw 19 rfl) (by decide) eq33 (E_SUBSTRING.ext O0) (rm3 l Z a0 hw [] w_LOWER w_CONCAT w_CURRENT_DATE w_LOCATE w_ABS w_SQRT w_UPPER w_LENGTH w_CURRENT_TIMESTAMP w_MOD w_SUBSTRING hS w_SUBSTRING p2 (2 : Int32) (3 : Int32) (takF (2 : Int32) (3 : Int32) p2) rfl h0 O0 (F_SUBSTRING_fewest.ext O0) (F_SUBSTRING_most.ext O0)) 0 (by decide) (by decide) (by decide) (by decide) (g := (mkF m 59 #[.val (.int p1), .val (.int p2), .val (.int (4 : Int32)), .val (.ref w_SUBSTRING), .val (.int (1 : Int32)), .val (.int (1 : Int32))] [(.int p2), (.ref w_SUBSTRING)])) rfl (by rw [hml]; rfl) [(.int p2)] [] rfl (lenOf pd_674845 rfl) rfl (by show 2 * 0 + _ ≤ _; exact Nat.le_of_eq rfl) (hb hby at_59)
      have N34 := Fr.app N33 Nq34
      refine Go.st (S' := T34.setTop (mkF m 62 #[.val (.int p1), .val (.int p2), .val (.int (4 : Int32)), .val (.ref w_SUBSTRING), .val (.int (1 : Int32)), .val (.int (1 : Int32))] [(.int (takF (2 : Int32) (3 : Int32) p2))])) st34 ?_
      by_cases hc62_4 : (takF (2 : Int32) (3 : Int32) p2) = (0 : Int32)
      · refine Go.st (S' := T34.setTop (mkF m 72 #[.val (.int p1), .val (.int p2), .val (.int (4 : Int32)), .val (.ref w_SUBSTRING), .val (.int (1 : Int32)), .val (.int (1 : Int32))] [])) (fun _ k => XS.ifYes X34.here hx rfl (pc0 := 62) (pc' := 72) rfl (hb hby at_62) rfl ((if0 _ _).trans (teq hc62_4).1) (by decide) (by decide) k) ?_
        refine Go.st (S' := T34.setTop (mkF m 73 #[.val (.int p1), .val (.int p2), .val (.int (4 : Int32)), .val (.ref w_SUBSTRING), .val (.int (1 : Int32)), .val (.int (1 : Int32))] [(.int (1 : Int32))])) (fun _ k => XS.iconst X34.here hx rfl (hb hby at_72) k) ?_
        exact own_retN X34 hx hlk hret (by simp) (hb hby at_73) eq34 ⟨rfl, N34⟩ (by decide) (by decide)
      · refine Go.st (S' := T34.setTop (mkF m 65 #[.val (.int p1), .val (.int p2), .val (.int (4 : Int32)), .val (.ref w_SUBSTRING), .val (.int (1 : Int32)), .val (.int (1 : Int32))] [])) (fun _ k => XS.ifNo X34.here hx rfl (hb hby at_62) rfl ((if0 _ _).trans (feq hc62_4).1) k) ?_
        refine Go.st (S' := T34.setTop (mkF m 67 #[.val (.int p1), .val (.int p2), .val (.int (4 : Int32)), .val (.ref w_SUBSTRING), .val (.int (1 : Int32)), .val (.int (1 : Int32))] [(.int (1 : Int32))])) (fun _ k => XS.iload X34.here hx rfl (hb hby at_65) rfl k) ?_
        refine Go.st (S' := T34.setTop (mkF m 72 #[.val (.int p1), .val (.int p2), .val (.int (4 : Int32)), .val (.ref w_SUBSTRING), .val (.int (1 : Int32)), .val (.int (1 : Int32))] [])) (fun _ k => XS.ifYes X34.here hx rfl (pc0 := 67) (pc' := 72) rfl (hb hby at_67) rfl ((if0 _ _).trans (feq (by decide)).2) (by decide) (by decide) k) ?_
        refine Go.st (S' := T34.setTop (mkF m 73 #[.val (.int p1), .val (.int p2), .val (.int (4 : Int32)), .val (.ref w_SUBSTRING), .val (.int (1 : Int32)), .val (.int (1 : Int32))] [(.int (1 : Int32))])) (fun _ k => XS.iconst X34.here hx rfl (hb hby at_72) k) ?_
        exact own_retN X34 hx hlk hret (by simp) (hb hby at_73) eq34 ⟨rfl, N34⟩ (by decide) (by decide)
    · refine Go.st (S' := T33.setTop (mkF m 72 #[.val (.int p1), .val (.int p2), .val (.int (4 : Int32)), .val (.ref w_SUBSTRING), .val (.int (1 : Int32)), .val (.int (1 : Int32))] [])) (fun _ k => XS.ifYes X33.here hx rfl (pc0 := 54) (pc' := 72) rfl (hb hby at_54) rfl ((if0 _ _).trans (flt hc54_4).2.2.2) (by decide) (by decide) k) ?_
      refine Go.st (S' := T33.setTop (mkF m 73 #[.val (.int p1), .val (.int p2), .val (.int (4 : Int32)), .val (.ref w_SUBSTRING), .val (.int (1 : Int32)), .val (.int (1 : Int32))] [(.int (1 : Int32))])) (fun _ k => XS.iconst X33.here hx rfl (hb hby at_72) k) ?_
      exact own_retN X33 hx hlk hret (by simp) (hb hby at_73) eq33 ⟨rfl, N33⟩ (by decide) (by decide)
  · refine Go.st (S' := T0.setTop (mkF m 7 #[.val (.int p1), .val (.int p2), .unset, .unset, .unset, .unset] [(.int (5 : Int32))])) (fun _ k => by rw [hk]; exact k) ?_
    refine Go.st (S' := T0.setTop (mkF m 8 #[.val (.int p1), .val (.int p2), .val (.int (5 : Int32)), .unset, .unset, .unset] [])) (fun _ k => XS.istoreN X0.here hx rfl (hb hby at_7) rfl (l' := #[.val (.int p1), .val (.int p2), .val (.int (5 : Int32)), .unset, .unset, .unset]) rfl k) ?_
    refine Go.st (S' := T0.setTop (mkF m 9 #[.val (.int p1), .val (.int p2), .val (.int (5 : Int32)), .unset, .unset, .unset] [(.int (5 : Int32))])) (fun _ k => XS.iloadN X0.here hx rfl (hb hby at_8) rfl k) ?_
    obtain ⟨_, T35, L35, X35, ⟨⟨w35, rfl, m035, m135, m235, m335, m435, m535, m635, m735, m835, m935, m1035⟩, Nq35, eq35⟩, st35⟩ := own_callS X0 hx hZ hown (ww hw 1 rfl) (ww hw 2 rfl) (ww hw 3 rfl) (ww hw 4 rfl) (by decide) e0 (rm1 l Z a0 hw [] w_LOWER w_CONCAT w_CURRENT_DATE w_LOCATE w_ABS w_SQRT w_UPPER w_LENGTH w_CURRENT_TIMESTAMP w_MOD w_SUBSTRING hS (5 : Int32) h0 O0) 0 (by decide) (by decide) (by decide) (by decide) (g := (mkF m 9 #[.val (.int p1), .val (.int p2), .val (.int (5 : Int32)), .unset, .unset, .unset] [(.int (5 : Int32))])) rfl (by rw [hml]; rfl) [(.int (5 : Int32))] [] rfl (lenOf pd_515209 rfl) rfl (by show 2 * 0 + _ ≤ _; exact Nat.le_of_eq rfl) (hb hby at_9)
    have N35 := Fr.app N0 Nq35
    obtain rfl : w_LOCATE = w35 := (m535 rfl).symm
    refine Go.st (S' := T35.setTop (mkF m 12 #[.val (.int p1), .val (.int p2), .val (.int (5 : Int32)), .unset, .unset, .unset] [(.ref w_LOCATE)])) st35 ?_
    refine Go.st (S' := T35.setTop (mkF m 13 #[.val (.int p1), .val (.int p2), .val (.int (5 : Int32)), .val (.ref w_LOCATE), .unset, .unset] [])) (fun _ k => XS.astoreN X35.here hx rfl (hb hby at_12) rfl rfl (l' := #[.val (.int p1), .val (.int p2), .val (.int (5 : Int32)), .val (.ref w_LOCATE), .unset, .unset]) rfl k) ?_
    refine Go.st (S' := T35.setTop (mkF m 14 #[.val (.int p1), .val (.int p2), .val (.int (5 : Int32)), .val (.ref w_LOCATE), .unset, .unset] [(.ref w_LOCATE)])) (fun _ k => XS.aloadN X35.here hx rfl (hb hby at_13) rfl rfl k) ?_
    obtain ⟨_, T36, L36, X36, ⟨rfl, Nq36, eq36⟩, st36⟩ := own_callV X35 hx hZ hown (ww hw 8 rfl) (ww hw 9 rfl) (notFace_of_selects (args := #[]) (mvT hZ (ww hw 11 rfl))) (ww hw 11 rfl) (ww hw 10 rfl) (ww hw 6 rfl) (ww hw 12 rfl) (by decide) eq35 (E_LOCATE.ext O0) (rm2 l Z a0 hw [] w_LOWER w_CONCAT w_CURRENT_DATE w_LOCATE w_ABS w_SQRT w_UPPER w_LENGTH w_CURRENT_TIMESTAMP w_MOD w_SUBSTRING hS w_LOCATE (3 : Int32) (1 : Int32) (by decide) h0 O0 (F_LOCATE_most.ext O0)) 0 (by decide) (by decide) (by decide) (by decide) (g := (mkF m 14 #[.val (.int p1), .val (.int p2), .val (.int (5 : Int32)), .val (.ref w_LOCATE), .unset, .unset] [(.ref w_LOCATE)])) rfl (by rw [hml]; rfl) [] [] rfl (lenOf pd_428490 rfl) rfl (by show 2 * 0 + _ ≤ _; exact Nat.le_of_eq rfl) (hb hby at_14)
    have N36 := Fr.app N35 Nq36
    refine Go.st (S' := T36.setTop (mkF m 17 #[.val (.int p1), .val (.int p2), .val (.int (5 : Int32)), .val (.ref w_LOCATE), .unset, .unset] [(.int (1 : Int32))])) st36 ?_
    refine Go.st (S' := T36.setTop (mkF m 19 #[.val (.int p1), .val (.int p2), .val (.int (5 : Int32)), .val (.ref w_LOCATE), .val (.int (1 : Int32)), .unset] [])) (fun _ k => XS.istore X36.here hx rfl (hb hby at_17) rfl (l' := #[.val (.int p1), .val (.int p2), .val (.int (5 : Int32)), .val (.ref w_LOCATE), .val (.int (1 : Int32)), .unset]) rfl k) ?_
    refine Go.st (S' := T36.setTop (mkF m 20 #[.val (.int p1), .val (.int p2), .val (.int (5 : Int32)), .val (.ref w_LOCATE), .val (.int (1 : Int32)), .unset] [(.int (5 : Int32))])) (fun _ k => XS.iloadN X36.here hx rfl (hb hby at_19) rfl k) ?_
    refine Go.st (S' := T36.setTop (mkF m 22 #[.val (.int p1), .val (.int p2), .val (.int (5 : Int32)), .val (.ref w_LOCATE), .val (.int (1 : Int32)), .unset] [(.int (9 : Int32)), (.int (5 : Int32))])) (fun _ k => XS.bipush X36.here hx rfl (hb hby at_20) k) ?_
    refine Go.st (S' := T36.setTop (mkF m 25 #[.val (.int p1), .val (.int p2), .val (.int (5 : Int32)), .val (.ref w_LOCATE), .val (.int (1 : Int32)), .unset] [])) (fun _ k => XS.icmpNo X36.here hx rfl (hb hby at_22) rfl (tlt (by decide)).2.1 k) ?_
    refine Go.st (S' := T36.setTop (mkF m 26 #[.val (.int p1), .val (.int p2), .val (.int (5 : Int32)), .val (.ref w_LOCATE), .val (.int (1 : Int32)), .unset] [(.int (1 : Int32))])) (fun _ k => XS.iconst X36.here hx rfl (hb hby at_25) k) ?_
    refine Go.st (S' := T36.setTop (mkF m 30 #[.val (.int p1), .val (.int p2), .val (.int (5 : Int32)), .val (.ref w_LOCATE), .val (.int (1 : Int32)), .unset] [(.int (1 : Int32))])) (fun _ k => XS.goto X36.here hx rfl (pc0 := 26) (pc' := 30) rfl (hb hby at_26) (by decide) (by decide) k) ?_
    refine Go.st (S' := T36.setTop (mkF m 32 #[.val (.int p1), .val (.int p2), .val (.int (5 : Int32)), .val (.ref w_LOCATE), .val (.int (1 : Int32)), .val (.int (1 : Int32))] [])) (fun _ k => XS.istore X36.here hx rfl (hb hby at_30) rfl (l' := #[.val (.int p1), .val (.int p2), .val (.int (5 : Int32)), .val (.ref w_LOCATE), .val (.int (1 : Int32)), .val (.int (1 : Int32))]) rfl k) ?_
    refine Go.st (S' := T36.setTop (mkF m 34 #[.val (.int p1), .val (.int p2), .val (.int (5 : Int32)), .val (.ref w_LOCATE), .val (.int (1 : Int32)), .val (.int (1 : Int32))] [(.int (1 : Int32))])) (fun _ k => XS.iload X36.here hx rfl (hb hby at_32) rfl k) ?_
    refine Go.st (S' := T36.setTop (mkF m 36 #[.val (.int p1), .val (.int p2), .val (.int (5 : Int32)), .val (.ref w_LOCATE), .val (.int (1 : Int32)), .val (.int (1 : Int32))] [(.int (1 : Int32)), (.int (1 : Int32))])) (fun _ k => XS.iload X36.here hx rfl (hb hby at_34) rfl k) ?_
    refine Go.st (S' := T36.setTop (mkF m 41 #[.val (.int p1), .val (.int p2), .val (.int (5 : Int32)), .val (.ref w_LOCATE), .val (.int (1 : Int32)), .val (.int (1 : Int32))] [])) (fun _ k => XS.icmpYes X36.here hx rfl (pc0 := 36) (pc' := 41) rfl (hb hby at_36) rfl (teq (by decide)).1 (by decide) (by decide) k) ?_
    refine Go.st (S' := T36.setTop (mkF m 43 #[.val (.int p1), .val (.int p2), .val (.int (5 : Int32)), .val (.ref w_LOCATE), .val (.int (1 : Int32)), .val (.int (1 : Int32))] [(.int (1 : Int32))])) (fun _ k => XS.iload X36.here hx rfl (hb hby at_41) rfl k) ?_
    refine Go.st (S' := T36.setTop (mkF m 44 #[.val (.int p1), .val (.int p2), .val (.int (5 : Int32)), .val (.ref w_LOCATE), .val (.int (1 : Int32)), .val (.int (1 : Int32))] [(.ref w_LOCATE), (.int (1 : Int32))])) (fun _ k => XS.aloadN X36.here hx rfl (hb hby at_43) rfl rfl k) ?_
    refine Go.st (S' := T36.setTop (mkF m 45 #[.val (.int p1), .val (.int p2), .val (.int (5 : Int32)), .val (.ref w_LOCATE), .val (.int (1 : Int32)), .val (.int (1 : Int32))] [(.int (0 : Int32)), (.ref w_LOCATE), (.int (1 : Int32))])) (fun _ k => XS.iconst X36.here hx rfl (hb hby at_44) k) ?_
    obtain ⟨_, T37, L37, X37, ⟨rfl, Nq37, eq37⟩, st37⟩ := own_callV X36 hx hZ hown (ww hw 15 rfl) (ww hw 16 rfl) (notFace_of_selects (args := #[]) (mvT hZ (ww hw 18 rfl))) (ww hw 18 rfl) (ww hw 17 rfl) (ww hw 6 rfl) (ww hw 19 rfl) (by decide) eq36 (E_LOCATE.ext O0) (rm3 l Z a0 hw [] w_LOWER w_CONCAT w_CURRENT_DATE w_LOCATE w_ABS w_SQRT w_UPPER w_LENGTH w_CURRENT_TIMESTAMP w_MOD w_SUBSTRING hS w_LOCATE (0 : Int32) (2 : Int32) (3 : Int32) (0 : Int32) (by decide) h0 O0 (F_LOCATE_fewest.ext O0) (F_LOCATE_most.ext O0)) 1 (by decide) (by decide) (by decide) (by decide) (g := (mkF m 45 #[.val (.int p1), .val (.int p2), .val (.int (5 : Int32)), .val (.ref w_LOCATE), .val (.int (1 : Int32)), .val (.int (1 : Int32))] [(.int (0 : Int32)), (.ref w_LOCATE), (.int (1 : Int32))])) rfl (by rw [hml]; rfl) [(.int (0 : Int32))] [(.int (1 : Int32))] rfl (lenOf pd_674845 rfl) rfl (by show 2 * 0 + _ ≤ _; exact Nat.le_of_eq rfl) (hb hby at_45)
    have N37 := Fr.app N36 Nq37
    refine Go.st (S' := T37.setTop (mkF m 48 #[.val (.int p1), .val (.int p2), .val (.int (5 : Int32)), .val (.ref w_LOCATE), .val (.int (1 : Int32)), .val (.int (1 : Int32))] [(.int (0 : Int32)), (.int (1 : Int32))])) st37 ?_
    refine Go.st (S' := T37.setTop (mkF m 53 #[.val (.int p1), .val (.int p2), .val (.int (5 : Int32)), .val (.ref w_LOCATE), .val (.int (1 : Int32)), .val (.int (1 : Int32))] [])) (fun _ k => XS.icmpYes X37.here hx rfl (pc0 := 48) (pc' := 53) rfl (hb hby at_48) rfl (feq (by decide)).2 (by decide) (by decide) k) ?_
    refine Go.st (S' := T37.setTop (mkF m 54 #[.val (.int p1), .val (.int p2), .val (.int (5 : Int32)), .val (.ref w_LOCATE), .val (.int (1 : Int32)), .val (.int (1 : Int32))] [(.int p2)])) (fun _ k => XS.iloadN X37.here hx rfl (hb hby at_53) rfl k) ?_
    by_cases hc54_5 : (0 : Int32) < p2
    · refine Go.st (S' := T37.setTop (mkF m 57 #[.val (.int p1), .val (.int p2), .val (.int (5 : Int32)), .val (.ref w_LOCATE), .val (.int (1 : Int32)), .val (.int (1 : Int32))] [])) (fun _ k => XS.ifNo X37.here hx rfl (hb hby at_54) rfl ((if0 _ _).trans (tlt hc54_5).2.2.2) k) ?_
      refine Go.st (S' := T37.setTop (mkF m 58 #[.val (.int p1), .val (.int p2), .val (.int (5 : Int32)), .val (.ref w_LOCATE), .val (.int (1 : Int32)), .val (.int (1 : Int32))] [(.ref w_LOCATE)])) (fun _ k => XS.aloadN X37.here hx rfl (hb hby at_57) rfl rfl k) ?_
      refine Go.st (S' := T37.setTop (mkF m 59 #[.val (.int p1), .val (.int p2), .val (.int (5 : Int32)), .val (.ref w_LOCATE), .val (.int (1 : Int32)), .val (.int (1 : Int32))] [(.int p2), (.ref w_LOCATE)])) (fun _ k => XS.iloadN X37.here hx rfl (hb hby at_58) rfl k) ?_
      obtain ⟨_, T38, L38, X38, ⟨rfl, Nq38, eq38⟩, st38⟩ := own_callV X37 hx hZ hown (ww hw 15 rfl) (ww hw 16 rfl) (notFace_of_selects (args := #[]) (mvT hZ (ww hw 18 rfl))) (ww hw 18 rfl) (ww hw 17 rfl) (ww hw 6 rfl) (ww hw 19 rfl) (by decide) eq37 (E_LOCATE.ext O0) (rm3 l Z a0 hw [] w_LOWER w_CONCAT w_CURRENT_DATE w_LOCATE w_ABS w_SQRT w_UPPER w_LENGTH w_CURRENT_TIMESTAMP w_MOD w_SUBSTRING hS w_LOCATE p2 (2 : Int32) (3 : Int32) (takF (2 : Int32) (3 : Int32) p2) rfl h0 O0 (F_LOCATE_fewest.ext O0) (F_LOCATE_most.ext O0)) 0 (by decide) (by decide) (by decide) (by decide) (g := (mkF m 59 #[.val (.int p1), .val (.int p2), .val (.int (5 : Int32)), .val (.ref w_LOCATE), .val (.int (1 : Int32)), .val (.int (1 : Int32))] [(.int p2), (.ref w_LOCATE)])) rfl (by rw [hml]; rfl) [(.int p2)] [] rfl (lenOf pd_674845 rfl) rfl (by show 2 * 0 + _ ≤ _; exact Nat.le_of_eq rfl) (hb hby at_59)
      have N38 := Fr.app N37 Nq38
      refine Go.st (S' := T38.setTop (mkF m 62 #[.val (.int p1), .val (.int p2), .val (.int (5 : Int32)), .val (.ref w_LOCATE), .val (.int (1 : Int32)), .val (.int (1 : Int32))] [(.int (takF (2 : Int32) (3 : Int32) p2))])) st38 ?_
      by_cases hc62_5 : (takF (2 : Int32) (3 : Int32) p2) = (0 : Int32)
      · refine Go.st (S' := T38.setTop (mkF m 72 #[.val (.int p1), .val (.int p2), .val (.int (5 : Int32)), .val (.ref w_LOCATE), .val (.int (1 : Int32)), .val (.int (1 : Int32))] [])) (fun _ k => XS.ifYes X38.here hx rfl (pc0 := 62) (pc' := 72) rfl (hb hby at_62) rfl ((if0 _ _).trans (teq hc62_5).1) (by decide) (by decide) k) ?_
        refine Go.st (S' := T38.setTop (mkF m 73 #[.val (.int p1), .val (.int p2), .val (.int (5 : Int32)), .val (.ref w_LOCATE), .val (.int (1 : Int32)), .val (.int (1 : Int32))] [(.int (1 : Int32))])) (fun _ k => XS.iconst X38.here hx rfl (hb hby at_72) k) ?_
        exact own_retN X38 hx hlk hret (by simp) (hb hby at_73) eq38 ⟨rfl, N38⟩ (by decide) (by decide)
      · refine Go.st (S' := T38.setTop (mkF m 65 #[.val (.int p1), .val (.int p2), .val (.int (5 : Int32)), .val (.ref w_LOCATE), .val (.int (1 : Int32)), .val (.int (1 : Int32))] [])) (fun _ k => XS.ifNo X38.here hx rfl (hb hby at_62) rfl ((if0 _ _).trans (feq hc62_5).1) k) ?_
        refine Go.st (S' := T38.setTop (mkF m 67 #[.val (.int p1), .val (.int p2), .val (.int (5 : Int32)), .val (.ref w_LOCATE), .val (.int (1 : Int32)), .val (.int (1 : Int32))] [(.int (1 : Int32))])) (fun _ k => XS.iload X38.here hx rfl (hb hby at_65) rfl k) ?_
        refine Go.st (S' := T38.setTop (mkF m 72 #[.val (.int p1), .val (.int p2), .val (.int (5 : Int32)), .val (.ref w_LOCATE), .val (.int (1 : Int32)), .val (.int (1 : Int32))] [])) (fun _ k => XS.ifYes X38.here hx rfl (pc0 := 67) (pc' := 72) rfl (hb hby at_67) rfl ((if0 _ _).trans (feq (by decide)).2) (by decide) (by decide) k) ?_
        refine Go.st (S' := T38.setTop (mkF m 73 #[.val (.int p1), .val (.int p2), .val (.int (5 : Int32)), .val (.ref w_LOCATE), .val (.int (1 : Int32)), .val (.int (1 : Int32))] [(.int (1 : Int32))])) (fun _ k => XS.iconst X38.here hx rfl (hb hby at_72) k) ?_
        exact own_retN X38 hx hlk hret (by simp) (hb hby at_73) eq38 ⟨rfl, N38⟩ (by decide) (by decide)
    · refine Go.st (S' := T37.setTop (mkF m 72 #[.val (.int p1), .val (.int p2), .val (.int (5 : Int32)), .val (.ref w_LOCATE), .val (.int (1 : Int32)), .val (.int (1 : Int32))] [])) (fun _ k => XS.ifYes X37.here hx rfl (pc0 := 54) (pc' := 72) rfl (hb hby at_54) rfl ((if0 _ _).trans (flt hc54_5).2.2.2) (by decide) (by decide) k) ?_
      refine Go.st (S' := T37.setTop (mkF m 73 #[.val (.int p1), .val (.int p2), .val (.int (5 : Int32)), .val (.ref w_LOCATE), .val (.int (1 : Int32)), .val (.int (1 : Int32))] [(.int (1 : Int32))])) (fun _ k => XS.iconst X37.here hx rfl (hb hby at_72) k) ?_
      exact own_retN X37 hx hlk hret (by simp) (hb hby at_73) eq37 ⟨rfl, N37⟩ (by decide) (by decide)
  · refine Go.st (S' := T0.setTop (mkF m 7 #[.val (.int p1), .val (.int p2), .unset, .unset, .unset, .unset] [(.int (6 : Int32))])) (fun _ k => by rw [hk]; exact k) ?_
    refine Go.st (S' := T0.setTop (mkF m 8 #[.val (.int p1), .val (.int p2), .val (.int (6 : Int32)), .unset, .unset, .unset] [])) (fun _ k => XS.istoreN X0.here hx rfl (hb hby at_7) rfl (l' := #[.val (.int p1), .val (.int p2), .val (.int (6 : Int32)), .unset, .unset, .unset]) rfl k) ?_
    refine Go.st (S' := T0.setTop (mkF m 9 #[.val (.int p1), .val (.int p2), .val (.int (6 : Int32)), .unset, .unset, .unset] [(.int (6 : Int32))])) (fun _ k => XS.iloadN X0.here hx rfl (hb hby at_8) rfl k) ?_
    obtain ⟨_, T39, L39, X39, ⟨⟨w39, rfl, m039, m139, m239, m339, m439, m539, m639, m739, m839, m939, m1039⟩, Nq39, eq39⟩, st39⟩ := own_callS X0 hx hZ hown (ww hw 1 rfl) (ww hw 2 rfl) (ww hw 3 rfl) (ww hw 4 rfl) (by decide) e0 (rm1 l Z a0 hw [] w_LOWER w_CONCAT w_CURRENT_DATE w_LOCATE w_ABS w_SQRT w_UPPER w_LENGTH w_CURRENT_TIMESTAMP w_MOD w_SUBSTRING hS (6 : Int32) h0 O0) 0 (by decide) (by decide) (by decide) (by decide) (g := (mkF m 9 #[.val (.int p1), .val (.int p2), .val (.int (6 : Int32)), .unset, .unset, .unset] [(.int (6 : Int32))])) rfl (by rw [hml]; rfl) [(.int (6 : Int32))] [] rfl (lenOf pd_515209 rfl) rfl (by show 2 * 0 + _ ≤ _; exact Nat.le_of_eq rfl) (hb hby at_9)
    have N39 := Fr.app N0 Nq39
    obtain rfl : w_ABS = w39 := (m639 rfl).symm
    refine Go.st (S' := T39.setTop (mkF m 12 #[.val (.int p1), .val (.int p2), .val (.int (6 : Int32)), .unset, .unset, .unset] [(.ref w_ABS)])) st39 ?_
    refine Go.st (S' := T39.setTop (mkF m 13 #[.val (.int p1), .val (.int p2), .val (.int (6 : Int32)), .val (.ref w_ABS), .unset, .unset] [])) (fun _ k => XS.astoreN X39.here hx rfl (hb hby at_12) rfl rfl (l' := #[.val (.int p1), .val (.int p2), .val (.int (6 : Int32)), .val (.ref w_ABS), .unset, .unset]) rfl k) ?_
    refine Go.st (S' := T39.setTop (mkF m 14 #[.val (.int p1), .val (.int p2), .val (.int (6 : Int32)), .val (.ref w_ABS), .unset, .unset] [(.ref w_ABS)])) (fun _ k => XS.aloadN X39.here hx rfl (hb hby at_13) rfl rfl k) ?_
    obtain ⟨_, T40, L40, X40, ⟨rfl, Nq40, eq40⟩, st40⟩ := own_callV X39 hx hZ hown (ww hw 8 rfl) (ww hw 9 rfl) (notFace_of_selects (args := #[]) (mvT hZ (ww hw 11 rfl))) (ww hw 11 rfl) (ww hw 10 rfl) (ww hw 6 rfl) (ww hw 12 rfl) (by decide) eq39 (E_ABS.ext O0) (rm2 l Z a0 hw [] w_LOWER w_CONCAT w_CURRENT_DATE w_LOCATE w_ABS w_SQRT w_UPPER w_LENGTH w_CURRENT_TIMESTAMP w_MOD w_SUBSTRING hS w_ABS (1 : Int32) (1 : Int32) (by decide) h0 O0 (F_ABS_most.ext O0)) 0 (by decide) (by decide) (by decide) (by decide) (g := (mkF m 14 #[.val (.int p1), .val (.int p2), .val (.int (6 : Int32)), .val (.ref w_ABS), .unset, .unset] [(.ref w_ABS)])) rfl (by rw [hml]; rfl) [] [] rfl (lenOf pd_428490 rfl) rfl (by show 2 * 0 + _ ≤ _; exact Nat.le_of_eq rfl) (hb hby at_14)
    have N40 := Fr.app N39 Nq40
    refine Go.st (S' := T40.setTop (mkF m 17 #[.val (.int p1), .val (.int p2), .val (.int (6 : Int32)), .val (.ref w_ABS), .unset, .unset] [(.int (1 : Int32))])) st40 ?_
    refine Go.st (S' := T40.setTop (mkF m 19 #[.val (.int p1), .val (.int p2), .val (.int (6 : Int32)), .val (.ref w_ABS), .val (.int (1 : Int32)), .unset] [])) (fun _ k => XS.istore X40.here hx rfl (hb hby at_17) rfl (l' := #[.val (.int p1), .val (.int p2), .val (.int (6 : Int32)), .val (.ref w_ABS), .val (.int (1 : Int32)), .unset]) rfl k) ?_
    refine Go.st (S' := T40.setTop (mkF m 20 #[.val (.int p1), .val (.int p2), .val (.int (6 : Int32)), .val (.ref w_ABS), .val (.int (1 : Int32)), .unset] [(.int (6 : Int32))])) (fun _ k => XS.iloadN X40.here hx rfl (hb hby at_19) rfl k) ?_
    refine Go.st (S' := T40.setTop (mkF m 22 #[.val (.int p1), .val (.int p2), .val (.int (6 : Int32)), .val (.ref w_ABS), .val (.int (1 : Int32)), .unset] [(.int (9 : Int32)), (.int (6 : Int32))])) (fun _ k => XS.bipush X40.here hx rfl (hb hby at_20) k) ?_
    refine Go.st (S' := T40.setTop (mkF m 25 #[.val (.int p1), .val (.int p2), .val (.int (6 : Int32)), .val (.ref w_ABS), .val (.int (1 : Int32)), .unset] [])) (fun _ k => XS.icmpNo X40.here hx rfl (hb hby at_22) rfl (tlt (by decide)).2.1 k) ?_
    refine Go.st (S' := T40.setTop (mkF m 26 #[.val (.int p1), .val (.int p2), .val (.int (6 : Int32)), .val (.ref w_ABS), .val (.int (1 : Int32)), .unset] [(.int (1 : Int32))])) (fun _ k => XS.iconst X40.here hx rfl (hb hby at_25) k) ?_
    refine Go.st (S' := T40.setTop (mkF m 30 #[.val (.int p1), .val (.int p2), .val (.int (6 : Int32)), .val (.ref w_ABS), .val (.int (1 : Int32)), .unset] [(.int (1 : Int32))])) (fun _ k => XS.goto X40.here hx rfl (pc0 := 26) (pc' := 30) rfl (hb hby at_26) (by decide) (by decide) k) ?_
    refine Go.st (S' := T40.setTop (mkF m 32 #[.val (.int p1), .val (.int p2), .val (.int (6 : Int32)), .val (.ref w_ABS), .val (.int (1 : Int32)), .val (.int (1 : Int32))] [])) (fun _ k => XS.istore X40.here hx rfl (hb hby at_30) rfl (l' := #[.val (.int p1), .val (.int p2), .val (.int (6 : Int32)), .val (.ref w_ABS), .val (.int (1 : Int32)), .val (.int (1 : Int32))]) rfl k) ?_
    refine Go.st (S' := T40.setTop (mkF m 34 #[.val (.int p1), .val (.int p2), .val (.int (6 : Int32)), .val (.ref w_ABS), .val (.int (1 : Int32)), .val (.int (1 : Int32))] [(.int (1 : Int32))])) (fun _ k => XS.iload X40.here hx rfl (hb hby at_32) rfl k) ?_
    refine Go.st (S' := T40.setTop (mkF m 36 #[.val (.int p1), .val (.int p2), .val (.int (6 : Int32)), .val (.ref w_ABS), .val (.int (1 : Int32)), .val (.int (1 : Int32))] [(.int (1 : Int32)), (.int (1 : Int32))])) (fun _ k => XS.iload X40.here hx rfl (hb hby at_34) rfl k) ?_
    refine Go.st (S' := T40.setTop (mkF m 41 #[.val (.int p1), .val (.int p2), .val (.int (6 : Int32)), .val (.ref w_ABS), .val (.int (1 : Int32)), .val (.int (1 : Int32))] [])) (fun _ k => XS.icmpYes X40.here hx rfl (pc0 := 36) (pc' := 41) rfl (hb hby at_36) rfl (teq (by decide)).1 (by decide) (by decide) k) ?_
    refine Go.st (S' := T40.setTop (mkF m 43 #[.val (.int p1), .val (.int p2), .val (.int (6 : Int32)), .val (.ref w_ABS), .val (.int (1 : Int32)), .val (.int (1 : Int32))] [(.int (1 : Int32))])) (fun _ k => XS.iload X40.here hx rfl (hb hby at_41) rfl k) ?_
    refine Go.st (S' := T40.setTop (mkF m 44 #[.val (.int p1), .val (.int p2), .val (.int (6 : Int32)), .val (.ref w_ABS), .val (.int (1 : Int32)), .val (.int (1 : Int32))] [(.ref w_ABS), (.int (1 : Int32))])) (fun _ k => XS.aloadN X40.here hx rfl (hb hby at_43) rfl rfl k) ?_
    refine Go.st (S' := T40.setTop (mkF m 45 #[.val (.int p1), .val (.int p2), .val (.int (6 : Int32)), .val (.ref w_ABS), .val (.int (1 : Int32)), .val (.int (1 : Int32))] [(.int (0 : Int32)), (.ref w_ABS), (.int (1 : Int32))])) (fun _ k => XS.iconst X40.here hx rfl (hb hby at_44) k) ?_
    obtain ⟨_, T41, L41, X41, ⟨rfl, Nq41, eq41⟩, st41⟩ := own_callV X40 hx hZ hown (ww hw 15 rfl) (ww hw 16 rfl) (notFace_of_selects (args := #[]) (mvT hZ (ww hw 18 rfl))) (ww hw 18 rfl) (ww hw 17 rfl) (ww hw 6 rfl) (ww hw 19 rfl) (by decide) eq40 (E_ABS.ext O0) (rm3 l Z a0 hw [] w_LOWER w_CONCAT w_CURRENT_DATE w_LOCATE w_ABS w_SQRT w_UPPER w_LENGTH w_CURRENT_TIMESTAMP w_MOD w_SUBSTRING hS w_ABS (0 : Int32) (1 : Int32) (1 : Int32) (0 : Int32) (by decide) h0 O0 (F_ABS_fewest.ext O0) (F_ABS_most.ext O0)) 1 (by decide) (by decide) (by decide) (by decide) (g := (mkF m 45 #[.val (.int p1), .val (.int p2), .val (.int (6 : Int32)), .val (.ref w_ABS), .val (.int (1 : Int32)), .val (.int (1 : Int32))] [(.int (0 : Int32)), (.ref w_ABS), (.int (1 : Int32))])) rfl (by rw [hml]; rfl) [(.int (0 : Int32))] [(.int (1 : Int32))] rfl (lenOf pd_674845 rfl) rfl (by show 2 * 0 + _ ≤ _; exact Nat.le_of_eq rfl) (hb hby at_45)
    have N41 := Fr.app N40 Nq41
    refine Go.st (S' := T41.setTop (mkF m 48 #[.val (.int p1), .val (.int p2), .val (.int (6 : Int32)), .val (.ref w_ABS), .val (.int (1 : Int32)), .val (.int (1 : Int32))] [(.int (0 : Int32)), (.int (1 : Int32))])) st41 ?_
    refine Go.st (S' := T41.setTop (mkF m 53 #[.val (.int p1), .val (.int p2), .val (.int (6 : Int32)), .val (.ref w_ABS), .val (.int (1 : Int32)), .val (.int (1 : Int32))] [])) (fun _ k => XS.icmpYes X41.here hx rfl (pc0 := 48) (pc' := 53) rfl (hb hby at_48) rfl (feq (by decide)).2 (by decide) (by decide) k) ?_
    refine Go.st (S' := T41.setTop (mkF m 54 #[.val (.int p1), .val (.int p2), .val (.int (6 : Int32)), .val (.ref w_ABS), .val (.int (1 : Int32)), .val (.int (1 : Int32))] [(.int p2)])) (fun _ k => XS.iloadN X41.here hx rfl (hb hby at_53) rfl k) ?_
    by_cases hc54_6 : (0 : Int32) < p2
    · refine Go.st (S' := T41.setTop (mkF m 57 #[.val (.int p1), .val (.int p2), .val (.int (6 : Int32)), .val (.ref w_ABS), .val (.int (1 : Int32)), .val (.int (1 : Int32))] [])) (fun _ k => XS.ifNo X41.here hx rfl (hb hby at_54) rfl ((if0 _ _).trans (tlt hc54_6).2.2.2) k) ?_
      refine Go.st (S' := T41.setTop (mkF m 58 #[.val (.int p1), .val (.int p2), .val (.int (6 : Int32)), .val (.ref w_ABS), .val (.int (1 : Int32)), .val (.int (1 : Int32))] [(.ref w_ABS)])) (fun _ k => XS.aloadN X41.here hx rfl (hb hby at_57) rfl rfl k) ?_
      refine Go.st (S' := T41.setTop (mkF m 59 #[.val (.int p1), .val (.int p2), .val (.int (6 : Int32)), .val (.ref w_ABS), .val (.int (1 : Int32)), .val (.int (1 : Int32))] [(.int p2), (.ref w_ABS)])) (fun _ k => XS.iloadN X41.here hx rfl (hb hby at_58) rfl k) ?_
      obtain ⟨_, T42, L42, X42, ⟨rfl, Nq42, eq42⟩, st42⟩ := own_callV X41 hx hZ hown (ww hw 15 rfl) (ww hw 16 rfl) (notFace_of_selects (args := #[]) (mvT hZ (ww hw 18 rfl))) (ww hw 18 rfl) (ww hw 17 rfl) (ww hw 6 rfl) (ww hw 19 rfl) (by decide) eq41 (E_ABS.ext O0) (rm3 l Z a0 hw [] w_LOWER w_CONCAT w_CURRENT_DATE w_LOCATE w_ABS w_SQRT w_UPPER w_LENGTH w_CURRENT_TIMESTAMP w_MOD w_SUBSTRING hS w_ABS p2 (1 : Int32) (1 : Int32) (takF (1 : Int32) (1 : Int32) p2) rfl h0 O0 (F_ABS_fewest.ext O0) (F_ABS_most.ext O0)) 0 (by decide) (by decide) (by decide) (by decide) (g := (mkF m 59 #[.val (.int p1), .val (.int p2), .val (.int (6 : Int32)), .val (.ref w_ABS), .val (.int (1 : Int32)), .val (.int (1 : Int32))] [(.int p2), (.ref w_ABS)])) rfl (by rw [hml]; rfl) [(.int p2)] [] rfl (lenOf pd_674845 rfl) rfl (by show 2 * 0 + _ ≤ _; exact Nat.le_of_eq rfl) (hb hby at_59)
      have N42 := Fr.app N41 Nq42
      refine Go.st (S' := T42.setTop (mkF m 62 #[.val (.int p1), .val (.int p2), .val (.int (6 : Int32)), .val (.ref w_ABS), .val (.int (1 : Int32)), .val (.int (1 : Int32))] [(.int (takF (1 : Int32) (1 : Int32) p2))])) st42 ?_
      by_cases hc62_6 : (takF (1 : Int32) (1 : Int32) p2) = (0 : Int32)
      · refine Go.st (S' := T42.setTop (mkF m 72 #[.val (.int p1), .val (.int p2), .val (.int (6 : Int32)), .val (.ref w_ABS), .val (.int (1 : Int32)), .val (.int (1 : Int32))] [])) (fun _ k => XS.ifYes X42.here hx rfl (pc0 := 62) (pc' := 72) rfl (hb hby at_62) rfl ((if0 _ _).trans (teq hc62_6).1) (by decide) (by decide) k) ?_
        refine Go.st (S' := T42.setTop (mkF m 73 #[.val (.int p1), .val (.int p2), .val (.int (6 : Int32)), .val (.ref w_ABS), .val (.int (1 : Int32)), .val (.int (1 : Int32))] [(.int (1 : Int32))])) (fun _ k => XS.iconst X42.here hx rfl (hb hby at_72) k) ?_
        exact own_retN X42 hx hlk hret (by simp) (hb hby at_73) eq42 ⟨rfl, N42⟩ (by decide) (by decide)
      · refine Go.st (S' := T42.setTop (mkF m 65 #[.val (.int p1), .val (.int p2), .val (.int (6 : Int32)), .val (.ref w_ABS), .val (.int (1 : Int32)), .val (.int (1 : Int32))] [])) (fun _ k => XS.ifNo X42.here hx rfl (hb hby at_62) rfl ((if0 _ _).trans (feq hc62_6).1) k) ?_
        refine Go.st (S' := T42.setTop (mkF m 67 #[.val (.int p1), .val (.int p2), .val (.int (6 : Int32)), .val (.ref w_ABS), .val (.int (1 : Int32)), .val (.int (1 : Int32))] [(.int (1 : Int32))])) (fun _ k => XS.iload X42.here hx rfl (hb hby at_65) rfl k) ?_
        refine Go.st (S' := T42.setTop (mkF m 72 #[.val (.int p1), .val (.int p2), .val (.int (6 : Int32)), .val (.ref w_ABS), .val (.int (1 : Int32)), .val (.int (1 : Int32))] [])) (fun _ k => XS.ifYes X42.here hx rfl (pc0 := 67) (pc' := 72) rfl (hb hby at_67) rfl ((if0 _ _).trans (feq (by decide)).2) (by decide) (by decide) k) ?_
        refine Go.st (S' := T42.setTop (mkF m 73 #[.val (.int p1), .val (.int p2), .val (.int (6 : Int32)), .val (.ref w_ABS), .val (.int (1 : Int32)), .val (.int (1 : Int32))] [(.int (1 : Int32))])) (fun _ k => XS.iconst X42.here hx rfl (hb hby at_72) k) ?_
        exact own_retN X42 hx hlk hret (by simp) (hb hby at_73) eq42 ⟨rfl, N42⟩ (by decide) (by decide)
    · refine Go.st (S' := T41.setTop (mkF m 72 #[.val (.int p1), .val (.int p2), .val (.int (6 : Int32)), .val (.ref w_ABS), .val (.int (1 : Int32)), .val (.int (1 : Int32))] [])) (fun _ k => XS.ifYes X41.here hx rfl (pc0 := 54) (pc' := 72) rfl (hb hby at_54) rfl ((if0 _ _).trans (flt hc54_6).2.2.2) (by decide) (by decide) k) ?_
      refine Go.st (S' := T41.setTop (mkF m 73 #[.val (.int p1), .val (.int p2), .val (.int (6 : Int32)), .val (.ref w_ABS), .val (.int (1 : Int32)), .val (.int (1 : Int32))] [(.int (1 : Int32))])) (fun _ k => XS.iconst X41.here hx rfl (hb hby at_72) k) ?_
      exact own_retN X41 hx hlk hret (by simp) (hb hby at_73) eq41 ⟨rfl, N41⟩ (by decide) (by decide)
  · refine Go.st (S' := T0.setTop (mkF m 7 #[.val (.int p1), .val (.int p2), .unset, .unset, .unset, .unset] [(.int (7 : Int32))])) (fun _ k => by rw [hk]; exact k) ?_
    refine Go.st (S' := T0.setTop (mkF m 8 #[.val (.int p1), .val (.int p2), .val (.int (7 : Int32)), .unset, .unset, .unset] [])) (fun _ k => XS.istoreN X0.here hx rfl (hb hby at_7) rfl (l' := #[.val (.int p1), .val (.int p2), .val (.int (7 : Int32)), .unset, .unset, .unset]) rfl k) ?_
    refine Go.st (S' := T0.setTop (mkF m 9 #[.val (.int p1), .val (.int p2), .val (.int (7 : Int32)), .unset, .unset, .unset] [(.int (7 : Int32))])) (fun _ k => XS.iloadN X0.here hx rfl (hb hby at_8) rfl k) ?_
    obtain ⟨_, T43, L43, X43, ⟨⟨w43, rfl, m043, m143, m243, m343, m443, m543, m643, m743, m843, m943, m1043⟩, Nq43, eq43⟩, st43⟩ := own_callS X0 hx hZ hown (ww hw 1 rfl) (ww hw 2 rfl) (ww hw 3 rfl) (ww hw 4 rfl) (by decide) e0 (rm1 l Z a0 hw [] w_LOWER w_CONCAT w_CURRENT_DATE w_LOCATE w_ABS w_SQRT w_UPPER w_LENGTH w_CURRENT_TIMESTAMP w_MOD w_SUBSTRING hS (7 : Int32) h0 O0) 0 (by decide) (by decide) (by decide) (by decide) (g := (mkF m 9 #[.val (.int p1), .val (.int p2), .val (.int (7 : Int32)), .unset, .unset, .unset] [(.int (7 : Int32))])) rfl (by rw [hml]; rfl) [(.int (7 : Int32))] [] rfl (lenOf pd_515209 rfl) rfl (by show 2 * 0 + _ ≤ _; exact Nat.le_of_eq rfl) (hb hby at_9)
    have N43 := Fr.app N0 Nq43
    obtain rfl : w_MOD = w43 := (m743 rfl).symm
    refine Go.st (S' := T43.setTop (mkF m 12 #[.val (.int p1), .val (.int p2), .val (.int (7 : Int32)), .unset, .unset, .unset] [(.ref w_MOD)])) st43 ?_
    refine Go.st (S' := T43.setTop (mkF m 13 #[.val (.int p1), .val (.int p2), .val (.int (7 : Int32)), .val (.ref w_MOD), .unset, .unset] [])) (fun _ k => XS.astoreN X43.here hx rfl (hb hby at_12) rfl rfl (l' := #[.val (.int p1), .val (.int p2), .val (.int (7 : Int32)), .val (.ref w_MOD), .unset, .unset]) rfl k) ?_
    refine Go.st (S' := T43.setTop (mkF m 14 #[.val (.int p1), .val (.int p2), .val (.int (7 : Int32)), .val (.ref w_MOD), .unset, .unset] [(.ref w_MOD)])) (fun _ k => XS.aloadN X43.here hx rfl (hb hby at_13) rfl rfl k) ?_
    obtain ⟨_, T44, L44, X44, ⟨rfl, Nq44, eq44⟩, st44⟩ := own_callV X43 hx hZ hown (ww hw 8 rfl) (ww hw 9 rfl) (notFace_of_selects (args := #[]) (mvT hZ (ww hw 11 rfl))) (ww hw 11 rfl) (ww hw 10 rfl) (ww hw 6 rfl) (ww hw 12 rfl) (by decide) eq43 (E_MOD.ext O0) (rm2 l Z a0 hw [] w_LOWER w_CONCAT w_CURRENT_DATE w_LOCATE w_ABS w_SQRT w_UPPER w_LENGTH w_CURRENT_TIMESTAMP w_MOD w_SUBSTRING hS w_MOD (2 : Int32) (1 : Int32) (by decide) h0 O0 (F_MOD_most.ext O0)) 0 (by decide) (by decide) (by decide) (by decide) (g := (mkF m 14 #[.val (.int p1), .val (.int p2), .val (.int (7 : Int32)), .val (.ref w_MOD), .unset, .unset] [(.ref w_MOD)])) rfl (by rw [hml]; rfl) [] [] rfl (lenOf pd_428490 rfl) rfl (by show 2 * 0 + _ ≤ _; exact Nat.le_of_eq rfl) (hb hby at_14)
    have N44 := Fr.app N43 Nq44
    refine Go.st (S' := T44.setTop (mkF m 17 #[.val (.int p1), .val (.int p2), .val (.int (7 : Int32)), .val (.ref w_MOD), .unset, .unset] [(.int (1 : Int32))])) st44 ?_
    refine Go.st (S' := T44.setTop (mkF m 19 #[.val (.int p1), .val (.int p2), .val (.int (7 : Int32)), .val (.ref w_MOD), .val (.int (1 : Int32)), .unset] [])) (fun _ k => XS.istore X44.here hx rfl (hb hby at_17) rfl (l' := #[.val (.int p1), .val (.int p2), .val (.int (7 : Int32)), .val (.ref w_MOD), .val (.int (1 : Int32)), .unset]) rfl k) ?_
    refine Go.st (S' := T44.setTop (mkF m 20 #[.val (.int p1), .val (.int p2), .val (.int (7 : Int32)), .val (.ref w_MOD), .val (.int (1 : Int32)), .unset] [(.int (7 : Int32))])) (fun _ k => XS.iloadN X44.here hx rfl (hb hby at_19) rfl k) ?_
    refine Go.st (S' := T44.setTop (mkF m 22 #[.val (.int p1), .val (.int p2), .val (.int (7 : Int32)), .val (.ref w_MOD), .val (.int (1 : Int32)), .unset] [(.int (9 : Int32)), (.int (7 : Int32))])) (fun _ k => XS.bipush X44.here hx rfl (hb hby at_20) k) ?_
    refine Go.st (S' := T44.setTop (mkF m 25 #[.val (.int p1), .val (.int p2), .val (.int (7 : Int32)), .val (.ref w_MOD), .val (.int (1 : Int32)), .unset] [])) (fun _ k => XS.icmpNo X44.here hx rfl (hb hby at_22) rfl (tlt (by decide)).2.1 k) ?_
    refine Go.st (S' := T44.setTop (mkF m 26 #[.val (.int p1), .val (.int p2), .val (.int (7 : Int32)), .val (.ref w_MOD), .val (.int (1 : Int32)), .unset] [(.int (1 : Int32))])) (fun _ k => XS.iconst X44.here hx rfl (hb hby at_25) k) ?_
    refine Go.st (S' := T44.setTop (mkF m 30 #[.val (.int p1), .val (.int p2), .val (.int (7 : Int32)), .val (.ref w_MOD), .val (.int (1 : Int32)), .unset] [(.int (1 : Int32))])) (fun _ k => XS.goto X44.here hx rfl (pc0 := 26) (pc' := 30) rfl (hb hby at_26) (by decide) (by decide) k) ?_
    refine Go.st (S' := T44.setTop (mkF m 32 #[.val (.int p1), .val (.int p2), .val (.int (7 : Int32)), .val (.ref w_MOD), .val (.int (1 : Int32)), .val (.int (1 : Int32))] [])) (fun _ k => XS.istore X44.here hx rfl (hb hby at_30) rfl (l' := #[.val (.int p1), .val (.int p2), .val (.int (7 : Int32)), .val (.ref w_MOD), .val (.int (1 : Int32)), .val (.int (1 : Int32))]) rfl k) ?_
    refine Go.st (S' := T44.setTop (mkF m 34 #[.val (.int p1), .val (.int p2), .val (.int (7 : Int32)), .val (.ref w_MOD), .val (.int (1 : Int32)), .val (.int (1 : Int32))] [(.int (1 : Int32))])) (fun _ k => XS.iload X44.here hx rfl (hb hby at_32) rfl k) ?_
    refine Go.st (S' := T44.setTop (mkF m 36 #[.val (.int p1), .val (.int p2), .val (.int (7 : Int32)), .val (.ref w_MOD), .val (.int (1 : Int32)), .val (.int (1 : Int32))] [(.int (1 : Int32)), (.int (1 : Int32))])) (fun _ k => XS.iload X44.here hx rfl (hb hby at_34) rfl k) ?_
    refine Go.st (S' := T44.setTop (mkF m 41 #[.val (.int p1), .val (.int p2), .val (.int (7 : Int32)), .val (.ref w_MOD), .val (.int (1 : Int32)), .val (.int (1 : Int32))] [])) (fun _ k => XS.icmpYes X44.here hx rfl (pc0 := 36) (pc' := 41) rfl (hb hby at_36) rfl (teq (by decide)).1 (by decide) (by decide) k) ?_
    refine Go.st (S' := T44.setTop (mkF m 43 #[.val (.int p1), .val (.int p2), .val (.int (7 : Int32)), .val (.ref w_MOD), .val (.int (1 : Int32)), .val (.int (1 : Int32))] [(.int (1 : Int32))])) (fun _ k => XS.iload X44.here hx rfl (hb hby at_41) rfl k) ?_
    refine Go.st (S' := T44.setTop (mkF m 44 #[.val (.int p1), .val (.int p2), .val (.int (7 : Int32)), .val (.ref w_MOD), .val (.int (1 : Int32)), .val (.int (1 : Int32))] [(.ref w_MOD), (.int (1 : Int32))])) (fun _ k => XS.aloadN X44.here hx rfl (hb hby at_43) rfl rfl k) ?_
    refine Go.st (S' := T44.setTop (mkF m 45 #[.val (.int p1), .val (.int p2), .val (.int (7 : Int32)), .val (.ref w_MOD), .val (.int (1 : Int32)), .val (.int (1 : Int32))] [(.int (0 : Int32)), (.ref w_MOD), (.int (1 : Int32))])) (fun _ k => XS.iconst X44.here hx rfl (hb hby at_44) k) ?_
    obtain ⟨_, T45, L45, X45, ⟨rfl, Nq45, eq45⟩, st45⟩ := own_callV X44 hx hZ hown (ww hw 15 rfl) (ww hw 16 rfl) (notFace_of_selects (args := #[]) (mvT hZ (ww hw 18 rfl))) (ww hw 18 rfl) (ww hw 17 rfl) (ww hw 6 rfl) (ww hw 19 rfl) (by decide) eq44 (E_MOD.ext O0) (rm3 l Z a0 hw [] w_LOWER w_CONCAT w_CURRENT_DATE w_LOCATE w_ABS w_SQRT w_UPPER w_LENGTH w_CURRENT_TIMESTAMP w_MOD w_SUBSTRING hS w_MOD (0 : Int32) (2 : Int32) (2 : Int32) (0 : Int32) (by decide) h0 O0 (F_MOD_fewest.ext O0) (F_MOD_most.ext O0)) 1 (by decide) (by decide) (by decide) (by decide) (g := (mkF m 45 #[.val (.int p1), .val (.int p2), .val (.int (7 : Int32)), .val (.ref w_MOD), .val (.int (1 : Int32)), .val (.int (1 : Int32))] [(.int (0 : Int32)), (.ref w_MOD), (.int (1 : Int32))])) rfl (by rw [hml]; rfl) [(.int (0 : Int32))] [(.int (1 : Int32))] rfl (lenOf pd_674845 rfl) rfl (by show 2 * 0 + _ ≤ _; exact Nat.le_of_eq rfl) (hb hby at_45)
    have N45 := Fr.app N44 Nq45
    refine Go.st (S' := T45.setTop (mkF m 48 #[.val (.int p1), .val (.int p2), .val (.int (7 : Int32)), .val (.ref w_MOD), .val (.int (1 : Int32)), .val (.int (1 : Int32))] [(.int (0 : Int32)), (.int (1 : Int32))])) st45 ?_
    refine Go.st (S' := T45.setTop (mkF m 53 #[.val (.int p1), .val (.int p2), .val (.int (7 : Int32)), .val (.ref w_MOD), .val (.int (1 : Int32)), .val (.int (1 : Int32))] [])) (fun _ k => XS.icmpYes X45.here hx rfl (pc0 := 48) (pc' := 53) rfl (hb hby at_48) rfl (feq (by decide)).2 (by decide) (by decide) k) ?_
    refine Go.st (S' := T45.setTop (mkF m 54 #[.val (.int p1), .val (.int p2), .val (.int (7 : Int32)), .val (.ref w_MOD), .val (.int (1 : Int32)), .val (.int (1 : Int32))] [(.int p2)])) (fun _ k => XS.iloadN X45.here hx rfl (hb hby at_53) rfl k) ?_
    by_cases hc54_7 : (0 : Int32) < p2
    · refine Go.st (S' := T45.setTop (mkF m 57 #[.val (.int p1), .val (.int p2), .val (.int (7 : Int32)), .val (.ref w_MOD), .val (.int (1 : Int32)), .val (.int (1 : Int32))] [])) (fun _ k => XS.ifNo X45.here hx rfl (hb hby at_54) rfl ((if0 _ _).trans (tlt hc54_7).2.2.2) k) ?_
      refine Go.st (S' := T45.setTop (mkF m 58 #[.val (.int p1), .val (.int p2), .val (.int (7 : Int32)), .val (.ref w_MOD), .val (.int (1 : Int32)), .val (.int (1 : Int32))] [(.ref w_MOD)])) (fun _ k => XS.aloadN X45.here hx rfl (hb hby at_57) rfl rfl k) ?_
      refine Go.st (S' := T45.setTop (mkF m 59 #[.val (.int p1), .val (.int p2), .val (.int (7 : Int32)), .val (.ref w_MOD), .val (.int (1 : Int32)), .val (.int (1 : Int32))] [(.int p2), (.ref w_MOD)])) (fun _ k => XS.iloadN X45.here hx rfl (hb hby at_58) rfl k) ?_
      obtain ⟨_, T46, L46, X46, ⟨rfl, Nq46, eq46⟩, st46⟩ := own_callV X45 hx hZ hown (ww hw 15 rfl) (ww hw 16 rfl) (notFace_of_selects (args := #[]) (mvT hZ (ww hw 18 rfl))) (ww hw 18 rfl) (ww hw 17 rfl) (ww hw 6 rfl) (ww hw 19 rfl) (by decide) eq45 (E_MOD.ext O0) (rm3 l Z a0 hw [] w_LOWER w_CONCAT w_CURRENT_DATE w_LOCATE w_ABS w_SQRT w_UPPER w_LENGTH w_CURRENT_TIMESTAMP w_MOD w_SUBSTRING hS w_MOD p2 (2 : Int32) (2 : Int32) (takF (2 : Int32) (2 : Int32) p2) rfl h0 O0 (F_MOD_fewest.ext O0) (F_MOD_most.ext O0)) 0 (by decide) (by decide) (by decide) (by decide) (g := (mkF m 59 #[.val (.int p1), .val (.int p2), .val (.int (7 : Int32)), .val (.ref w_MOD), .val (.int (1 : Int32)), .val (.int (1 : Int32))] [(.int p2), (.ref w_MOD)])) rfl (by rw [hml]; rfl) [(.int p2)] [] rfl (lenOf pd_674845 rfl) rfl (by show 2 * 0 + _ ≤ _; exact Nat.le_of_eq rfl) (hb hby at_59)
      have N46 := Fr.app N45 Nq46
      refine Go.st (S' := T46.setTop (mkF m 62 #[.val (.int p1), .val (.int p2), .val (.int (7 : Int32)), .val (.ref w_MOD), .val (.int (1 : Int32)), .val (.int (1 : Int32))] [(.int (takF (2 : Int32) (2 : Int32) p2))])) st46 ?_
      by_cases hc62_7 : (takF (2 : Int32) (2 : Int32) p2) = (0 : Int32)
      · refine Go.st (S' := T46.setTop (mkF m 72 #[.val (.int p1), .val (.int p2), .val (.int (7 : Int32)), .val (.ref w_MOD), .val (.int (1 : Int32)), .val (.int (1 : Int32))] [])) (fun _ k => XS.ifYes X46.here hx rfl (pc0 := 62) (pc' := 72) rfl (hb hby at_62) rfl ((if0 _ _).trans (teq hc62_7).1) (by decide) (by decide) k) ?_
        refine Go.st (S' := T46.setTop (mkF m 73 #[.val (.int p1), .val (.int p2), .val (.int (7 : Int32)), .val (.ref w_MOD), .val (.int (1 : Int32)), .val (.int (1 : Int32))] [(.int (1 : Int32))])) (fun _ k => XS.iconst X46.here hx rfl (hb hby at_72) k) ?_
        exact own_retN X46 hx hlk hret (by simp) (hb hby at_73) eq46 ⟨rfl, N46⟩ (by decide) (by decide)
      · refine Go.st (S' := T46.setTop (mkF m 65 #[.val (.int p1), .val (.int p2), .val (.int (7 : Int32)), .val (.ref w_MOD), .val (.int (1 : Int32)), .val (.int (1 : Int32))] [])) (fun _ k => XS.ifNo X46.here hx rfl (hb hby at_62) rfl ((if0 _ _).trans (feq hc62_7).1) k) ?_
        refine Go.st (S' := T46.setTop (mkF m 67 #[.val (.int p1), .val (.int p2), .val (.int (7 : Int32)), .val (.ref w_MOD), .val (.int (1 : Int32)), .val (.int (1 : Int32))] [(.int (1 : Int32))])) (fun _ k => XS.iload X46.here hx rfl (hb hby at_65) rfl k) ?_
        refine Go.st (S' := T46.setTop (mkF m 72 #[.val (.int p1), .val (.int p2), .val (.int (7 : Int32)), .val (.ref w_MOD), .val (.int (1 : Int32)), .val (.int (1 : Int32))] [])) (fun _ k => XS.ifYes X46.here hx rfl (pc0 := 67) (pc' := 72) rfl (hb hby at_67) rfl ((if0 _ _).trans (feq (by decide)).2) (by decide) (by decide) k) ?_
        refine Go.st (S' := T46.setTop (mkF m 73 #[.val (.int p1), .val (.int p2), .val (.int (7 : Int32)), .val (.ref w_MOD), .val (.int (1 : Int32)), .val (.int (1 : Int32))] [(.int (1 : Int32))])) (fun _ k => XS.iconst X46.here hx rfl (hb hby at_72) k) ?_
        exact own_retN X46 hx hlk hret (by simp) (hb hby at_73) eq46 ⟨rfl, N46⟩ (by decide) (by decide)
    · refine Go.st (S' := T45.setTop (mkF m 72 #[.val (.int p1), .val (.int p2), .val (.int (7 : Int32)), .val (.ref w_MOD), .val (.int (1 : Int32)), .val (.int (1 : Int32))] [])) (fun _ k => XS.ifYes X45.here hx rfl (pc0 := 54) (pc' := 72) rfl (hb hby at_54) rfl ((if0 _ _).trans (flt hc54_7).2.2.2) (by decide) (by decide) k) ?_
      refine Go.st (S' := T45.setTop (mkF m 73 #[.val (.int p1), .val (.int p2), .val (.int (7 : Int32)), .val (.ref w_MOD), .val (.int (1 : Int32)), .val (.int (1 : Int32))] [(.int (1 : Int32))])) (fun _ k => XS.iconst X45.here hx rfl (hb hby at_72) k) ?_
      exact own_retN X45 hx hlk hret (by simp) (hb hby at_73) eq45 ⟨rfl, N45⟩ (by decide) (by decide)
  · refine Go.st (S' := T0.setTop (mkF m 7 #[.val (.int p1), .val (.int p2), .unset, .unset, .unset, .unset] [(.int (8 : Int32))])) (fun _ k => by rw [hk]; exact k) ?_
    refine Go.st (S' := T0.setTop (mkF m 8 #[.val (.int p1), .val (.int p2), .val (.int (8 : Int32)), .unset, .unset, .unset] [])) (fun _ k => XS.istoreN X0.here hx rfl (hb hby at_7) rfl (l' := #[.val (.int p1), .val (.int p2), .val (.int (8 : Int32)), .unset, .unset, .unset]) rfl k) ?_
    refine Go.st (S' := T0.setTop (mkF m 9 #[.val (.int p1), .val (.int p2), .val (.int (8 : Int32)), .unset, .unset, .unset] [(.int (8 : Int32))])) (fun _ k => XS.iloadN X0.here hx rfl (hb hby at_8) rfl k) ?_
    obtain ⟨_, T47, L47, X47, ⟨⟨w47, rfl, m047, m147, m247, m347, m447, m547, m647, m747, m847, m947, m1047⟩, Nq47, eq47⟩, st47⟩ := own_callS X0 hx hZ hown (ww hw 1 rfl) (ww hw 2 rfl) (ww hw 3 rfl) (ww hw 4 rfl) (by decide) e0 (rm1 l Z a0 hw [] w_LOWER w_CONCAT w_CURRENT_DATE w_LOCATE w_ABS w_SQRT w_UPPER w_LENGTH w_CURRENT_TIMESTAMP w_MOD w_SUBSTRING hS (8 : Int32) h0 O0) 0 (by decide) (by decide) (by decide) (by decide) (g := (mkF m 9 #[.val (.int p1), .val (.int p2), .val (.int (8 : Int32)), .unset, .unset, .unset] [(.int (8 : Int32))])) rfl (by rw [hml]; rfl) [(.int (8 : Int32))] [] rfl (lenOf pd_515209 rfl) rfl (by show 2 * 0 + _ ≤ _; exact Nat.le_of_eq rfl) (hb hby at_9)
    have N47 := Fr.app N0 Nq47
    obtain rfl : w_SQRT = w47 := (m847 rfl).symm
    refine Go.st (S' := T47.setTop (mkF m 12 #[.val (.int p1), .val (.int p2), .val (.int (8 : Int32)), .unset, .unset, .unset] [(.ref w_SQRT)])) st47 ?_
    refine Go.st (S' := T47.setTop (mkF m 13 #[.val (.int p1), .val (.int p2), .val (.int (8 : Int32)), .val (.ref w_SQRT), .unset, .unset] [])) (fun _ k => XS.astoreN X47.here hx rfl (hb hby at_12) rfl rfl (l' := #[.val (.int p1), .val (.int p2), .val (.int (8 : Int32)), .val (.ref w_SQRT), .unset, .unset]) rfl k) ?_
    refine Go.st (S' := T47.setTop (mkF m 14 #[.val (.int p1), .val (.int p2), .val (.int (8 : Int32)), .val (.ref w_SQRT), .unset, .unset] [(.ref w_SQRT)])) (fun _ k => XS.aloadN X47.here hx rfl (hb hby at_13) rfl rfl k) ?_
    obtain ⟨_, T48, L48, X48, ⟨rfl, Nq48, eq48⟩, st48⟩ := own_callV X47 hx hZ hown (ww hw 8 rfl) (ww hw 9 rfl) (notFace_of_selects (args := #[]) (mvT hZ (ww hw 11 rfl))) (ww hw 11 rfl) (ww hw 10 rfl) (ww hw 6 rfl) (ww hw 12 rfl) (by decide) eq47 (E_SQRT.ext O0) (rm2 l Z a0 hw [] w_LOWER w_CONCAT w_CURRENT_DATE w_LOCATE w_ABS w_SQRT w_UPPER w_LENGTH w_CURRENT_TIMESTAMP w_MOD w_SUBSTRING hS w_SQRT (1 : Int32) (1 : Int32) (by decide) h0 O0 (F_SQRT_most.ext O0)) 0 (by decide) (by decide) (by decide) (by decide) (g := (mkF m 14 #[.val (.int p1), .val (.int p2), .val (.int (8 : Int32)), .val (.ref w_SQRT), .unset, .unset] [(.ref w_SQRT)])) rfl (by rw [hml]; rfl) [] [] rfl (lenOf pd_428490 rfl) rfl (by show 2 * 0 + _ ≤ _; exact Nat.le_of_eq rfl) (hb hby at_14)
    have N48 := Fr.app N47 Nq48
    refine Go.st (S' := T48.setTop (mkF m 17 #[.val (.int p1), .val (.int p2), .val (.int (8 : Int32)), .val (.ref w_SQRT), .unset, .unset] [(.int (1 : Int32))])) st48 ?_
    refine Go.st (S' := T48.setTop (mkF m 19 #[.val (.int p1), .val (.int p2), .val (.int (8 : Int32)), .val (.ref w_SQRT), .val (.int (1 : Int32)), .unset] [])) (fun _ k => XS.istore X48.here hx rfl (hb hby at_17) rfl (l' := #[.val (.int p1), .val (.int p2), .val (.int (8 : Int32)), .val (.ref w_SQRT), .val (.int (1 : Int32)), .unset]) rfl k) ?_
    refine Go.st (S' := T48.setTop (mkF m 20 #[.val (.int p1), .val (.int p2), .val (.int (8 : Int32)), .val (.ref w_SQRT), .val (.int (1 : Int32)), .unset] [(.int (8 : Int32))])) (fun _ k => XS.iloadN X48.here hx rfl (hb hby at_19) rfl k) ?_
    refine Go.st (S' := T48.setTop (mkF m 22 #[.val (.int p1), .val (.int p2), .val (.int (8 : Int32)), .val (.ref w_SQRT), .val (.int (1 : Int32)), .unset] [(.int (9 : Int32)), (.int (8 : Int32))])) (fun _ k => XS.bipush X48.here hx rfl (hb hby at_20) k) ?_
    refine Go.st (S' := T48.setTop (mkF m 25 #[.val (.int p1), .val (.int p2), .val (.int (8 : Int32)), .val (.ref w_SQRT), .val (.int (1 : Int32)), .unset] [])) (fun _ k => XS.icmpNo X48.here hx rfl (hb hby at_22) rfl (tlt (by decide)).2.1 k) ?_
    refine Go.st (S' := T48.setTop (mkF m 26 #[.val (.int p1), .val (.int p2), .val (.int (8 : Int32)), .val (.ref w_SQRT), .val (.int (1 : Int32)), .unset] [(.int (1 : Int32))])) (fun _ k => XS.iconst X48.here hx rfl (hb hby at_25) k) ?_
    refine Go.st (S' := T48.setTop (mkF m 30 #[.val (.int p1), .val (.int p2), .val (.int (8 : Int32)), .val (.ref w_SQRT), .val (.int (1 : Int32)), .unset] [(.int (1 : Int32))])) (fun _ k => XS.goto X48.here hx rfl (pc0 := 26) (pc' := 30) rfl (hb hby at_26) (by decide) (by decide) k) ?_
    refine Go.st (S' := T48.setTop (mkF m 32 #[.val (.int p1), .val (.int p2), .val (.int (8 : Int32)), .val (.ref w_SQRT), .val (.int (1 : Int32)), .val (.int (1 : Int32))] [])) (fun _ k => XS.istore X48.here hx rfl (hb hby at_30) rfl (l' := #[.val (.int p1), .val (.int p2), .val (.int (8 : Int32)), .val (.ref w_SQRT), .val (.int (1 : Int32)), .val (.int (1 : Int32))]) rfl k) ?_
    refine Go.st (S' := T48.setTop (mkF m 34 #[.val (.int p1), .val (.int p2), .val (.int (8 : Int32)), .val (.ref w_SQRT), .val (.int (1 : Int32)), .val (.int (1 : Int32))] [(.int (1 : Int32))])) (fun _ k => XS.iload X48.here hx rfl (hb hby at_32) rfl k) ?_
    refine Go.st (S' := T48.setTop (mkF m 36 #[.val (.int p1), .val (.int p2), .val (.int (8 : Int32)), .val (.ref w_SQRT), .val (.int (1 : Int32)), .val (.int (1 : Int32))] [(.int (1 : Int32)), (.int (1 : Int32))])) (fun _ k => XS.iload X48.here hx rfl (hb hby at_34) rfl k) ?_
    refine Go.st (S' := T48.setTop (mkF m 41 #[.val (.int p1), .val (.int p2), .val (.int (8 : Int32)), .val (.ref w_SQRT), .val (.int (1 : Int32)), .val (.int (1 : Int32))] [])) (fun _ k => XS.icmpYes X48.here hx rfl (pc0 := 36) (pc' := 41) rfl (hb hby at_36) rfl (teq (by decide)).1 (by decide) (by decide) k) ?_
    refine Go.st (S' := T48.setTop (mkF m 43 #[.val (.int p1), .val (.int p2), .val (.int (8 : Int32)), .val (.ref w_SQRT), .val (.int (1 : Int32)), .val (.int (1 : Int32))] [(.int (1 : Int32))])) (fun _ k => XS.iload X48.here hx rfl (hb hby at_41) rfl k) ?_
    refine Go.st (S' := T48.setTop (mkF m 44 #[.val (.int p1), .val (.int p2), .val (.int (8 : Int32)), .val (.ref w_SQRT), .val (.int (1 : Int32)), .val (.int (1 : Int32))] [(.ref w_SQRT), (.int (1 : Int32))])) (fun _ k => XS.aloadN X48.here hx rfl (hb hby at_43) rfl rfl k) ?_
    refine Go.st (S' := T48.setTop (mkF m 45 #[.val (.int p1), .val (.int p2), .val (.int (8 : Int32)), .val (.ref w_SQRT), .val (.int (1 : Int32)), .val (.int (1 : Int32))] [(.int (0 : Int32)), (.ref w_SQRT), (.int (1 : Int32))])) (fun _ k => XS.iconst X48.here hx rfl (hb hby at_44) k) ?_
    obtain ⟨_, T49, L49, X49, ⟨rfl, Nq49, eq49⟩, st49⟩ := own_callV X48 hx hZ hown (ww hw 15 rfl) (ww hw 16 rfl) (notFace_of_selects (args := #[]) (mvT hZ (ww hw 18 rfl))) (ww hw 18 rfl) (ww hw 17 rfl) (ww hw 6 rfl) (ww hw 19 rfl) (by decide) eq48 (E_SQRT.ext O0) (rm3 l Z a0 hw [] w_LOWER w_CONCAT w_CURRENT_DATE w_LOCATE w_ABS w_SQRT w_UPPER w_LENGTH w_CURRENT_TIMESTAMP w_MOD w_SUBSTRING hS w_SQRT (0 : Int32) (1 : Int32) (1 : Int32) (0 : Int32) (by decide) h0 O0 (F_SQRT_fewest.ext O0) (F_SQRT_most.ext O0)) 1 (by decide) (by decide) (by decide) (by decide) (g := (mkF m 45 #[.val (.int p1), .val (.int p2), .val (.int (8 : Int32)), .val (.ref w_SQRT), .val (.int (1 : Int32)), .val (.int (1 : Int32))] [(.int (0 : Int32)), (.ref w_SQRT), (.int (1 : Int32))])) rfl (by rw [hml]; rfl) [(.int (0 : Int32))] [(.int (1 : Int32))] rfl (lenOf pd_674845 rfl) rfl (by show 2 * 0 + _ ≤ _; exact Nat.le_of_eq rfl) (hb hby at_45)
    have N49 := Fr.app N48 Nq49
    refine Go.st (S' := T49.setTop (mkF m 48 #[.val (.int p1), .val (.int p2), .val (.int (8 : Int32)), .val (.ref w_SQRT), .val (.int (1 : Int32)), .val (.int (1 : Int32))] [(.int (0 : Int32)), (.int (1 : Int32))])) st49 ?_
    refine Go.st (S' := T49.setTop (mkF m 53 #[.val (.int p1), .val (.int p2), .val (.int (8 : Int32)), .val (.ref w_SQRT), .val (.int (1 : Int32)), .val (.int (1 : Int32))] [])) (fun _ k => XS.icmpYes X49.here hx rfl (pc0 := 48) (pc' := 53) rfl (hb hby at_48) rfl (feq (by decide)).2 (by decide) (by decide) k) ?_
    refine Go.st (S' := T49.setTop (mkF m 54 #[.val (.int p1), .val (.int p2), .val (.int (8 : Int32)), .val (.ref w_SQRT), .val (.int (1 : Int32)), .val (.int (1 : Int32))] [(.int p2)])) (fun _ k => XS.iloadN X49.here hx rfl (hb hby at_53) rfl k) ?_
    by_cases hc54_8 : (0 : Int32) < p2
    · refine Go.st (S' := T49.setTop (mkF m 57 #[.val (.int p1), .val (.int p2), .val (.int (8 : Int32)), .val (.ref w_SQRT), .val (.int (1 : Int32)), .val (.int (1 : Int32))] [])) (fun _ k => XS.ifNo X49.here hx rfl (hb hby at_54) rfl ((if0 _ _).trans (tlt hc54_8).2.2.2) k) ?_
      refine Go.st (S' := T49.setTop (mkF m 58 #[.val (.int p1), .val (.int p2), .val (.int (8 : Int32)), .val (.ref w_SQRT), .val (.int (1 : Int32)), .val (.int (1 : Int32))] [(.ref w_SQRT)])) (fun _ k => XS.aloadN X49.here hx rfl (hb hby at_57) rfl rfl k) ?_
      refine Go.st (S' := T49.setTop (mkF m 59 #[.val (.int p1), .val (.int p2), .val (.int (8 : Int32)), .val (.ref w_SQRT), .val (.int (1 : Int32)), .val (.int (1 : Int32))] [(.int p2), (.ref w_SQRT)])) (fun _ k => XS.iloadN X49.here hx rfl (hb hby at_58) rfl k) ?_
      obtain ⟨_, T50, L50, X50, ⟨rfl, Nq50, eq50⟩, st50⟩ := own_callV X49 hx hZ hown (ww hw 15 rfl) (ww hw 16 rfl) (notFace_of_selects (args := #[]) (mvT hZ (ww hw 18 rfl))) (ww hw 18 rfl) (ww hw 17 rfl) (ww hw 6 rfl) (ww hw 19 rfl) (by decide) eq49 (E_SQRT.ext O0) (rm3 l Z a0 hw [] w_LOWER w_CONCAT w_CURRENT_DATE w_LOCATE w_ABS w_SQRT w_UPPER w_LENGTH w_CURRENT_TIMESTAMP w_MOD w_SUBSTRING hS w_SQRT p2 (1 : Int32) (1 : Int32) (takF (1 : Int32) (1 : Int32) p2) rfl h0 O0 (F_SQRT_fewest.ext O0) (F_SQRT_most.ext O0)) 0 (by decide) (by decide) (by decide) (by decide) (g := (mkF m 59 #[.val (.int p1), .val (.int p2), .val (.int (8 : Int32)), .val (.ref w_SQRT), .val (.int (1 : Int32)), .val (.int (1 : Int32))] [(.int p2), (.ref w_SQRT)])) rfl (by rw [hml]; rfl) [(.int p2)] [] rfl (lenOf pd_674845 rfl) rfl (by show 2 * 0 + _ ≤ _; exact Nat.le_of_eq rfl) (hb hby at_59)
      have N50 := Fr.app N49 Nq50
      refine Go.st (S' := T50.setTop (mkF m 62 #[.val (.int p1), .val (.int p2), .val (.int (8 : Int32)), .val (.ref w_SQRT), .val (.int (1 : Int32)), .val (.int (1 : Int32))] [(.int (takF (1 : Int32) (1 : Int32) p2))])) st50 ?_
      by_cases hc62_8 : (takF (1 : Int32) (1 : Int32) p2) = (0 : Int32)
      · refine Go.st (S' := T50.setTop (mkF m 72 #[.val (.int p1), .val (.int p2), .val (.int (8 : Int32)), .val (.ref w_SQRT), .val (.int (1 : Int32)), .val (.int (1 : Int32))] [])) (fun _ k => XS.ifYes X50.here hx rfl (pc0 := 62) (pc' := 72) rfl (hb hby at_62) rfl ((if0 _ _).trans (teq hc62_8).1) (by decide) (by decide) k) ?_
        refine Go.st (S' := T50.setTop (mkF m 73 #[.val (.int p1), .val (.int p2), .val (.int (8 : Int32)), .val (.ref w_SQRT), .val (.int (1 : Int32)), .val (.int (1 : Int32))] [(.int (1 : Int32))])) (fun _ k => XS.iconst X50.here hx rfl (hb hby at_72) k) ?_
        exact own_retN X50 hx hlk hret (by simp) (hb hby at_73) eq50 ⟨rfl, N50⟩ (by decide) (by decide)
      · refine Go.st (S' := T50.setTop (mkF m 65 #[.val (.int p1), .val (.int p2), .val (.int (8 : Int32)), .val (.ref w_SQRT), .val (.int (1 : Int32)), .val (.int (1 : Int32))] [])) (fun _ k => XS.ifNo X50.here hx rfl (hb hby at_62) rfl ((if0 _ _).trans (feq hc62_8).1) k) ?_
        refine Go.st (S' := T50.setTop (mkF m 67 #[.val (.int p1), .val (.int p2), .val (.int (8 : Int32)), .val (.ref w_SQRT), .val (.int (1 : Int32)), .val (.int (1 : Int32))] [(.int (1 : Int32))])) (fun _ k => XS.iload X50.here hx rfl (hb hby at_65) rfl k) ?_
        refine Go.st (S' := T50.setTop (mkF m 72 #[.val (.int p1), .val (.int p2), .val (.int (8 : Int32)), .val (.ref w_SQRT), .val (.int (1 : Int32)), .val (.int (1 : Int32))] [])) (fun _ k => XS.ifYes X50.here hx rfl (pc0 := 67) (pc' := 72) rfl (hb hby at_67) rfl ((if0 _ _).trans (feq (by decide)).2) (by decide) (by decide) k) ?_
        refine Go.st (S' := T50.setTop (mkF m 73 #[.val (.int p1), .val (.int p2), .val (.int (8 : Int32)), .val (.ref w_SQRT), .val (.int (1 : Int32)), .val (.int (1 : Int32))] [(.int (1 : Int32))])) (fun _ k => XS.iconst X50.here hx rfl (hb hby at_72) k) ?_
        exact own_retN X50 hx hlk hret (by simp) (hb hby at_73) eq50 ⟨rfl, N50⟩ (by decide) (by decide)
    · refine Go.st (S' := T49.setTop (mkF m 72 #[.val (.int p1), .val (.int p2), .val (.int (8 : Int32)), .val (.ref w_SQRT), .val (.int (1 : Int32)), .val (.int (1 : Int32))] [])) (fun _ k => XS.ifYes X49.here hx rfl (pc0 := 54) (pc' := 72) rfl (hb hby at_54) rfl ((if0 _ _).trans (flt hc54_8).2.2.2) (by decide) (by decide) k) ?_
      refine Go.st (S' := T49.setTop (mkF m 73 #[.val (.int p1), .val (.int p2), .val (.int (8 : Int32)), .val (.ref w_SQRT), .val (.int (1 : Int32)), .val (.int (1 : Int32))] [(.int (1 : Int32))])) (fun _ k => XS.iconst X49.here hx rfl (hb hby at_72) k) ?_
      exact own_retN X49 hx hlk hret (by simp) (hb hby at_73) eq49 ⟨rfl, N49⟩ (by decide) (by decide)
  · refine Go.st (S' := T0.setTop (mkF m 7 #[.val (.int p1), .val (.int p2), .unset, .unset, .unset, .unset] [(.int (9 : Int32))])) (fun _ k => by rw [hk]; exact k) ?_
    refine Go.st (S' := T0.setTop (mkF m 8 #[.val (.int p1), .val (.int p2), .val (.int (9 : Int32)), .unset, .unset, .unset] [])) (fun _ k => XS.istoreN X0.here hx rfl (hb hby at_7) rfl (l' := #[.val (.int p1), .val (.int p2), .val (.int (9 : Int32)), .unset, .unset, .unset]) rfl k) ?_
    refine Go.st (S' := T0.setTop (mkF m 9 #[.val (.int p1), .val (.int p2), .val (.int (9 : Int32)), .unset, .unset, .unset] [(.int (9 : Int32))])) (fun _ k => XS.iloadN X0.here hx rfl (hb hby at_8) rfl k) ?_
    obtain ⟨_, T51, L51, X51, ⟨⟨w51, rfl, m051, m151, m251, m351, m451, m551, m651, m751, m851, m951, m1051⟩, Nq51, eq51⟩, st51⟩ := own_callS X0 hx hZ hown (ww hw 1 rfl) (ww hw 2 rfl) (ww hw 3 rfl) (ww hw 4 rfl) (by decide) e0 (rm1 l Z a0 hw [] w_LOWER w_CONCAT w_CURRENT_DATE w_LOCATE w_ABS w_SQRT w_UPPER w_LENGTH w_CURRENT_TIMESTAMP w_MOD w_SUBSTRING hS (9 : Int32) h0 O0) 0 (by decide) (by decide) (by decide) (by decide) (g := (mkF m 9 #[.val (.int p1), .val (.int p2), .val (.int (9 : Int32)), .unset, .unset, .unset] [(.int (9 : Int32))])) rfl (by rw [hml]; rfl) [(.int (9 : Int32))] [] rfl (lenOf pd_515209 rfl) rfl (by show 2 * 0 + _ ≤ _; exact Nat.le_of_eq rfl) (hb hby at_9)
    have N51 := Fr.app N0 Nq51
    obtain rfl : w_CURRENT_DATE = w51 := (m951 rfl).symm
    refine Go.st (S' := T51.setTop (mkF m 12 #[.val (.int p1), .val (.int p2), .val (.int (9 : Int32)), .unset, .unset, .unset] [(.ref w_CURRENT_DATE)])) st51 ?_
    refine Go.st (S' := T51.setTop (mkF m 13 #[.val (.int p1), .val (.int p2), .val (.int (9 : Int32)), .val (.ref w_CURRENT_DATE), .unset, .unset] [])) (fun _ k => XS.astoreN X51.here hx rfl (hb hby at_12) rfl rfl (l' := #[.val (.int p1), .val (.int p2), .val (.int (9 : Int32)), .val (.ref w_CURRENT_DATE), .unset, .unset]) rfl k) ?_
    refine Go.st (S' := T51.setTop (mkF m 14 #[.val (.int p1), .val (.int p2), .val (.int (9 : Int32)), .val (.ref w_CURRENT_DATE), .unset, .unset] [(.ref w_CURRENT_DATE)])) (fun _ k => XS.aloadN X51.here hx rfl (hb hby at_13) rfl rfl k) ?_
    obtain ⟨_, T52, L52, X52, ⟨rfl, Nq52, eq52⟩, st52⟩ := own_callV X51 hx hZ hown (ww hw 8 rfl) (ww hw 9 rfl) (notFace_of_selects (args := #[]) (mvT hZ (ww hw 11 rfl))) (ww hw 11 rfl) (ww hw 10 rfl) (ww hw 6 rfl) (ww hw 12 rfl) (by decide) eq51 (E_CURRENT_DATE.ext O0) (rm2 l Z a0 hw [] w_LOWER w_CONCAT w_CURRENT_DATE w_LOCATE w_ABS w_SQRT w_UPPER w_LENGTH w_CURRENT_TIMESTAMP w_MOD w_SUBSTRING hS w_CURRENT_DATE (0 : Int32) (0 : Int32) (by decide) h0 O0 (F_CURRENT_DATE_most.ext O0)) 0 (by decide) (by decide) (by decide) (by decide) (g := (mkF m 14 #[.val (.int p1), .val (.int p2), .val (.int (9 : Int32)), .val (.ref w_CURRENT_DATE), .unset, .unset] [(.ref w_CURRENT_DATE)])) rfl (by rw [hml]; rfl) [] [] rfl (lenOf pd_428490 rfl) rfl (by show 2 * 0 + _ ≤ _; exact Nat.le_of_eq rfl) (hb hby at_14)
    have N52 := Fr.app N51 Nq52
    refine Go.st (S' := T52.setTop (mkF m 17 #[.val (.int p1), .val (.int p2), .val (.int (9 : Int32)), .val (.ref w_CURRENT_DATE), .unset, .unset] [(.int (0 : Int32))])) st52 ?_
    refine Go.st (S' := T52.setTop (mkF m 19 #[.val (.int p1), .val (.int p2), .val (.int (9 : Int32)), .val (.ref w_CURRENT_DATE), .val (.int (0 : Int32)), .unset] [])) (fun _ k => XS.istore X52.here hx rfl (hb hby at_17) rfl (l' := #[.val (.int p1), .val (.int p2), .val (.int (9 : Int32)), .val (.ref w_CURRENT_DATE), .val (.int (0 : Int32)), .unset]) rfl k) ?_
    refine Go.st (S' := T52.setTop (mkF m 20 #[.val (.int p1), .val (.int p2), .val (.int (9 : Int32)), .val (.ref w_CURRENT_DATE), .val (.int (0 : Int32)), .unset] [(.int (9 : Int32))])) (fun _ k => XS.iloadN X52.here hx rfl (hb hby at_19) rfl k) ?_
    refine Go.st (S' := T52.setTop (mkF m 22 #[.val (.int p1), .val (.int p2), .val (.int (9 : Int32)), .val (.ref w_CURRENT_DATE), .val (.int (0 : Int32)), .unset] [(.int (9 : Int32)), (.int (9 : Int32))])) (fun _ k => XS.bipush X52.here hx rfl (hb hby at_20) k) ?_
    refine Go.st (S' := T52.setTop (mkF m 29 #[.val (.int p1), .val (.int p2), .val (.int (9 : Int32)), .val (.ref w_CURRENT_DATE), .val (.int (0 : Int32)), .unset] [])) (fun _ k => XS.icmpYes X52.here hx rfl (pc0 := 22) (pc' := 29) rfl (hb hby at_22) rfl (flt (by decide)).2.1 (by decide) (by decide) k) ?_
    refine Go.st (S' := T52.setTop (mkF m 30 #[.val (.int p1), .val (.int p2), .val (.int (9 : Int32)), .val (.ref w_CURRENT_DATE), .val (.int (0 : Int32)), .unset] [(.int (0 : Int32))])) (fun _ k => XS.iconst X52.here hx rfl (hb hby at_29) k) ?_
    refine Go.st (S' := T52.setTop (mkF m 32 #[.val (.int p1), .val (.int p2), .val (.int (9 : Int32)), .val (.ref w_CURRENT_DATE), .val (.int (0 : Int32)), .val (.int (0 : Int32))] [])) (fun _ k => XS.istore X52.here hx rfl (hb hby at_30) rfl (l' := #[.val (.int p1), .val (.int p2), .val (.int (9 : Int32)), .val (.ref w_CURRENT_DATE), .val (.int (0 : Int32)), .val (.int (0 : Int32))]) rfl k) ?_
    refine Go.st (S' := T52.setTop (mkF m 34 #[.val (.int p1), .val (.int p2), .val (.int (9 : Int32)), .val (.ref w_CURRENT_DATE), .val (.int (0 : Int32)), .val (.int (0 : Int32))] [(.int (0 : Int32))])) (fun _ k => XS.iload X52.here hx rfl (hb hby at_32) rfl k) ?_
    refine Go.st (S' := T52.setTop (mkF m 36 #[.val (.int p1), .val (.int p2), .val (.int (9 : Int32)), .val (.ref w_CURRENT_DATE), .val (.int (0 : Int32)), .val (.int (0 : Int32))] [(.int (0 : Int32)), (.int (0 : Int32))])) (fun _ k => XS.iload X52.here hx rfl (hb hby at_34) rfl k) ?_
    refine Go.st (S' := T52.setTop (mkF m 41 #[.val (.int p1), .val (.int p2), .val (.int (9 : Int32)), .val (.ref w_CURRENT_DATE), .val (.int (0 : Int32)), .val (.int (0 : Int32))] [])) (fun _ k => XS.icmpYes X52.here hx rfl (pc0 := 36) (pc' := 41) rfl (hb hby at_36) rfl (teq (by decide)).1 (by decide) (by decide) k) ?_
    refine Go.st (S' := T52.setTop (mkF m 43 #[.val (.int p1), .val (.int p2), .val (.int (9 : Int32)), .val (.ref w_CURRENT_DATE), .val (.int (0 : Int32)), .val (.int (0 : Int32))] [(.int (0 : Int32))])) (fun _ k => XS.iload X52.here hx rfl (hb hby at_41) rfl k) ?_
    refine Go.st (S' := T52.setTop (mkF m 44 #[.val (.int p1), .val (.int p2), .val (.int (9 : Int32)), .val (.ref w_CURRENT_DATE), .val (.int (0 : Int32)), .val (.int (0 : Int32))] [(.ref w_CURRENT_DATE), (.int (0 : Int32))])) (fun _ k => XS.aloadN X52.here hx rfl (hb hby at_43) rfl rfl k) ?_
    refine Go.st (S' := T52.setTop (mkF m 45 #[.val (.int p1), .val (.int p2), .val (.int (9 : Int32)), .val (.ref w_CURRENT_DATE), .val (.int (0 : Int32)), .val (.int (0 : Int32))] [(.int (0 : Int32)), (.ref w_CURRENT_DATE), (.int (0 : Int32))])) (fun _ k => XS.iconst X52.here hx rfl (hb hby at_44) k) ?_
    obtain ⟨_, T53, L53, X53, ⟨rfl, Nq53, eq53⟩, st53⟩ := own_callV X52 hx hZ hown (ww hw 15 rfl) (ww hw 16 rfl) (notFace_of_selects (args := #[]) (mvT hZ (ww hw 18 rfl))) (ww hw 18 rfl) (ww hw 17 rfl) (ww hw 6 rfl) (ww hw 19 rfl) (by decide) eq52 (E_CURRENT_DATE.ext O0) (rm3 l Z a0 hw [] w_LOWER w_CONCAT w_CURRENT_DATE w_LOCATE w_ABS w_SQRT w_UPPER w_LENGTH w_CURRENT_TIMESTAMP w_MOD w_SUBSTRING hS w_CURRENT_DATE (0 : Int32) (0 : Int32) (0 : Int32) (1 : Int32) (by decide) h0 O0 (F_CURRENT_DATE_fewest.ext O0) (F_CURRENT_DATE_most.ext O0)) 1 (by decide) (by decide) (by decide) (by decide) (g := (mkF m 45 #[.val (.int p1), .val (.int p2), .val (.int (9 : Int32)), .val (.ref w_CURRENT_DATE), .val (.int (0 : Int32)), .val (.int (0 : Int32))] [(.int (0 : Int32)), (.ref w_CURRENT_DATE), (.int (0 : Int32))])) rfl (by rw [hml]; rfl) [(.int (0 : Int32))] [(.int (0 : Int32))] rfl (lenOf pd_674845 rfl) rfl (by show 2 * 0 + _ ≤ _; exact Nat.le_of_eq rfl) (hb hby at_45)
    have N53 := Fr.app N52 Nq53
    refine Go.st (S' := T53.setTop (mkF m 48 #[.val (.int p1), .val (.int p2), .val (.int (9 : Int32)), .val (.ref w_CURRENT_DATE), .val (.int (0 : Int32)), .val (.int (0 : Int32))] [(.int (1 : Int32)), (.int (0 : Int32))])) st53 ?_
    refine Go.st (S' := T53.setTop (mkF m 53 #[.val (.int p1), .val (.int p2), .val (.int (9 : Int32)), .val (.ref w_CURRENT_DATE), .val (.int (0 : Int32)), .val (.int (0 : Int32))] [])) (fun _ k => XS.icmpYes X53.here hx rfl (pc0 := 48) (pc' := 53) rfl (hb hby at_48) rfl (feq (by decide)).2 (by decide) (by decide) k) ?_
    refine Go.st (S' := T53.setTop (mkF m 54 #[.val (.int p1), .val (.int p2), .val (.int (9 : Int32)), .val (.ref w_CURRENT_DATE), .val (.int (0 : Int32)), .val (.int (0 : Int32))] [(.int p2)])) (fun _ k => XS.iloadN X53.here hx rfl (hb hby at_53) rfl k) ?_
    by_cases hc54_9 : (0 : Int32) < p2
    · refine Go.st (S' := T53.setTop (mkF m 57 #[.val (.int p1), .val (.int p2), .val (.int (9 : Int32)), .val (.ref w_CURRENT_DATE), .val (.int (0 : Int32)), .val (.int (0 : Int32))] [])) (fun _ k => XS.ifNo X53.here hx rfl (hb hby at_54) rfl ((if0 _ _).trans (tlt hc54_9).2.2.2) k) ?_
      refine Go.st (S' := T53.setTop (mkF m 58 #[.val (.int p1), .val (.int p2), .val (.int (9 : Int32)), .val (.ref w_CURRENT_DATE), .val (.int (0 : Int32)), .val (.int (0 : Int32))] [(.ref w_CURRENT_DATE)])) (fun _ k => XS.aloadN X53.here hx rfl (hb hby at_57) rfl rfl k) ?_
      refine Go.st (S' := T53.setTop (mkF m 59 #[.val (.int p1), .val (.int p2), .val (.int (9 : Int32)), .val (.ref w_CURRENT_DATE), .val (.int (0 : Int32)), .val (.int (0 : Int32))] [(.int p2), (.ref w_CURRENT_DATE)])) (fun _ k => XS.iloadN X53.here hx rfl (hb hby at_58) rfl k) ?_
      obtain ⟨_, T54, L54, X54, ⟨rfl, Nq54, eq54⟩, st54⟩ := own_callV X53 hx hZ hown (ww hw 15 rfl) (ww hw 16 rfl) (notFace_of_selects (args := #[]) (mvT hZ (ww hw 18 rfl))) (ww hw 18 rfl) (ww hw 17 rfl) (ww hw 6 rfl) (ww hw 19 rfl) (by decide) eq53 (E_CURRENT_DATE.ext O0) (rm3 l Z a0 hw [] w_LOWER w_CONCAT w_CURRENT_DATE w_LOCATE w_ABS w_SQRT w_UPPER w_LENGTH w_CURRENT_TIMESTAMP w_MOD w_SUBSTRING hS w_CURRENT_DATE p2 (0 : Int32) (0 : Int32) (0 : Int32) (by simp only [takF]; rw [if_pos (show (0 : Int32) < p2 from hc54_9), ite_self]) h0 O0 (F_CURRENT_DATE_fewest.ext O0) (F_CURRENT_DATE_most.ext O0)) 0 (by decide) (by decide) (by decide) (by decide) (g := (mkF m 59 #[.val (.int p1), .val (.int p2), .val (.int (9 : Int32)), .val (.ref w_CURRENT_DATE), .val (.int (0 : Int32)), .val (.int (0 : Int32))] [(.int p2), (.ref w_CURRENT_DATE)])) rfl (by rw [hml]; rfl) [(.int p2)] [] rfl (lenOf pd_674845 rfl) rfl (by show 2 * 0 + _ ≤ _; exact Nat.le_of_eq rfl) (hb hby at_59)
      have N54 := Fr.app N53 Nq54
      refine Go.st (S' := T54.setTop (mkF m 62 #[.val (.int p1), .val (.int p2), .val (.int (9 : Int32)), .val (.ref w_CURRENT_DATE), .val (.int (0 : Int32)), .val (.int (0 : Int32))] [(.int (0 : Int32))])) st54 ?_
      refine Go.st (S' := T54.setTop (mkF m 72 #[.val (.int p1), .val (.int p2), .val (.int (9 : Int32)), .val (.ref w_CURRENT_DATE), .val (.int (0 : Int32)), .val (.int (0 : Int32))] [])) (fun _ k => XS.ifYes X54.here hx rfl (pc0 := 62) (pc' := 72) rfl (hb hby at_62) rfl ((if0 _ _).trans (teq (by decide)).1) (by decide) (by decide) k) ?_
      refine Go.st (S' := T54.setTop (mkF m 73 #[.val (.int p1), .val (.int p2), .val (.int (9 : Int32)), .val (.ref w_CURRENT_DATE), .val (.int (0 : Int32)), .val (.int (0 : Int32))] [(.int (1 : Int32))])) (fun _ k => XS.iconst X54.here hx rfl (hb hby at_72) k) ?_
      exact own_retN X54 hx hlk hret (by simp) (hb hby at_73) eq54 ⟨rfl, N54⟩ (by decide) (by decide)
    · refine Go.st (S' := T53.setTop (mkF m 72 #[.val (.int p1), .val (.int p2), .val (.int (9 : Int32)), .val (.ref w_CURRENT_DATE), .val (.int (0 : Int32)), .val (.int (0 : Int32))] [])) (fun _ k => XS.ifYes X53.here hx rfl (pc0 := 54) (pc' := 72) rfl (hb hby at_54) rfl ((if0 _ _).trans (flt hc54_9).2.2.2) (by decide) (by decide) k) ?_
      refine Go.st (S' := T53.setTop (mkF m 73 #[.val (.int p1), .val (.int p2), .val (.int (9 : Int32)), .val (.ref w_CURRENT_DATE), .val (.int (0 : Int32)), .val (.int (0 : Int32))] [(.int (1 : Int32))])) (fun _ k => XS.iconst X53.here hx rfl (hb hby at_72) k) ?_
      exact own_retN X53 hx hlk hret (by simp) (hb hby at_73) eq53 ⟨rfl, N53⟩ (by decide) (by decide)
  · refine Go.st (S' := T0.setTop (mkF m 7 #[.val (.int p1), .val (.int p2), .unset, .unset, .unset, .unset] [(.int (10 : Int32))])) (fun _ k => by rw [hk]; exact k) ?_
    refine Go.st (S' := T0.setTop (mkF m 8 #[.val (.int p1), .val (.int p2), .val (.int (10 : Int32)), .unset, .unset, .unset] [])) (fun _ k => XS.istoreN X0.here hx rfl (hb hby at_7) rfl (l' := #[.val (.int p1), .val (.int p2), .val (.int (10 : Int32)), .unset, .unset, .unset]) rfl k) ?_
    refine Go.st (S' := T0.setTop (mkF m 9 #[.val (.int p1), .val (.int p2), .val (.int (10 : Int32)), .unset, .unset, .unset] [(.int (10 : Int32))])) (fun _ k => XS.iloadN X0.here hx rfl (hb hby at_8) rfl k) ?_
    obtain ⟨_, T55, L55, X55, ⟨⟨w55, rfl, m055, m155, m255, m355, m455, m555, m655, m755, m855, m955, m1055⟩, Nq55, eq55⟩, st55⟩ := own_callS X0 hx hZ hown (ww hw 1 rfl) (ww hw 2 rfl) (ww hw 3 rfl) (ww hw 4 rfl) (by decide) e0 (rm1 l Z a0 hw [] w_LOWER w_CONCAT w_CURRENT_DATE w_LOCATE w_ABS w_SQRT w_UPPER w_LENGTH w_CURRENT_TIMESTAMP w_MOD w_SUBSTRING hS (10 : Int32) h0 O0) 0 (by decide) (by decide) (by decide) (by decide) (g := (mkF m 9 #[.val (.int p1), .val (.int p2), .val (.int (10 : Int32)), .unset, .unset, .unset] [(.int (10 : Int32))])) rfl (by rw [hml]; rfl) [(.int (10 : Int32))] [] rfl (lenOf pd_515209 rfl) rfl (by show 2 * 0 + _ ≤ _; exact Nat.le_of_eq rfl) (hb hby at_9)
    have N55 := Fr.app N0 Nq55
    obtain rfl : w_CURRENT_TIMESTAMP = w55 := (m1055 rfl).symm
    refine Go.st (S' := T55.setTop (mkF m 12 #[.val (.int p1), .val (.int p2), .val (.int (10 : Int32)), .unset, .unset, .unset] [(.ref w_CURRENT_TIMESTAMP)])) st55 ?_
    refine Go.st (S' := T55.setTop (mkF m 13 #[.val (.int p1), .val (.int p2), .val (.int (10 : Int32)), .val (.ref w_CURRENT_TIMESTAMP), .unset, .unset] [])) (fun _ k => XS.astoreN X55.here hx rfl (hb hby at_12) rfl rfl (l' := #[.val (.int p1), .val (.int p2), .val (.int (10 : Int32)), .val (.ref w_CURRENT_TIMESTAMP), .unset, .unset]) rfl k) ?_
    refine Go.st (S' := T55.setTop (mkF m 14 #[.val (.int p1), .val (.int p2), .val (.int (10 : Int32)), .val (.ref w_CURRENT_TIMESTAMP), .unset, .unset] [(.ref w_CURRENT_TIMESTAMP)])) (fun _ k => XS.aloadN X55.here hx rfl (hb hby at_13) rfl rfl k) ?_
    obtain ⟨_, T56, L56, X56, ⟨rfl, Nq56, eq56⟩, st56⟩ := own_callV X55 hx hZ hown (ww hw 8 rfl) (ww hw 9 rfl) (notFace_of_selects (args := #[]) (mvT hZ (ww hw 11 rfl))) (ww hw 11 rfl) (ww hw 10 rfl) (ww hw 6 rfl) (ww hw 12 rfl) (by decide) eq55 (E_CURRENT_TIMESTAMP.ext O0) (rm2 l Z a0 hw [] w_LOWER w_CONCAT w_CURRENT_DATE w_LOCATE w_ABS w_SQRT w_UPPER w_LENGTH w_CURRENT_TIMESTAMP w_MOD w_SUBSTRING hS w_CURRENT_TIMESTAMP (0 : Int32) (0 : Int32) (by decide) h0 O0 (F_CURRENT_TIMESTAMP_most.ext O0)) 0 (by decide) (by decide) (by decide) (by decide) (g := (mkF m 14 #[.val (.int p1), .val (.int p2), .val (.int (10 : Int32)), .val (.ref w_CURRENT_TIMESTAMP), .unset, .unset] [(.ref w_CURRENT_TIMESTAMP)])) rfl (by rw [hml]; rfl) [] [] rfl (lenOf pd_428490 rfl) rfl (by show 2 * 0 + _ ≤ _; exact Nat.le_of_eq rfl) (hb hby at_14)
    have N56 := Fr.app N55 Nq56
    refine Go.st (S' := T56.setTop (mkF m 17 #[.val (.int p1), .val (.int p2), .val (.int (10 : Int32)), .val (.ref w_CURRENT_TIMESTAMP), .unset, .unset] [(.int (0 : Int32))])) st56 ?_
    refine Go.st (S' := T56.setTop (mkF m 19 #[.val (.int p1), .val (.int p2), .val (.int (10 : Int32)), .val (.ref w_CURRENT_TIMESTAMP), .val (.int (0 : Int32)), .unset] [])) (fun _ k => XS.istore X56.here hx rfl (hb hby at_17) rfl (l' := #[.val (.int p1), .val (.int p2), .val (.int (10 : Int32)), .val (.ref w_CURRENT_TIMESTAMP), .val (.int (0 : Int32)), .unset]) rfl k) ?_
    refine Go.st (S' := T56.setTop (mkF m 20 #[.val (.int p1), .val (.int p2), .val (.int (10 : Int32)), .val (.ref w_CURRENT_TIMESTAMP), .val (.int (0 : Int32)), .unset] [(.int (10 : Int32))])) (fun _ k => XS.iloadN X56.here hx rfl (hb hby at_19) rfl k) ?_
    refine Go.st (S' := T56.setTop (mkF m 22 #[.val (.int p1), .val (.int p2), .val (.int (10 : Int32)), .val (.ref w_CURRENT_TIMESTAMP), .val (.int (0 : Int32)), .unset] [(.int (9 : Int32)), (.int (10 : Int32))])) (fun _ k => XS.bipush X56.here hx rfl (hb hby at_20) k) ?_
    refine Go.st (S' := T56.setTop (mkF m 29 #[.val (.int p1), .val (.int p2), .val (.int (10 : Int32)), .val (.ref w_CURRENT_TIMESTAMP), .val (.int (0 : Int32)), .unset] [])) (fun _ k => XS.icmpYes X56.here hx rfl (pc0 := 22) (pc' := 29) rfl (hb hby at_22) rfl (flt (by decide)).2.1 (by decide) (by decide) k) ?_
    refine Go.st (S' := T56.setTop (mkF m 30 #[.val (.int p1), .val (.int p2), .val (.int (10 : Int32)), .val (.ref w_CURRENT_TIMESTAMP), .val (.int (0 : Int32)), .unset] [(.int (0 : Int32))])) (fun _ k => XS.iconst X56.here hx rfl (hb hby at_29) k) ?_
    refine Go.st (S' := T56.setTop (mkF m 32 #[.val (.int p1), .val (.int p2), .val (.int (10 : Int32)), .val (.ref w_CURRENT_TIMESTAMP), .val (.int (0 : Int32)), .val (.int (0 : Int32))] [])) (fun _ k => XS.istore X56.here hx rfl (hb hby at_30) rfl (l' := #[.val (.int p1), .val (.int p2), .val (.int (10 : Int32)), .val (.ref w_CURRENT_TIMESTAMP), .val (.int (0 : Int32)), .val (.int (0 : Int32))]) rfl k) ?_
    refine Go.st (S' := T56.setTop (mkF m 34 #[.val (.int p1), .val (.int p2), .val (.int (10 : Int32)), .val (.ref w_CURRENT_TIMESTAMP), .val (.int (0 : Int32)), .val (.int (0 : Int32))] [(.int (0 : Int32))])) (fun _ k => XS.iload X56.here hx rfl (hb hby at_32) rfl k) ?_
    refine Go.st (S' := T56.setTop (mkF m 36 #[.val (.int p1), .val (.int p2), .val (.int (10 : Int32)), .val (.ref w_CURRENT_TIMESTAMP), .val (.int (0 : Int32)), .val (.int (0 : Int32))] [(.int (0 : Int32)), (.int (0 : Int32))])) (fun _ k => XS.iload X56.here hx rfl (hb hby at_34) rfl k) ?_
    refine Go.st (S' := T56.setTop (mkF m 41 #[.val (.int p1), .val (.int p2), .val (.int (10 : Int32)), .val (.ref w_CURRENT_TIMESTAMP), .val (.int (0 : Int32)), .val (.int (0 : Int32))] [])) (fun _ k => XS.icmpYes X56.here hx rfl (pc0 := 36) (pc' := 41) rfl (hb hby at_36) rfl (teq (by decide)).1 (by decide) (by decide) k) ?_
    refine Go.st (S' := T56.setTop (mkF m 43 #[.val (.int p1), .val (.int p2), .val (.int (10 : Int32)), .val (.ref w_CURRENT_TIMESTAMP), .val (.int (0 : Int32)), .val (.int (0 : Int32))] [(.int (0 : Int32))])) (fun _ k => XS.iload X56.here hx rfl (hb hby at_41) rfl k) ?_
    refine Go.st (S' := T56.setTop (mkF m 44 #[.val (.int p1), .val (.int p2), .val (.int (10 : Int32)), .val (.ref w_CURRENT_TIMESTAMP), .val (.int (0 : Int32)), .val (.int (0 : Int32))] [(.ref w_CURRENT_TIMESTAMP), (.int (0 : Int32))])) (fun _ k => XS.aloadN X56.here hx rfl (hb hby at_43) rfl rfl k) ?_
    refine Go.st (S' := T56.setTop (mkF m 45 #[.val (.int p1), .val (.int p2), .val (.int (10 : Int32)), .val (.ref w_CURRENT_TIMESTAMP), .val (.int (0 : Int32)), .val (.int (0 : Int32))] [(.int (0 : Int32)), (.ref w_CURRENT_TIMESTAMP), (.int (0 : Int32))])) (fun _ k => XS.iconst X56.here hx rfl (hb hby at_44) k) ?_
    obtain ⟨_, T57, L57, X57, ⟨rfl, Nq57, eq57⟩, st57⟩ := own_callV X56 hx hZ hown (ww hw 15 rfl) (ww hw 16 rfl) (notFace_of_selects (args := #[]) (mvT hZ (ww hw 18 rfl))) (ww hw 18 rfl) (ww hw 17 rfl) (ww hw 6 rfl) (ww hw 19 rfl) (by decide) eq56 (E_CURRENT_TIMESTAMP.ext O0) (rm3 l Z a0 hw [] w_LOWER w_CONCAT w_CURRENT_DATE w_LOCATE w_ABS w_SQRT w_UPPER w_LENGTH w_CURRENT_TIMESTAMP w_MOD w_SUBSTRING hS w_CURRENT_TIMESTAMP (0 : Int32) (0 : Int32) (0 : Int32) (1 : Int32) (by decide) h0 O0 (F_CURRENT_TIMESTAMP_fewest.ext O0) (F_CURRENT_TIMESTAMP_most.ext O0)) 1 (by decide) (by decide) (by decide) (by decide) (g := (mkF m 45 #[.val (.int p1), .val (.int p2), .val (.int (10 : Int32)), .val (.ref w_CURRENT_TIMESTAMP), .val (.int (0 : Int32)), .val (.int (0 : Int32))] [(.int (0 : Int32)), (.ref w_CURRENT_TIMESTAMP), (.int (0 : Int32))])) rfl (by rw [hml]; rfl) [(.int (0 : Int32))] [(.int (0 : Int32))] rfl (lenOf pd_674845 rfl) rfl (by show 2 * 0 + _ ≤ _; exact Nat.le_of_eq rfl) (hb hby at_45)
    have N57 := Fr.app N56 Nq57
    refine Go.st (S' := T57.setTop (mkF m 48 #[.val (.int p1), .val (.int p2), .val (.int (10 : Int32)), .val (.ref w_CURRENT_TIMESTAMP), .val (.int (0 : Int32)), .val (.int (0 : Int32))] [(.int (1 : Int32)), (.int (0 : Int32))])) st57 ?_
    refine Go.st (S' := T57.setTop (mkF m 53 #[.val (.int p1), .val (.int p2), .val (.int (10 : Int32)), .val (.ref w_CURRENT_TIMESTAMP), .val (.int (0 : Int32)), .val (.int (0 : Int32))] [])) (fun _ k => XS.icmpYes X57.here hx rfl (pc0 := 48) (pc' := 53) rfl (hb hby at_48) rfl (feq (by decide)).2 (by decide) (by decide) k) ?_
    refine Go.st (S' := T57.setTop (mkF m 54 #[.val (.int p1), .val (.int p2), .val (.int (10 : Int32)), .val (.ref w_CURRENT_TIMESTAMP), .val (.int (0 : Int32)), .val (.int (0 : Int32))] [(.int p2)])) (fun _ k => XS.iloadN X57.here hx rfl (hb hby at_53) rfl k) ?_
    by_cases hc54_10 : (0 : Int32) < p2
    · refine Go.st (S' := T57.setTop (mkF m 57 #[.val (.int p1), .val (.int p2), .val (.int (10 : Int32)), .val (.ref w_CURRENT_TIMESTAMP), .val (.int (0 : Int32)), .val (.int (0 : Int32))] [])) (fun _ k => XS.ifNo X57.here hx rfl (hb hby at_54) rfl ((if0 _ _).trans (tlt hc54_10).2.2.2) k) ?_
      refine Go.st (S' := T57.setTop (mkF m 58 #[.val (.int p1), .val (.int p2), .val (.int (10 : Int32)), .val (.ref w_CURRENT_TIMESTAMP), .val (.int (0 : Int32)), .val (.int (0 : Int32))] [(.ref w_CURRENT_TIMESTAMP)])) (fun _ k => XS.aloadN X57.here hx rfl (hb hby at_57) rfl rfl k) ?_
      refine Go.st (S' := T57.setTop (mkF m 59 #[.val (.int p1), .val (.int p2), .val (.int (10 : Int32)), .val (.ref w_CURRENT_TIMESTAMP), .val (.int (0 : Int32)), .val (.int (0 : Int32))] [(.int p2), (.ref w_CURRENT_TIMESTAMP)])) (fun _ k => XS.iloadN X57.here hx rfl (hb hby at_58) rfl k) ?_
      obtain ⟨_, T58, L58, X58, ⟨rfl, Nq58, eq58⟩, st58⟩ := own_callV X57 hx hZ hown (ww hw 15 rfl) (ww hw 16 rfl) (notFace_of_selects (args := #[]) (mvT hZ (ww hw 18 rfl))) (ww hw 18 rfl) (ww hw 17 rfl) (ww hw 6 rfl) (ww hw 19 rfl) (by decide) eq57 (E_CURRENT_TIMESTAMP.ext O0) (rm3 l Z a0 hw [] w_LOWER w_CONCAT w_CURRENT_DATE w_LOCATE w_ABS w_SQRT w_UPPER w_LENGTH w_CURRENT_TIMESTAMP w_MOD w_SUBSTRING hS w_CURRENT_TIMESTAMP p2 (0 : Int32) (0 : Int32) (0 : Int32) (by simp only [takF]; rw [if_pos (show (0 : Int32) < p2 from hc54_10), ite_self]) h0 O0 (F_CURRENT_TIMESTAMP_fewest.ext O0) (F_CURRENT_TIMESTAMP_most.ext O0)) 0 (by decide) (by decide) (by decide) (by decide) (g := (mkF m 59 #[.val (.int p1), .val (.int p2), .val (.int (10 : Int32)), .val (.ref w_CURRENT_TIMESTAMP), .val (.int (0 : Int32)), .val (.int (0 : Int32))] [(.int p2), (.ref w_CURRENT_TIMESTAMP)])) rfl (by rw [hml]; rfl) [(.int p2)] [] rfl (lenOf pd_674845 rfl) rfl (by show 2 * 0 + _ ≤ _; exact Nat.le_of_eq rfl) (hb hby at_59)
      have N58 := Fr.app N57 Nq58
      refine Go.st (S' := T58.setTop (mkF m 62 #[.val (.int p1), .val (.int p2), .val (.int (10 : Int32)), .val (.ref w_CURRENT_TIMESTAMP), .val (.int (0 : Int32)), .val (.int (0 : Int32))] [(.int (0 : Int32))])) st58 ?_
      refine Go.st (S' := T58.setTop (mkF m 72 #[.val (.int p1), .val (.int p2), .val (.int (10 : Int32)), .val (.ref w_CURRENT_TIMESTAMP), .val (.int (0 : Int32)), .val (.int (0 : Int32))] [])) (fun _ k => XS.ifYes X58.here hx rfl (pc0 := 62) (pc' := 72) rfl (hb hby at_62) rfl ((if0 _ _).trans (teq (by decide)).1) (by decide) (by decide) k) ?_
      refine Go.st (S' := T58.setTop (mkF m 73 #[.val (.int p1), .val (.int p2), .val (.int (10 : Int32)), .val (.ref w_CURRENT_TIMESTAMP), .val (.int (0 : Int32)), .val (.int (0 : Int32))] [(.int (1 : Int32))])) (fun _ k => XS.iconst X58.here hx rfl (hb hby at_72) k) ?_
      exact own_retN X58 hx hlk hret (by simp) (hb hby at_73) eq58 ⟨rfl, N58⟩ (by decide) (by decide)
    · refine Go.st (S' := T57.setTop (mkF m 72 #[.val (.int p1), .val (.int p2), .val (.int (10 : Int32)), .val (.ref w_CURRENT_TIMESTAMP), .val (.int (0 : Int32)), .val (.int (0 : Int32))] [])) (fun _ k => XS.ifYes X57.here hx rfl (pc0 := 54) (pc' := 72) rfl (hb hby at_54) rfl ((if0 _ _).trans (flt hc54_10).2.2.2) (by decide) (by decide) k) ?_
      refine Go.st (S' := T57.setTop (mkF m 73 #[.val (.int p1), .val (.int p2), .val (.int (10 : Int32)), .val (.ref w_CURRENT_TIMESTAMP), .val (.int (0 : Int32)), .val (.int (0 : Int32))] [(.int (1 : Int32))])) (fun _ k => XS.iconst X57.here hx rfl (hb hby at_72) k) ?_
      exact own_retN X57 hx hlk hret (by simp) (hb hby at_73) eq57 ⟨rfl, N57⟩ (by decide) (by decide)
set_option maxRecDepth 65536 in
set_option maxHeartbeats 400000000 in
theorem comes_1 {Post : Tables → Env → Array Value → State → Outcome → State → Prop} (hpost : ∀ tb e args s v u, (limb_1_1.after args s (.returned v) u = true ∧ limb_1_2.after args s (.returned v) u = true ∧ True) → FrameEnd s (.returned v) u (Jvm.fieldLocs frame_1_writes args s ++ Jvm.arrayLocs frame_1_arrays args s ++ Jvm.staticLocs frame_1_statics s) 0 0 → Post tb e args s (.returned v) u) :
    ArmFor flags0 classFile x code maxLocals ret World_1 tables_1 room_1 Calls_1 rest_1 Pre_1 Post := by
  intro l hfl _ _ p e ha hc hk s m args below hf hA hF happ hP
  obtain ⟨hcalls, hrest, hpre⟩ := hP
  obtain ⟨-, -, -, hnamed, -, -, -, hat⟩ := (Spec.applies_iff hf).mp happ
  obtain ⟨hg, hn⟩ := and_e (Cond.before_iff.mp (show (Jvm.Cond.and given_1 narrow_1).before args s = true from hpre))
  obtain ⟨hg1, hg2⟩ := and_e hg
  obtain ⟨hg3, hg4⟩ := and_e hg2
  obtain ⟨v0, v1, rfl⟩ : ∃ v0 v1 : Value, args = #[v0, v1] := by
    have hs : args.size = 2 := by simpa [Cond.value, given_1] using hg1
    obtain ⟨L⟩ := args
    match L, hs with
    | [v0, v1], _ => exact ⟨v0, v1, rfl⟩
  have hw := fun d (hd : d ∈ tables_1) => atoms_spec (ws := Jvm.Cond.code x code maxLocals ret :: tables_1) hat d (List.mem_cons_of_mem _ hd)
  have hfit : Fit s := fun {y c} hc i hi => by
    obtain ⟨ha, rfl⟩ := Array.getElem?_eq_some_iff.mp hc
    have q := List.all_eq_true.mp ((Array.all_eq_true_iff_forall_mem.mp hF) _ (Array.getElem_mem ha)) i (List.mem_range.mpr hi)
    simpa [Array.getElem?_eq_getElem hi] using q
  obtain ⟨i0, ei0⟩ := is_v hg3
  obtain rfl : v0 = (.int i0) := Option.some.inj ei0
  obtain ⟨i1, ei1⟩ := is_v hg4
  obtain rfl : v1 = (.int i1) := Option.some.inj ei1
  obtain ⟨hn1, hn2⟩ := and_e hn
  obtain ⟨hn3, hn4⟩ := and_e hn2
  obtain ⟨hn5, hn6⟩ := and_e hn4
  obtain ⟨hn7, hn8⟩ := and_e hn6
  obtain ⟨hn9, hn10⟩ := and_e hn8
  obtain ⟨hn11, hn12⟩ := and_e hn10
  obtain ⟨hn13, hn14⟩ := and_e hn12
  obtain ⟨hn15, hn16⟩ := and_e hn14
  obtain ⟨hn17, hn18⟩ := and_e hn16
  obtain ⟨hn19, hn20⟩ := and_e hn18
  obtain ⟨hn21, hn22⟩ := and_e hn20
  obtain ⟨hn23, hn24⟩ := and_e hn22
  obtain ⟨hn25, hn26⟩ := and_e hn24
  obtain ⟨hn27, hn28⟩ := and_e hn26
  obtain ⟨hn29, hn30⟩ := and_e hn28
  obtain ⟨hn31, hn32⟩ := and_e hn30
  obtain ⟨hn33, hn34⟩ := and_e hn32
  obtain ⟨hn35, hn36⟩ := and_e hn34
  obtain ⟨hn37, hn38⟩ := and_e hn36
  obtain ⟨hn39, hn40⟩ := and_e hn38
  obtain ⟨hn41, hn42⟩ := and_e hn40
  obtain ⟨hn43, hn44⟩ := and_e hn42
  obtain ⟨hn45, hn46⟩ := and_e hn44
  obtain ⟨hn47, hn48⟩ := and_e hn46
  obtain ⟨hn49, hn50⟩ := and_e hn48
  obtain ⟨hn51, hn52⟩ := and_e hn50
  obtain ⟨hn53, hn54⟩ := and_e hn52
  obtain ⟨hn55, hn56⟩ := and_e hn54
  obtain ⟨hn57, hn58⟩ := and_e hn56
  obtain ⟨hn59, hn60⟩ := and_e hn58
  obtain ⟨hn61, hn62⟩ := and_e hn60
  obtain ⟨hn63, hn64⟩ := and_e hn62
  obtain ⟨w_LOWER, ev_LOWER⟩ := exa_v hn1
  have S_LOWER : Sta s s.heap "com/example/instances_to_rows/instancestorows/query/JpqlFunction" "LOWER" "Lcom/example/instances_to_rows/instancestorows/query/JpqlFunction;" (.ref w_LOWER) := Sta.start ev_LOWER (Or.inr ⟨(ww hw 6 rfl), (ww hw 7 rfl)⟩)
  have E_LOWER : Exa s s.heap w_LOWER "com/example/instances_to_rows/instancestorows/query/JpqlFunction" := Exa.start ev_LOWER hn1
  have F_LOWER_most : Fld s s.heap w_LOWER "com/example/instances_to_rows/instancestorows/query/JpqlFunction" "most" "I" (.int (1 : Int32)) := own_fldI ev_LOWER hn3
  have F_LOWER_fewest : Fld s s.heap w_LOWER "com/example/instances_to_rows/instancestorows/query/JpqlFunction" "fewest" "I" (.int (1 : Int32)) := own_fldI ev_LOWER hn5
  obtain ⟨w_CONCAT, ev_CONCAT⟩ := exa_v hn7
  have S_CONCAT : Sta s s.heap "com/example/instances_to_rows/instancestorows/query/JpqlFunction" "CONCAT" "Lcom/example/instances_to_rows/instancestorows/query/JpqlFunction;" (.ref w_CONCAT) := Sta.start ev_CONCAT (Or.inr ⟨(ww hw 6 rfl), (ww hw 23 rfl)⟩)
  have E_CONCAT : Exa s s.heap w_CONCAT "com/example/instances_to_rows/instancestorows/query/JpqlFunction" := Exa.start ev_CONCAT hn7
  have F_CONCAT_most : Fld s s.heap w_CONCAT "com/example/instances_to_rows/instancestorows/query/JpqlFunction" "most" "I" (.int (2147483647 : Int32)) := own_fldI ev_CONCAT hn9
  have F_CONCAT_fewest : Fld s s.heap w_CONCAT "com/example/instances_to_rows/instancestorows/query/JpqlFunction" "fewest" "I" (.int (2 : Int32)) := own_fldI ev_CONCAT hn11
  obtain ⟨w_CURRENT_DATE, ev_CURRENT_DATE⟩ := exa_v hn13
  have S_CURRENT_DATE : Sta s s.heap "com/example/instances_to_rows/instancestorows/query/JpqlFunction" "CURRENT_DATE" "Lcom/example/instances_to_rows/instancestorows/query/JpqlFunction;" (.ref w_CURRENT_DATE) := Sta.start ev_CURRENT_DATE (Or.inr ⟨(ww hw 6 rfl), (ww hw 25 rfl)⟩)
  have E_CURRENT_DATE : Exa s s.heap w_CURRENT_DATE "com/example/instances_to_rows/instancestorows/query/JpqlFunction" := Exa.start ev_CURRENT_DATE hn13
  have F_CURRENT_DATE_most : Fld s s.heap w_CURRENT_DATE "com/example/instances_to_rows/instancestorows/query/JpqlFunction" "most" "I" (.int (0 : Int32)) := own_fldI ev_CURRENT_DATE hn15
  have F_CURRENT_DATE_fewest : Fld s s.heap w_CURRENT_DATE "com/example/instances_to_rows/instancestorows/query/JpqlFunction" "fewest" "I" (.int (0 : Int32)) := own_fldI ev_CURRENT_DATE hn17
  obtain ⟨w_LOCATE, ev_LOCATE⟩ := exa_v hn19
  have S_LOCATE : Sta s s.heap "com/example/instances_to_rows/instancestorows/query/JpqlFunction" "LOCATE" "Lcom/example/instances_to_rows/instancestorows/query/JpqlFunction;" (.ref w_LOCATE) := Sta.start ev_LOCATE (Or.inr ⟨(ww hw 6 rfl), (ww hw 27 rfl)⟩)
  have E_LOCATE : Exa s s.heap w_LOCATE "com/example/instances_to_rows/instancestorows/query/JpqlFunction" := Exa.start ev_LOCATE hn19
  have F_LOCATE_most : Fld s s.heap w_LOCATE "com/example/instances_to_rows/instancestorows/query/JpqlFunction" "most" "I" (.int (3 : Int32)) := own_fldI ev_LOCATE hn21
  have F_LOCATE_fewest : Fld s s.heap w_LOCATE "com/example/instances_to_rows/instancestorows/query/JpqlFunction" "fewest" "I" (.int (2 : Int32)) := own_fldI ev_LOCATE hn23
  obtain ⟨w_ABS, ev_ABS⟩ := exa_v hn25
  have S_ABS : Sta s s.heap "com/example/instances_to_rows/instancestorows/query/JpqlFunction" "ABS" "Lcom/example/instances_to_rows/instancestorows/query/JpqlFunction;" (.ref w_ABS) := Sta.start ev_ABS (Or.inr ⟨(ww hw 6 rfl), (ww hw 29 rfl)⟩)
  have E_ABS : Exa s s.heap w_ABS "com/example/instances_to_rows/instancestorows/query/JpqlFunction" := Exa.start ev_ABS hn25
  have F_ABS_most : Fld s s.heap w_ABS "com/example/instances_to_rows/instancestorows/query/JpqlFunction" "most" "I" (.int (1 : Int32)) := own_fldI ev_ABS hn27
  have F_ABS_fewest : Fld s s.heap w_ABS "com/example/instances_to_rows/instancestorows/query/JpqlFunction" "fewest" "I" (.int (1 : Int32)) := own_fldI ev_ABS hn29
  obtain ⟨w_SQRT, ev_SQRT⟩ := exa_v hn31
  have S_SQRT : Sta s s.heap "com/example/instances_to_rows/instancestorows/query/JpqlFunction" "SQRT" "Lcom/example/instances_to_rows/instancestorows/query/JpqlFunction;" (.ref w_SQRT) := Sta.start ev_SQRT (Or.inr ⟨(ww hw 6 rfl), (ww hw 31 rfl)⟩)
  have E_SQRT : Exa s s.heap w_SQRT "com/example/instances_to_rows/instancestorows/query/JpqlFunction" := Exa.start ev_SQRT hn31
  have F_SQRT_most : Fld s s.heap w_SQRT "com/example/instances_to_rows/instancestorows/query/JpqlFunction" "most" "I" (.int (1 : Int32)) := own_fldI ev_SQRT hn33
  have F_SQRT_fewest : Fld s s.heap w_SQRT "com/example/instances_to_rows/instancestorows/query/JpqlFunction" "fewest" "I" (.int (1 : Int32)) := own_fldI ev_SQRT hn35
  obtain ⟨w_UPPER, ev_UPPER⟩ := exa_v hn37
  have S_UPPER : Sta s s.heap "com/example/instances_to_rows/instancestorows/query/JpqlFunction" "UPPER" "Lcom/example/instances_to_rows/instancestorows/query/JpqlFunction;" (.ref w_UPPER) := Sta.start ev_UPPER (Or.inr ⟨(ww hw 6 rfl), (ww hw 33 rfl)⟩)
  have E_UPPER : Exa s s.heap w_UPPER "com/example/instances_to_rows/instancestorows/query/JpqlFunction" := Exa.start ev_UPPER hn37
  have F_UPPER_most : Fld s s.heap w_UPPER "com/example/instances_to_rows/instancestorows/query/JpqlFunction" "most" "I" (.int (1 : Int32)) := own_fldI ev_UPPER hn39
  have F_UPPER_fewest : Fld s s.heap w_UPPER "com/example/instances_to_rows/instancestorows/query/JpqlFunction" "fewest" "I" (.int (1 : Int32)) := own_fldI ev_UPPER hn41
  obtain ⟨w_LENGTH, ev_LENGTH⟩ := exa_v hn43
  have S_LENGTH : Sta s s.heap "com/example/instances_to_rows/instancestorows/query/JpqlFunction" "LENGTH" "Lcom/example/instances_to_rows/instancestorows/query/JpqlFunction;" (.ref w_LENGTH) := Sta.start ev_LENGTH (Or.inr ⟨(ww hw 6 rfl), (ww hw 35 rfl)⟩)
  have E_LENGTH : Exa s s.heap w_LENGTH "com/example/instances_to_rows/instancestorows/query/JpqlFunction" := Exa.start ev_LENGTH hn43
  have F_LENGTH_most : Fld s s.heap w_LENGTH "com/example/instances_to_rows/instancestorows/query/JpqlFunction" "most" "I" (.int (1 : Int32)) := own_fldI ev_LENGTH hn45
  have F_LENGTH_fewest : Fld s s.heap w_LENGTH "com/example/instances_to_rows/instancestorows/query/JpqlFunction" "fewest" "I" (.int (1 : Int32)) := own_fldI ev_LENGTH hn47
  obtain ⟨w_CURRENT_TIMESTAMP, ev_CURRENT_TIMESTAMP⟩ := exa_v hn49
  have S_CURRENT_TIMESTAMP : Sta s s.heap "com/example/instances_to_rows/instancestorows/query/JpqlFunction" "CURRENT_TIMESTAMP" "Lcom/example/instances_to_rows/instancestorows/query/JpqlFunction;" (.ref w_CURRENT_TIMESTAMP) := Sta.start ev_CURRENT_TIMESTAMP (Or.inr ⟨(ww hw 6 rfl), (ww hw 37 rfl)⟩)
  have E_CURRENT_TIMESTAMP : Exa s s.heap w_CURRENT_TIMESTAMP "com/example/instances_to_rows/instancestorows/query/JpqlFunction" := Exa.start ev_CURRENT_TIMESTAMP hn49
  have F_CURRENT_TIMESTAMP_most : Fld s s.heap w_CURRENT_TIMESTAMP "com/example/instances_to_rows/instancestorows/query/JpqlFunction" "most" "I" (.int (0 : Int32)) := own_fldI ev_CURRENT_TIMESTAMP hn51
  have F_CURRENT_TIMESTAMP_fewest : Fld s s.heap w_CURRENT_TIMESTAMP "com/example/instances_to_rows/instancestorows/query/JpqlFunction" "fewest" "I" (.int (0 : Int32)) := own_fldI ev_CURRENT_TIMESTAMP hn53
  obtain ⟨w_MOD, ev_MOD⟩ := exa_v hn55
  have S_MOD : Sta s s.heap "com/example/instances_to_rows/instancestorows/query/JpqlFunction" "MOD" "Lcom/example/instances_to_rows/instancestorows/query/JpqlFunction;" (.ref w_MOD) := Sta.start ev_MOD (Or.inr ⟨(ww hw 6 rfl), (ww hw 39 rfl)⟩)
  have E_MOD : Exa s s.heap w_MOD "com/example/instances_to_rows/instancestorows/query/JpqlFunction" := Exa.start ev_MOD hn55
  have F_MOD_most : Fld s s.heap w_MOD "com/example/instances_to_rows/instancestorows/query/JpqlFunction" "most" "I" (.int (2 : Int32)) := own_fldI ev_MOD hn57
  have F_MOD_fewest : Fld s s.heap w_MOD "com/example/instances_to_rows/instancestorows/query/JpqlFunction" "fewest" "I" (.int (2 : Int32)) := own_fldI ev_MOD hn59
  obtain ⟨w_SUBSTRING, ev_SUBSTRING⟩ := exa_v hn61
  have S_SUBSTRING : Sta s s.heap "com/example/instances_to_rows/instancestorows/query/JpqlFunction" "SUBSTRING" "Lcom/example/instances_to_rows/instancestorows/query/JpqlFunction;" (.ref w_SUBSTRING) := Sta.start ev_SUBSTRING (Or.inr ⟨(ww hw 6 rfl), (ww hw 41 rfl)⟩)
  have E_SUBSTRING : Exa s s.heap w_SUBSTRING "com/example/instances_to_rows/instancestorows/query/JpqlFunction" := Exa.start ev_SUBSTRING hn61
  have F_SUBSTRING_most : Fld s s.heap w_SUBSTRING "com/example/instances_to_rows/instancestorows/query/JpqlFunction" "most" "I" (.int (3 : Int32)) := own_fldI ev_SUBSTRING hn63
  have F_SUBSTRING_fewest : Fld s s.heap w_SUBSTRING "com/example/instances_to_rows/instancestorows/query/JpqlFunction" "fewest" "I" (.int (2 : Int32)) := own_fldI ev_SUBSTRING hn64
  obtain ⟨n, o, h1, h2, h3, _, L, rfl, ⟨rfl, N⟩, hq⟩ := rm0 l s _ hw tables_1 w_LOWER w_CONCAT w_CURRENT_DATE w_LOCATE w_ABS w_SQRT w_UPPER w_LENGTH w_CURRENT_TIMESTAMP w_MOD w_SUBSTRING ⟨S_LOWER, E_LOWER, F_LOWER_most, F_LOWER_fewest, S_CONCAT, E_CONCAT, F_CONCAT_most, F_CONCAT_fewest, S_CURRENT_DATE, E_CURRENT_DATE, F_CURRENT_DATE_most, F_CURRENT_DATE_fewest, S_LOCATE, E_LOCATE, F_LOCATE_most, F_LOCATE_fewest, S_ABS, E_ABS, F_ABS_most, F_ABS_fewest, S_SQRT, E_SQRT, F_SQRT_most, F_SQRT_fewest, S_UPPER, E_UPPER, F_UPPER_most, F_UPPER_fewest, S_LENGTH, E_LENGTH, F_LENGTH_most, F_LENGTH_fewest, S_CURRENT_TIMESTAMP, E_CURRENT_TIMESTAMP, F_CURRENT_TIMESTAMP_most, F_CURRENT_TIMESTAMP_fewest, S_MOD, E_MOD, F_MOD_most, F_MOD_fewest, S_SUBSTRING, E_SUBSTRING, F_SUBSTRING_most, F_SUBSTRING_fewest⟩ i0 i1 s.heap (own_Ext.refl _)  p e ha hc hk s m _ below hf ((Spec.applies_iff_loose hf).mp happ).1 ⟨rfl, State.Warmed39.refl s, rfl⟩ trivial
  refine ⟨n, _, h1, h2, h3, hpost _ _ _ _ _ _ ⟨Cond.after_iff.mpr rfl, Cond.after_iff.mpr (eq_i res_at (Term.int_eval (1)) rfl), trivial⟩ ⟨hq.1, hq.2.1, (hq.2.2.sift fun y hy => Or.inr (N y hy)).mono (by decide) (by decide)⟩⟩
theorem main_1_1 : Claimed_1_1 := comes_1 fun _ _ _ _ _ _ h hF => ⟨h.1, hF⟩
theorem main_1_2 : Claimed_1_2 := comes_1 fun _ _ _ _ _ _ h hF => ⟨h.2.1, hF⟩
end Jvm.Pilot.@@N@@
namespace Jvm.Pilot.@@N@@
open Jvm Jvm.ClassFile Sem Op Lib Jvm.Free Jvm.Stand Jvm.Pilot.@@N@@.Jvm.D
/-! MADE BY PROGRAM (witnessworld.py) out of the Statement's table words and the real class files: 12 classes; the members and pool entries that the words name. The judged class is class 1, her method 1. -/
namespace start1
open Jvm.ClassFile
def u (s : String) : CpInfo := .utf8 (stringToUtf16 s)
/-- a pool by its gaps: so many unusable entries, then the entry; so many at the end -/
def gap : Nat → List CpInfo → List CpInfo
  | 0, r => r
  | n + 1, r => .unusable :: gap n r
def poolList (es : List (Nat × CpInfo)) (last : Nat) : List CpInfo := es.foldr (fun e r => gap e.1 (e.2 :: r)) (gap last [])
def pool (es : List (Nat × CpInfo)) (last : Nat) : Array CpInfo := ⟨poolList es last⟩
def fileOf (pool : Array CpInfo) (this : Nat) (attrs : Array Attribute := #[]) (ms : Array MethodInfo := #[]) (fl : Nat := 33) (sup : Nat := 0) (ifs : Array Nat := #[]) (fds : Array FieldInfo := #[]) : ClassFile where
  minorVersion := 0
  majorVersion := 65
  constantPool := pool
  accessFlags := fl
  thisClass := this
  superClass := sup
  interfaces := ifs
  fields := fds
  methods := ms
  attributes := attrs
def plain (name : String) (sup : Option ClassId) : Class where
  name := name
  kind := .ordinary
  loader := none
  accessFlags := 33
  super := sup
  interfaces := #[]
  cf := none
  fields := #[]
  methods := #[]
  instanceTypes := #[]
  staticTypes := #[]
  resolved := #[]
  callSites := []
  init := .initialized
  statics := none
  mirror := none

def pool0 : Array CpInfo := pool [(5, u "<init>"), (0, u "()V"), (1, .class_ 10), (1, u "java/lang/Object")] 113

def k0m0 : Method := { name := "<init>", desc := "()V", sig := { parameters := [], returnType := none }, accessFlags := 1, code := none }
/-- java/lang/Object -/
def k0 : Class := { plain "java/lang/Object" none with
  accessFlags := 33
  interfaces := #[]
  cf := some (fileOf pool0 8 #[] #[{ accessFlags := 1, nameIndex := 5, descriptorIndex := 6, attributes := #[] }] 33 0 #[] #[])
  fields := #[]
  methods := #[k0m0]
  instanceTypes := #[]
  staticTypes := #[]
  resolved := Array.replicate 124 none
  statics := none }

def pool1 : Array CpInfo := pool [(2, .class_ 4), (1, u "java/lang/Object"), (0, u "<init>"), (0, u "()V"), (0, .integer 2147483647), (0, .methodref 9 10), (0, .class_ 11), (0, .nameAndType 12 13), (0, u "com/example/instances_to_rows/instancestorows/query/JpqlFunctionTakesArgumentsPinLaw"), (0, u "pick"), (0, u "(I)Lcom/example/instances_to_rows/instancestorows/query/JpqlFunction;"), (0, .methodref 15 16), (0, .class_ 17), (0, .nameAndType 18 19), (0, u "com/example/instances_to_rows/instancestorows/query/JpqlFunction"), (0, u "takesArguments"), (0, u "()Z"), (0, .methodref 15 21), (0, .nameAndType 22 23), (0, u "takes"), (0, u "(I)Z"), (0, .fieldref 15 25), (0, .nameAndType 26 27), (0, u "LOWER"), (0, u "Lcom/example/instances_to_rows/instancestorows/query/JpqlFunction;"), (0, .fieldref 15 29), (0, .nameAndType 30 27), (0, u "UPPER"), (0, .fieldref 15 32), (0, .nameAndType 33 27), (0, u "LENGTH"), (0, .fieldref 15 35), (0, .nameAndType 36 27), (0, u "CONCAT"), (0, .fieldref 15 38), (0, .nameAndType 39 27), (0, u "SUBSTRING"), (0, .fieldref 15 41), (0, .nameAndType 42 27), (0, u "LOCATE"), (0, .fieldref 15 44), (0, .nameAndType 45 27), (0, u "ABS"), (0, .fieldref 15 47), (0, .nameAndType 48 27), (0, u "MOD"), (0, .fieldref 15 50), (0, .nameAndType 51 27), (0, u "SQRT"), (0, .fieldref 15 53), (0, .nameAndType 54 27), (0, u "CURRENT_DATE"), (0, .fieldref 15 56), (0, .nameAndType 57 27), (0, u "CURRENT_TIMESTAMP"), (2, u "law"), (0, u "(II)Z")] 3

def k1m0 : Method := { name := "<init>", desc := "()V", sig := { parameters := [], returnType := none }, accessFlags := 1, code := none }
def k1c1 : Code := { maxStack := 3, maxLocals := 6, code := code, exceptionTable := #[], attributes := #[] }
def k1m1 : Method := { name := "law", desc := "(II)Z", sig := { parameters := [.int, .int], returnType := some .boolean }, accessFlags := 9, code := some k1c1 }
def k1c2 : Code := { maxStack := 2, maxLocals := 1, code := method_3_code, exceptionTable := #[], attributes := #[] }
def k1m2 : Method := { name := "pick", desc := "(I)Lcom/example/instances_to_rows/instancestorows/query/JpqlFunction;", sig := { parameters := [.int], returnType := some (.object "com/example/instances_to_rows/instancestorows/query/JpqlFunction") }, accessFlags := 10, code := some k1c2 }
/-- com/example/instances_to_rows/instancestorows/query/JpqlFunctionTakesArgumentsPinLaw -/
def k1 : Class := { plain "com/example/instances_to_rows/instancestorows/query/JpqlFunctionTakesArgumentsPinLaw" (some 0) with
  accessFlags := 49
  interfaces := #[]
  cf := some (fileOf pool1 9 #[] #[{ accessFlags := 1, nameIndex := 5, descriptorIndex := 6, attributes := #[] }, { accessFlags := 9, nameIndex := 60, descriptorIndex := 61, attributes := #[] }, { accessFlags := 10, nameIndex := 12, descriptorIndex := 13, attributes := #[] }] 49 2 #[] #[])
  fields := #[]
  methods := #[k1m0, k1m1, k1m2]
  instanceTypes := #[]
  staticTypes := #[]
  resolved := Array.replicate 65 none
  statics := none }

def pool2 : Array CpInfo := pool [(1, .class_ 2), (0, u "java/lang/constant/Constable"), (0, .class_ 4), (0, u "java/lang/Object")] 6

/-- java/lang/constant/Constable -/
def k2 : Class := { plain "java/lang/constant/Constable" (some 0) with
  accessFlags := 1537
  interfaces := #[]
  cf := some (fileOf pool2 1 #[] #[] 1537 3 #[] #[])
  fields := #[]
  methods := #[]
  instanceTypes := #[]
  staticTypes := #[]
  resolved := Array.replicate 11 none
  statics := none }

def pool3 : Array CpInfo := pool [(1, .class_ 2), (0, u "java/lang/Comparable"), (0, .class_ 4), (0, u "java/lang/Object")] 7

/-- java/lang/Comparable -/
def k3 : Class := { plain "java/lang/Comparable" (some 0) with
  accessFlags := 1537
  interfaces := #[]
  cf := some (fileOf pool3 1 #[] #[] 1537 3 #[] #[])
  fields := #[]
  methods := #[]
  instanceTypes := #[]
  staticTypes := #[]
  resolved := Array.replicate 12 none
  statics := none }

def pool4 : Array CpInfo := pool [(1, .class_ 2), (0, u "java/io/Serializable"), (0, .class_ 4), (0, u "java/lang/Object")] 2

/-- java/io/Serializable -/
def k4 : Class := { plain "java/io/Serializable" (some 0) with
  accessFlags := 1537
  interfaces := #[]
  cf := some (fileOf pool4 1 #[] #[] 1537 3 #[] #[])
  fields := #[]
  methods := #[]
  instanceTypes := #[]
  staticTypes := #[]
  resolved := Array.replicate 7 none
  statics := none }

def pool5 : Array CpInfo := pool [(2, .class_ 4), (1, u "java/lang/Enum"), (0, u "name"), (0, u "Ljava/lang/String;"), (2, u "ordinal"), (0, u "I"), (1, .class_ 14), (1, u "java/lang/Object"), (4, u "hash"), (86, .class_ 108), (1, u "java/lang/Enum$EnumDesc"), (2, .class_ 112), (0, u "java/lang/constant/Constable"), (0, .class_ 114), (0, u "java/lang/Comparable"), (0, .class_ 116), (0, u "java/io/Serializable")] 87

/-- java/lang/Enum -/
def k5 : Class := { plain "java/lang/Enum" (some 0) with
  accessFlags := 1057
  interfaces := #[2, 3, 4]
  cf := some (fileOf pool5 2 #[.nestMembers #[106]] #[] 1057 12 #[111, 113, 115] #[{ accessFlags := 18, nameIndex := 5, descriptorIndex := 6, attributes := #[] }, { accessFlags := 18, nameIndex := 9, descriptorIndex := 10, attributes := #[] }, { accessFlags := 2, nameIndex := 19, descriptorIndex := 10, attributes := #[] }])
  fields := #[{ name := "name", type := (.object "java/lang/String"), accessFlags := 18, slot := 0, constantValue := 0 }, { name := "ordinal", type := .int, accessFlags := 18, slot := 1, constantValue := 0 }, { name := "hash", type := .int, accessFlags := 2, slot := 2, constantValue := 0 }]
  methods := #[]
  instanceTypes := #[(.object "java/lang/String"), .int, .int]
  staticTypes := #[]
  resolved := Array.replicate 204 none
  statics := none }

def pool6 : Array CpInfo := pool [(1, .class_ 2), (0, u "com/example/instances_to_rows/instancestorows/query/JpqlFunction"), (2, u "LOWER"), (0, u "Lcom/example/instances_to_rows/instancestorows/query/JpqlFunction;"), (2, u "UPPER"), (2, u "LENGTH"), (2, u "CONCAT"), (2, u "SUBSTRING"), (2, u "LOCATE"), (2, u "ABS"), (2, u "MOD"), (2, u "SQRT"), (2, u "CURRENT_DATE"), (2, u "CURRENT_TIMESTAMP"), (2, u "$VALUES"), (0, u "[Lcom/example/instances_to_rows/instancestorows/query/JpqlFunction;"), (6, .class_ 49), (1, u "java/lang/Enum"), (6, .fieldref 1 57), (0, .nameAndType 58 59), (0, u "fewest"), (0, u "I"), (0, .fieldref 1 61), (0, .nameAndType 62 59), (0, u "most"), (79, u "takesArguments"), (0, u "()Z"), (1, u "takes"), (0, u "(I)Z")] 41

def k6c0 : Code := { maxStack := 1, maxLocals := 1, code := prog_17_method_5_code, exceptionTable := #[], attributes := #[] }
def k6m0 : Method := { name := "takesArguments", desc := "()Z", sig := { parameters := [], returnType := some .boolean }, accessFlags := 0, code := some k6c0 }
def k6c1 : Code := { maxStack := 2, maxLocals := 2, code := prog_17_method_6_code, exceptionTable := #[], attributes := #[] }
def k6m1 : Method := { name := "takes", desc := "(I)Z", sig := { parameters := [.int], returnType := some .boolean }, accessFlags := 0, code := some k6c1 }
/-- com/example/instances_to_rows/instancestorows/query/JpqlFunction -/
def k6 : Class := { plain "com/example/instances_to_rows/instancestorows/query/JpqlFunction" (some 5) with
  accessFlags := 16432
  interfaces := #[]
  cf := some (fileOf pool6 1 #[] #[{ accessFlags := 0, nameIndex := 142, descriptorIndex := 143, attributes := #[] }, { accessFlags := 0, nameIndex := 145, descriptorIndex := 146, attributes := #[] }] 16432 47 #[] #[{ accessFlags := 16409, nameIndex := 5, descriptorIndex := 6, attributes := #[] }, { accessFlags := 16409, nameIndex := 9, descriptorIndex := 6, attributes := #[] }, { accessFlags := 16409, nameIndex := 12, descriptorIndex := 6, attributes := #[] }, { accessFlags := 16409, nameIndex := 15, descriptorIndex := 6, attributes := #[] }, { accessFlags := 16409, nameIndex := 18, descriptorIndex := 6, attributes := #[] }, { accessFlags := 16409, nameIndex := 21, descriptorIndex := 6, attributes := #[] }, { accessFlags := 16409, nameIndex := 24, descriptorIndex := 6, attributes := #[] }, { accessFlags := 16409, nameIndex := 27, descriptorIndex := 6, attributes := #[] }, { accessFlags := 16409, nameIndex := 30, descriptorIndex := 6, attributes := #[] }, { accessFlags := 16409, nameIndex := 33, descriptorIndex := 6, attributes := #[] }, { accessFlags := 16409, nameIndex := 36, descriptorIndex := 6, attributes := #[] }, { accessFlags := 18, nameIndex := 58, descriptorIndex := 59, attributes := #[] }, { accessFlags := 18, nameIndex := 62, descriptorIndex := 59, attributes := #[] }, { accessFlags := 4122, nameIndex := 39, descriptorIndex := 40, attributes := #[] }])
  fields := #[{ name := "LOWER", type := (.object "com/example/instances_to_rows/instancestorows/query/JpqlFunction"), accessFlags := 16409, slot := 0, constantValue := 0 }, { name := "UPPER", type := (.object "com/example/instances_to_rows/instancestorows/query/JpqlFunction"), accessFlags := 16409, slot := 1, constantValue := 0 }, { name := "LENGTH", type := (.object "com/example/instances_to_rows/instancestorows/query/JpqlFunction"), accessFlags := 16409, slot := 2, constantValue := 0 }, { name := "CONCAT", type := (.object "com/example/instances_to_rows/instancestorows/query/JpqlFunction"), accessFlags := 16409, slot := 3, constantValue := 0 }, { name := "SUBSTRING", type := (.object "com/example/instances_to_rows/instancestorows/query/JpqlFunction"), accessFlags := 16409, slot := 4, constantValue := 0 }, { name := "LOCATE", type := (.object "com/example/instances_to_rows/instancestorows/query/JpqlFunction"), accessFlags := 16409, slot := 5, constantValue := 0 }, { name := "ABS", type := (.object "com/example/instances_to_rows/instancestorows/query/JpqlFunction"), accessFlags := 16409, slot := 6, constantValue := 0 }, { name := "MOD", type := (.object "com/example/instances_to_rows/instancestorows/query/JpqlFunction"), accessFlags := 16409, slot := 7, constantValue := 0 }, { name := "SQRT", type := (.object "com/example/instances_to_rows/instancestorows/query/JpqlFunction"), accessFlags := 16409, slot := 8, constantValue := 0 }, { name := "CURRENT_DATE", type := (.object "com/example/instances_to_rows/instancestorows/query/JpqlFunction"), accessFlags := 16409, slot := 9, constantValue := 0 }, { name := "CURRENT_TIMESTAMP", type := (.object "com/example/instances_to_rows/instancestorows/query/JpqlFunction"), accessFlags := 16409, slot := 10, constantValue := 0 }, { name := "fewest", type := .int, accessFlags := 18, slot := 3, constantValue := 0 }, { name := "most", type := .int, accessFlags := 18, slot := 4, constantValue := 0 }, { name := "$VALUES", type := (.array (.object "com/example/instances_to_rows/instancestorows/query/JpqlFunction")), accessFlags := 4122, slot := 11, constantValue := 0 }]
  methods := #[k6m0, k6m1]
  instanceTypes := #[(.object "java/lang/String"), .int, .int, .int, .int]
  staticTypes := #[(.object "com/example/instances_to_rows/instancestorows/query/JpqlFunction"), (.object "com/example/instances_to_rows/instancestorows/query/JpqlFunction"), (.object "com/example/instances_to_rows/instancestorows/query/JpqlFunction"), (.object "com/example/instances_to_rows/instancestorows/query/JpqlFunction"), (.object "com/example/instances_to_rows/instancestorows/query/JpqlFunction"), (.object "com/example/instances_to_rows/instancestorows/query/JpqlFunction"), (.object "com/example/instances_to_rows/instancestorows/query/JpqlFunction"), (.object "com/example/instances_to_rows/instancestorows/query/JpqlFunction"), (.object "com/example/instances_to_rows/instancestorows/query/JpqlFunction"), (.object "com/example/instances_to_rows/instancestorows/query/JpqlFunction"), (.object "com/example/instances_to_rows/instancestorows/query/JpqlFunction"), (.array (.object "com/example/instances_to_rows/instancestorows/query/JpqlFunction"))]
  resolved := Array.replicate 188 none
  statics := some 0 }

def pool7 : Array CpInfo := pool [(1, u "java/lang/Cloneable"), (0, .class_ 1), (0, u "java/lang/Object"), (0, .class_ 3)] 3

/-- java/lang/Cloneable -/
def k7 : Class := { plain "java/lang/Cloneable" (some 0) with
  accessFlags := 1537
  interfaces := #[]
  cf := some (fileOf pool7 2 #[] #[] 1537 4 #[] #[])
  fields := #[]
  methods := #[]
  instanceTypes := #[]
  staticTypes := #[]
  resolved := Array.replicate 8 none
  statics := none }

/-- the primitive byte -/
def k8 : Class := { plain "byte" none with kind := .primitive 'B', accessFlags := 0x411 }
/-- [B -/
def k9 : Class := { plain "[B" (some 0) with kind := .array 8 .byte, interfaces := #[7, 4], accessFlags := 1041 }

/-- the primitive int -/
def k10 : Class := { plain "int" none with kind := .primitive 'I', accessFlags := 0x411 }
/-- [I -/
def k11 : Class := { plain "[I" (some 0) with kind := .array 10 .int, interfaces := #[7, 4], accessFlags := 1041 }

def heap : Heap := #[{ cls := 6, slots := #[.ref 1, .ref 7, .ref 8, .ref 2, .ref 11, .ref 4, .ref 5, .ref 10, .ref 6, .ref 3, .ref 9, .null], vm := .statics 6 },
  { cls := 6, slots := #[.null, .int 0, .int 0, .int (1), .int (1)], vm := .none },
  { cls := 6, slots := #[.null, .int 0, .int 0, .int (2), .int (2147483647)], vm := .none },
  { cls := 6, slots := #[.null, .int 0, .int 0, .int (0), .int (0)], vm := .none },
  { cls := 6, slots := #[.null, .int 0, .int 0, .int (2), .int (3)], vm := .none },
  { cls := 6, slots := #[.null, .int 0, .int 0, .int (1), .int (1)], vm := .none },
  { cls := 6, slots := #[.null, .int 0, .int 0, .int (1), .int (1)], vm := .none },
  { cls := 6, slots := #[.null, .int 0, .int 0, .int (1), .int (1)], vm := .none },
  { cls := 6, slots := #[.null, .int 0, .int 0, .int (1), .int (1)], vm := .none },
  { cls := 6, slots := #[.null, .int 0, .int 0, .int (0), .int (0)], vm := .none },
  { cls := 6, slots := #[.null, .int 0, .int 0, .int (2), .int (2)], vm := .none },
  { cls := 6, slots := #[.null, .int 0, .int 0, .int (2), .int (3)], vm := .none }]
def classes : Array Class := #[k0, k1, k2, k3, k4, k5, k6, k7, k8, k9, k10, k11]
def interned : List (Array UInt16 × Addr) := []
def slotsUsed : Nat := 67
def theMethod : MethodId := ⟨1, 1⟩
def args0 : Array Value := #[.int 5, .int 3]
def aboutOver (below : List Frame) : State where
  vm := { classes := classes, interned := interned.toArray }
  heap := heap
  slotsUsed := slotsUsed
  threads := #[{ frames := .invoking theMethod args0 :: below }]
def below0 : List Frame := [.native { method := ⟨0, 0⟩, args := #[] }]
def about1 : State := aboutOver below0
def p0 : Program := .bare "" "" ""
def e0 : Env := launch0.env 0 0 0
theorem w_frames : about1.frames = Frame.invoking theMethod args0 :: below0 := rfl
set_option maxRecDepth 65536 in
theorem w_args : argsFit about1.vm theMethod args0 = true := by decide +kernel
set_option maxRecDepth 65536 in
theorem w_heap : heapFits about1 = true := by decide +kernel
set_option maxRecDepth 65536 in
theorem w_runnable : about1.curStatus? = some .runnable := by decide +kernel
set_option maxRecDepth 65536 in
theorem w_alone : about1.alone = true := by decide +kernel
set_option maxRecDepth 65536 in
theorem w_named : about1.methodNamed? x = some theMethod := by decide +kernel
set_option maxRecDepth 65536 in
theorem w_hears : about1.hears theMethod below0 = true := by decide +kernel
set_option maxRecDepth 65536 in
theorem w_ripe : about1.ripe theMethod args0 below0 = true := by decide +kernel
theorem w_running : about1.status = .running := rfl
set_option maxRecDepth 65536 in
theorem w_room : about1.hasRoom e0.platform room_1 = true :=
  launch0.hasRoom_least _ room_1 (by decide +kernel) (by decide +kernel) (by decide +kernel) (by decide +kernel) (by decide +kernel) (by decide +kernel)
theorem allAtoms_all (ts : List Jvm.Cond) (a : Array Jvm.Value) (st : Jvm.State) : (allAtoms ts).before a st = ts.all (fun c => c.before a st) := by
  induction ts with
  | nil => rfl
  | cons c t ih =>
    show (Jvm.Cond.and c (allAtoms t)).before a st = _
    rw [Jvm.Cond.before_and, ih, List.all_cons]
def words1 : List Jvm.Cond := Jvm.Cond.code x code maxLocals ret :: tables_1
/-- a 'code' word, met by the world's own term for the bytes: nothing is compared byte by byte -/
theorem code_word {y : MethodName} {bytes : ByteArray} {mx : Nat} {rt : Option FieldType} {a : Array Value} {s : State} {m : MethodId} {meth : Method} {c : Code} (h1 : s.methodNamed? y = some m) (h2 : s.vm.method? m = some meth) (h3 : meth.code = some c) (h4 : c.code = bytes)
    (h5 : (c.maxLocals == mx && c.exceptionTable.isEmpty && decide (c.maxStack ≤ mostOperands) && decide (meth.sig.returnType = rt) && !meth.locks && decide (parseMethodDescriptor y.desc = some meth.sig)) = true) : (Jvm.Cond.code y bytes mx rt).before a s = true := by
  simp only [Bool.and_eq_true, beq_iff_eq, Bool.not_eq_true', decide_eq_true_eq] at h5
  obtain ⟨⟨⟨⟨⟨g1, g2⟩, g3⟩, g4⟩, g5⟩, g6⟩ := h5
  simp [Cond.before, Cond.holds, Cond.value, h1, h2, h3, h4, g1, g2, g3, g4, g5, g6]
def isCode : Jvm.Cond → Bool
  | .code _ _ _ _ => true
  | _ => false
theorem all_split {L : List Jvm.Cond} {P : Jvm.Cond → Bool} (h1 : L.all (fun c => isCode c || P c) = true) (h2 : ∀ c ∈ L.filter isCode, P c = true) : L.all P = true := by
  refine List.all_eq_true.mpr fun c hc => ?_
  have h := List.all_eq_true.mp h1 c hc
  rcases Bool.eq_false_or_eq_true (isCode c) with hi | hi
  · exact h2 c (List.mem_filter.mpr ⟨hc, hi⟩)
  · simpa [hi] using h
set_option maxRecDepth 65536 in
theorem w_c0 : (Jvm.Cond.code x code maxLocals ret).before args0 about1 = true := code_word (m := ⟨1, 1⟩) (meth := k1m1) (c := k1c1) (by decide +kernel) rfl rfl rfl (by decide +kernel)
set_option maxRecDepth 65536 in
theorem w_c1 : (Jvm.Cond.code ({ cls := "com/example/instances_to_rows/instancestorows/query/JpqlFunctionTakesArgumentsPinLaw", name := "pick", desc := "(I)Lcom/example/instances_to_rows/instancestorows/query/JpqlFunction;" } : Jvm.MethodName) method_3_code (1 : Nat) (Option.some (Jvm.ClassFile.FieldType.object "com/example/instances_to_rows/instancestorows/query/JpqlFunction"))).before args0 about1 = true := code_word (m := ⟨1, 2⟩) (meth := k1m2) (c := k1c2) (by decide +kernel) rfl rfl rfl (by decide +kernel)
set_option maxRecDepth 65536 in
theorem w_c2 : (Jvm.Cond.code ({ cls := "com/example/instances_to_rows/instancestorows/query/JpqlFunction", name := "takesArguments", desc := "()Z" } : Jvm.MethodName) prog_17_method_5_code (1 : Nat) (Option.some Jvm.ClassFile.FieldType.boolean)).before args0 about1 = true := code_word (m := ⟨6, 0⟩) (meth := k6m0) (c := k6c0) (by decide +kernel) rfl rfl rfl (by decide +kernel)
set_option maxRecDepth 65536 in
theorem w_c3 : (Jvm.Cond.code ({ cls := "com/example/instances_to_rows/instancestorows/query/JpqlFunction", name := "takes", desc := "(I)Z" } : Jvm.MethodName) prog_17_method_6_code (2 : Nat) (Option.some Jvm.ClassFile.FieldType.boolean)).before args0 about1 = true := code_word (m := ⟨6, 1⟩) (meth := k6m1) (c := k6c1) (by decide +kernel) rfl rfl rfl (by decide +kernel)
def codes1 : List Jvm.Cond := [Jvm.Cond.code x code maxLocals ret, Jvm.Cond.code ({ cls := "com/example/instances_to_rows/instancestorows/query/JpqlFunctionTakesArgumentsPinLaw", name := "pick", desc := "(I)Lcom/example/instances_to_rows/instancestorows/query/JpqlFunction;" } : Jvm.MethodName) method_3_code (1 : Nat) (Option.some (Jvm.ClassFile.FieldType.object "com/example/instances_to_rows/instancestorows/query/JpqlFunction")), Jvm.Cond.code ({ cls := "com/example/instances_to_rows/instancestorows/query/JpqlFunction", name := "takesArguments", desc := "()Z" } : Jvm.MethodName) prog_17_method_5_code (1 : Nat) (Option.some Jvm.ClassFile.FieldType.boolean), Jvm.Cond.code ({ cls := "com/example/instances_to_rows/instancestorows/query/JpqlFunction", name := "takes", desc := "(I)Z" } : Jvm.MethodName) prog_17_method_6_code (2 : Nat) (Option.some Jvm.ClassFile.FieldType.boolean)]
set_option maxRecDepth 65536 in
theorem codes_eq : words1.filter isCode = codes1 := rfl
theorem w_codes : ∀ c ∈ words1.filter isCode, c.before args0 about1 = true := by
  rw [codes_eq]
  intro c hc
  simp only [codes1, List.mem_cons, List.not_mem_nil, or_false] at hc
  rcases hc with rfl | rfl | rfl | rfl
  · exact w_c0
  · exact w_c1
  · exact w_c2
  · exact w_c3
set_option maxRecDepth 65536 in
theorem w_t1 : (words1.take 24).all (fun c => isCode c || c.before args0 about1) = true := by decide +kernel
set_option maxRecDepth 65536 in
theorem w_t2 : (words1.drop 24).all (fun c => isCode c || c.before args0 about1) = true := by decide +kernel
theorem w_tables : (allAtoms (Jvm.Cond.code x code maxLocals ret :: tables_1)).before args0 about1 = true := by
  rw [allAtoms_all]
  show words1.all (fun c => c.before args0 about1) = true
  refine all_split ?_ w_codes
  rw [← List.take_append_drop 24 words1, List.all_append, w_t1, w_t2]
  rfl
set_option maxRecDepth 65536 in
theorem w_case : (Jvm.Cond.and given_1 narrow_1).before args0 about1 = true := by decide +kernel
theorem w_applies : (headSpec (Jvm.Cond.code x code maxLocals ret :: tables_1) room_1).applies x e0.platform about1 = true :=
  (Spec.applies_iff w_frames).mpr ⟨w_running, w_runnable, w_alone, w_named, w_hears, w_ripe, w_room, w_tables⟩
theorem atStart : AtStart classFile x code maxLocals ret World_1 tables_1 room_1 Calls_1 rest_1 Pre_1 launch0 p0 e0 about1 theMethod args0 below0 :=
  ⟨lists_1, trivial, launch0.admits_env _ _ _, launch0.least_env, fairChoices_fair.cas, fairChoices_fair.clock, w_frames, w_args, w_heap, w_applies, trivial, trivial, w_case⟩
end start1
theorem witness_1 : WitnessClaimed_1 := ⟨start1.p0, start1.e0, start1.about1, start1.theMethod, start1.args0, start1.below0, start1.atStart⟩
end Jvm.Pilot.@@N@@
