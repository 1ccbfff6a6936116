import JvmDerived
import JvmDerived.Pilot.@@N@@Statement
import JvmDerived.Pilot.@@N@@Code
set_option linter.unusedVariables false
set_option linter.unusedSimpArgs false
@@BLOCK:NumsL.lean.txt@@
namespace Jvm.Pilot.@@N@@
open Jvm Jvm.ClassFile Sem Op Lib Jvm.Free Jvm.Stand Jvm.LawKit Jvm.RoadKit Bundle Jvm.Pilot.@@N@@.Jvm.D
section OwnKit
variable {p : Program} {l : Launch} {e : Env} {R : Room} {s : State} {m : MethodId} {args : Array Value} {below : List Frame} {meth : Method} {c : Code} {T : State} {locs : List Loc} {cells slots : Nat} {Z : State} {a0 : Array Value} {h h' : Heap}
/-- from S the run comes to an end of which P holds -/
def Go (p : Program) (e : Env) (below : List Frame) (P : State → Outcome → Prop) (S : State) : Prop :=
  ∃ s₂ o, Steps p.tables e below S s₂ ∧ s₂.status = .running ∧ Ended s₂ below o ∧ P s₂ o
/-- what a contract says of the end -/
def Ret (s : State) (Q : Option Value → Heap → List Loc → Prop) (cs sl : Nat) : State → Outcome → Prop :=
  fun s₂ o => ∃ v L, o = .returned v ∧ Q v s₂.heap L ∧ FrameEnd s o s₂ L cs sl
theorem Go.st {P : State → Outcome → Prop} {S S' : State} (k : ∀ t, Steps p.tables e below S' t → Steps p.tables e below S t) (g : Go p e below P S') : Go p e below P S := by
  obtain ⟨t, o, q, r⟩ := g
  exact ⟨t, o, k t q, r⟩
/-- a contract in this family: entered with these arguments on this heap -/
abbrev Con (l : Launch) (Z : State) (h0 : Heap) (y : MethodName) (bytes : ByteArray) (maxL : Nat) (ret : Option FieldType) (ws : List Jvm.Cond) (rm : Room) (as' : Array Value) (Q : Option Value → Heap → List Loc → Prop) : Prop :=
  MetFree l y (head1 (Jvm.Cond.code y bytes maxL ret :: ws) rm) (fun a U => a = as' ∧ Z.Warmed39 U.vm ∧ U.heap = h0) (fun _ _ _ _ _ => True) (fun _ U o U' => ∃ v L, o = .returned v ∧ Q v U'.heap L ∧ FrameEnd U o U' L rm.cells rm.slots)
theorem own_con {h0 : Heap} {y : MethodName} {bytes : ByteArray} {maxL : Nat} {ret : Option FieldType} {ws : List Jvm.Cond} {rm : Room} {as' : Array Value} {Q : Option Value → Heap → List Loc → Prop} (hpl : plainFor y = true)
    (body : ∀ (p : Program) (e : Env) (s : State) (m : MethodId) (below : List Frame) (meth : Method) (c : Code) (T : State), Stand p l e rm s m as' below meth c T [] 0 0 → p.tables.exec = Jvm.exec → c.code = bytes → c.maxLocals = maxL → s.vm.findClass y.cls = some m.cls → meth.name = y.name → meth.sig.returnType = ret → meth.locks = false → Z.Warmed39 s.vm → T.heap = h0 →
      Go p e below (Ret s Q rm.cells rm.slots) (T.setTop (entryFrame m as' maxL))) : Con l Z h0 y bytes maxL ret ws rm as' Q := by
  refine MetFree.of_bodySF hpl hisR ?_
  intro p e s m args below meth c s₁ Bd hml0 hP hK
  obtain ⟨rfl, hZ, hh⟩ := hP
  exact body p e s m below meth c s₁ (Stand.of_body Bd) Bd.exec Bd.bytes hml0 (findClass_of_methodNamed Bd.named) (name_of_methodNamed Bd.named Bd.method).1 Bd.returns Bd.notSynchronized hZ (by rw [← hh, Bd.state]; rfl)
theorem own_callS (X : Stand p l e R s m args below meth c T locs cells slots) (hx : p.tables.exec = Jvm.exec) (hZ : Z.Warmed39 s.vm)
    {own : String} {index : Nat} {y : MethodName} {bytes : ByteArray} {maxL : Nat} {ret : Option FieldType} {rm : Room} {as' : Array Value} {Q : Option Value → Heap → List Loc → Prop}
    (hown : s.vm.findClass own = some m.cls) (w1 : (Jvm.Cond.methodLink own index y).before a0 Z = true) (w2 : (Jvm.Cond.static y).before a0 Z = true) (w3 : (Jvm.Cond.initialized y.cls).before a0 Z = true) (w4 : (Jvm.Cond.code y bytes maxL ret).before a0 Z = true)
    (hy : y.cls ≠ "java/lang/invoke/MethodHandle" ∧ y.cls ≠ "java/lang/invoke/VarHandle") (eT : T.heap = h) (hM : Con l Z h y bytes maxL ret [] rm as' Q)
    (W : Nat) (hf : rm.frames + 1 ≤ R.frames) (hl : W + (maxL + 11) + rm.locals ≤ R.locals) (hc : cells + rm.cells ≤ R.cells) (hs : slots + rm.slots ≤ R.slots)
    {g : JFrame} (hg : g.method = m) (hsize : g.locals.size = c.maxLocals) (argsL rest : List Value) (has : argsL.toArray = as') (hlen : ∀ sig, parseMethodDescriptor y.desc = some sig → argsL.length = sig.parameters.length) (hstack : g.stack = argsL.reverse ++ rest) (hW : 2 * g.monitorRoom + (rest.map fun v => v.category).sum ≤ W)
    (hd : decode c.code g.pc = .ok (.invokestatic index, 3)) :
    ∃ (v : Option Value) (T' : State) (L : List Loc), Stand p l e R s m args below meth c T' (locs ++ L) (cells + rm.cells) (slots + rm.slots) ∧ Q v T'.heap L ∧ ∀ t, Steps p.tables e below (T'.setTop { g with pc := g.pc + 3, stack := v.toList ++ rest }) t → Steps p.tables e below (T.setTop g) t := by
  obtain ⟨v, _, ⟨T', L', k', n'⟩, -, X', ⟨L, hQ, l1, l2, l3⟩, st⟩ := Jvm.LawKit.callS X hx hown (mvT hZ w1) (mvT hZ w2) (mvT hZ w3) (mvT hZ w4) hy (backOf (W := W) hM hZ w4 w3 hf hl) hg hsize hlen hstack hW hd (fun _ _ => ⟨has, eT, hc, hs⟩)
  dsimp only [Pt.U, Pt.locs, Pt.cells, Pt.slots] at X' l1 l2 l3 st hQ
  subst l1 l2 l3
  exact ⟨v, T', L, X', hQ, st⟩
theorem own_callV (X : Stand p l e R s m args below meth c T locs cells slots) (hx : p.tables.exec = Jvm.exec) (hZ : Z.Warmed39 s.vm)
    {own C : String} {index : Nat} {y z : MethodName} {bytes : ByteArray} {maxL : Nat} {ret : Option FieldType} {rm : Room} {as' : Array Value} {Q : Option Value → Heap → List Loc → Prop} {b : Addr}
    (hown : s.vm.findClass own = some m.cls) (w1 : (Jvm.Cond.methodLink own index y).before a0 Z = true) (w2 : (Jvm.Cond.declares y).before a0 Z = true) (hnf : NotFace s y) (w4 : (Jvm.Cond.selects C y z).before a0 Z = true) (w5 : (Jvm.Cond.instanceMethod z).before a0 Z = true) (w3 : (Jvm.Cond.initialized z.cls).before a0 Z = true) (w6 : (Jvm.Cond.code z bytes maxL ret).before a0 Z = true)
    (hy : y.cls ≠ "java/lang/invoke/MethodHandle" ∧ y.cls ≠ "java/lang/invoke/VarHandle") (eT : T.heap = h) (E : Exa Z h b C) (hM : Con l Z h z bytes maxL ret [] rm as' Q)
    (W : Nat) (hf : rm.frames + 1 ≤ R.frames) (hl : W + (maxL + 11) + rm.locals ≤ R.locals) (hc : cells + rm.cells ≤ R.cells) (hs : slots + rm.slots ≤ R.slots)
    {g : JFrame} (hg : g.method = m) (hsize : g.locals.size = c.maxLocals) (argsL rest : List Value) (has : (.ref b :: argsL).toArray = as') (hlen : ∀ sig, parseMethodDescriptor y.desc = some sig → argsL.length = sig.parameters.length) (hstack : g.stack = argsL.reverse ++ .ref b :: rest) (hW : 2 * g.monitorRoom + (rest.map fun v => v.category).sum ≤ W)
    (hd : decode c.code g.pc = .ok (.invokevirtual index, 3)) :
    ∃ (v : Option Value) (T' : State) (L : List Loc), Stand p l e R s m args below meth c T' (locs ++ L) (cells + rm.cells) (slots + rm.slots) ∧ Q v T'.heap L ∧ ∀ t, Steps p.tables e below (T'.setTop { g with pc := g.pc + 3, stack := v.toList ++ rest }) t → Steps p.tables e below (T.setTop g) t := by
  obtain ⟨cq, kq, qa, qb, qc⟩ := isOf hZ eT E
  obtain ⟨v, _, ⟨T', L', k', n'⟩, -, X', ⟨L, hQ, l1, l2, l3⟩, st⟩ := X.virtualBack hx hown (mvT hZ w1) (mvT hZ w2) hnf (mvT hZ w4) (mvT hZ w5) hy (backOf (W := W) hM hZ w6 w3 hf hl) qa qc hg hsize (Steps.refl _) hlen hstack hW hd (fun _ _ => ⟨has, eT, hc, hs⟩)
  dsimp only [Pt.U, Pt.locs, Pt.cells, Pt.slots] at X' l1 l2 l3 st hQ
  subst l1 l2 l3
  exact ⟨v, T', L, X', hQ, fun t k => st.trans k⟩
theorem own_callI (X : Stand p l e R s m args below meth c T locs cells slots) (hx : p.tables.exec = Jvm.exec) (hZ : Z.Warmed39 s.vm)
    {own : String} {index : Nat} {y : MethodName} {bytes : ByteArray} {maxL : Nat} {rm : Room} {as' : Array Value} {Q : Option Value → Heap → List Loc → Prop} {b : Addr} (hy1 : y.name = "<init>")
    (hown : s.vm.findClass own = some m.cls) (w1 : (Jvm.Cond.methodLink own index y).before a0 Z = true) (w5 : (Jvm.Cond.instanceMethod y).before a0 Z = true) (w3 : (Jvm.Cond.initialized y.cls).before a0 Z = true) (w6 : (Jvm.Cond.code y bytes maxL none).before a0 Z = true)
    (hy : y.cls ≠ "java/lang/invoke/MethodHandle" ∧ y.cls ≠ "java/lang/invoke/VarHandle") (eT : T.heap = h) (hM : Con l Z h y bytes maxL none [] rm as' Q)
    (W : Nat) (hf : rm.frames + 1 ≤ R.frames) (hl : W + (maxL + 11) + rm.locals ≤ R.locals) (hc : cells + rm.cells ≤ R.cells) (hs : slots + rm.slots ≤ R.slots)
    {g : JFrame} (hg : g.method = m) (hsize : g.locals.size = c.maxLocals) (argsL rest : List Value) (has : (.ref b :: argsL).toArray = as') (hlen : ∀ sig, parseMethodDescriptor y.desc = some sig → argsL.length = sig.parameters.length) (hstack : g.stack = argsL.reverse ++ .ref b :: rest) (hW : 2 * g.monitorRoom + (rest.map fun v => v.category).sum ≤ W)
    (hd : decode c.code g.pc = .ok (.invokespecial index, 3)) :
    ∃ (v : Option Value) (T' : State) (L : List Loc), Stand p l e R s m args below meth c T' (locs ++ L) (cells + rm.cells) (slots + rm.slots) ∧ Q v T'.heap L ∧ ∀ t, Steps p.tables e below (T'.setTop { g with pc := g.pc + 3, stack := v.toList ++ rest }) t → Steps p.tables e below (T.setTop g) t := by
  obtain ⟨v, _, ⟨T', L', k', n'⟩, -, X', ⟨L, hQ, l1, l2, l3⟩, st⟩ := X.specialBack hx hy1 hown (mvT hZ w1) (mvT hZ w5) (mvT hZ w6) hy (backOf (W := W) hM hZ w6 w3 hf hl) hg hsize (Steps.refl _) hlen hstack hW hd (fun _ _ => ⟨has, eT, hc, hs⟩)
  dsimp only [Pt.U, Pt.locs, Pt.cells, Pt.slots] at X' l1 l2 l3 st hQ
  subst l1 l2 l3
  exact ⟨v, T', L, X', hQ, fun t k => st.trans k⟩
/-- the end of a walk -/
theorem own_fin (X : Stand p l e R s m args below meth c T locs cells slots) (hlk : meth.locks = false) {v : Option Value} (hv : meth.sig.returnType = none → v = none) {Q : Option Value → Heap → List Loc → Prop} {cs sl : Nat} (eT : T.heap = h) (hQ : Q v h locs) (hc : cells ≤ cs) (hs : slots ≤ sl) {S : State}
    (k : ∀ fs : List Frame, (∀ (f : JFrame) (acts : List Action), f.method = m → f.locked = none → f.entered = [] → (doReturn e (T.setTop f) acts v).1 = T.setFrames fs) → Steps p.tables e below S (T.setFrames fs)) : Go p e below (Ret s Q cs sl) S := by
  obtain ⟨fs, hr, hrun, hended, hW, hsame⟩ := X.leave hv hlk
  refine ⟨_, _, k fs hr, hrun, hended, _, _, rfl, ?_, ⟨_, rfl⟩, hW, hsame.mono hc hs⟩
  have q : (T.setFrames fs).heap = h := eT
  rw [q]; exact hQ
theorem own_retO (X : Stand p l e R s m args below meth c T locs cells slots) (hx : p.tables.exec = Jvm.exec) (hlk : meth.locks = false) {pc : Nat} {Ls : Array Slot} {w : Value} {t : FieldType} {i : Instr} {rest : List Value} (hret : meth.sig.returnType = some t) (hn : narrow t w = w)
    (hi : (i = .ireturn ∧ (t = .int ∨ t = .boolean ∨ t = .byte ∨ t = .char ∨ t = .short) ∧ ∃ z, w = .int z) ∨ (i = .lreturn ∧ t = .long ∧ ∃ z, w = .long z) ∨ (i = .dreturn ∧ t = .double ∧ ∃ z, w = .double z) ∨ (i = .freturn ∧ t = .float ∧ ∃ z, w = .float z) ∨ (i = .areturn ∧ t.isReference = true ∧ w.isRef = true))
    (hd : decode c.code pc = .ok (i, 1)) {Q : Option Value → Heap → List Loc → Prop} {cs sl : Nat} (eT : T.heap = h) (hQ : Q (some w) h locs) (hc : cells ≤ cs) (hs : slots ≤ sl) : Go p e below (Ret s Q cs sl) (T.setTop (mkF m pc Ls (w :: rest))) :=
  own_fin X hlk (fun q => by rw [hret] at q; cases q) eT hQ hc hs fun fs hr => retOut X hx hret hn hi hd hr
theorem own_retI (X : Stand p l e R s m args below meth c T locs cells slots) (hx : p.tables.exec = Jvm.exec) (hlk : meth.locks = false) {pc : Nat} {Ls : Array Slot} {w : Int32} {rest : List Value} (hret : meth.sig.returnType = some .int)
    (hd : decode c.code pc = .ok (.ireturn, 1)) {Q : Option Value → Heap → List Loc → Prop} {cs sl : Nat} (eT : T.heap = h) (hQ : Q (some (.int w)) h locs) (hc : cells ≤ cs) (hs : slots ≤ sl) : Go p e below (Ret s Q cs sl) (T.setTop (mkF m pc Ls (.int w :: rest))) :=
  own_retO X hx hlk hret rfl (Or.inl ⟨rfl, Or.inl rfl, _, rfl⟩) hd eT hQ hc hs
theorem own_retJ (X : Stand p l e R s m args below meth c T locs cells slots) (hx : p.tables.exec = Jvm.exec) (hlk : meth.locks = false) {pc : Nat} {Ls : Array Slot} {w : Int64} {rest : List Value} (hret : meth.sig.returnType = some .long)
    (hd : decode c.code pc = .ok (.lreturn, 1)) {Q : Option Value → Heap → List Loc → Prop} {cs sl : Nat} (eT : T.heap = h) (hQ : Q (some (.long w)) h locs) (hc : cells ≤ cs) (hs : slots ≤ sl) : Go p e below (Ret s Q cs sl) (T.setTop (mkF m pc Ls (.long w :: rest))) :=
  own_retO X hx hlk hret rfl (Or.inr (Or.inl ⟨rfl, rfl, _, rfl⟩)) hd eT hQ hc hs
theorem own_retA (X : Stand p l e R s m args below meth c T locs cells slots) (hx : p.tables.exec = Jvm.exec) (hlk : meth.locks = false) {pc : Nat} {Ls : Array Slot} {w : Value} {t : FieldType} {rest : List Value} (hret : meth.sig.returnType = some t) (hn : narrow t w = w) (ht : t.isReference = true) (hw : w.isRef = true)
    (hd : decode c.code pc = .ok (.areturn, 1)) {Q : Option Value → Heap → List Loc → Prop} {cs sl : Nat} (eT : T.heap = h) (hQ : Q (some w) h locs) (hc : cells ≤ cs) (hs : slots ≤ sl) : Go p e below (Ret s Q cs sl) (T.setTop (mkF m pc Ls (w :: rest))) :=
  own_retO X hx hlk hret hn (Or.inr (Or.inr (Or.inr (Or.inr ⟨rfl, ht, hw⟩)))) hd eT hQ hc hs
theorem own_retN (X : Stand p l e R s m args below meth c T locs cells slots) (hx : p.tables.exec = Jvm.exec) (hlk : meth.locks = false) {pc : Nat} {Ls : Array Slot} {z : Int32} {t : FieldType} {rest : List Value} (hret : meth.sig.returnType = some t) (ht : t = .boolean ∨ t = .byte ∨ t = .char ∨ t = .short)
    (hd : decode c.code pc = .ok (.ireturn, 1)) {Q : Option Value → Heap → List Loc → Prop} {cs sl : Nat} (eT : T.heap = h) (hQ : Q (some (.int (nar t z))) h locs) (hc : cells ≤ cs) (hs : slots ≤ sl) : Go p e below (Ret s Q cs sl) (T.setTop (mkF m pc Ls (.int z :: rest))) :=
  own_fin X hlk (fun q => by rw [hret] at q; cases q) eT hQ hc hs fun fs hr => retN X hx hret ht hd hr
theorem own_retV (X : Stand p l e R s m args below meth c T locs cells slots) (hx : p.tables.exec = Jvm.exec) (hlk : meth.locks = false) {pc : Nat} {Ls : Array Slot} (hret : meth.sig.returnType = none)
    (hd : decode c.code pc = .ok (.return_, 1)) {Q : Option Value → Heap → List Loc → Prop} {cs sl : Nat} (eT : T.heap = h) (hQ : Q none h locs) (hc : cells ≤ cs) (hs : slots ≤ sl) : Go p e below (Ret s Q cs sl) (T.setTop (mkF m pc Ls [])) :=
  own_fin X hlk (fun _ => rfl) eT hQ hc hs fun fs hr => X.returnOut hx hret hd hr
theorem own_Llt {x y : Int64} (h : x < y) : ifCond.holds .lt (lcmpW x y) = true ∧ ifCond.holds .ge (lcmpW x y) = false := by
  have q := (lc_lt x y).mpr h; rw [← lcW] at q; exact ⟨(if0 _ _).trans (tlt q).1, (if0 _ _).trans (tlt q).2.1⟩
theorem own_Lnlt {x y : Int64} (h : ¬ x < y) : ifCond.holds .lt (lcmpW x y) = false ∧ ifCond.holds .ge (lcmpW x y) = true := by
  have q : ¬ lcmpW x y < 0 := fun r => h ((lc_lt x y).mp (by rw [← lcW]; exact r)); exact ⟨(if0 _ _).trans (flt q).1, (if0 _ _).trans (flt q).2.1⟩
theorem own_Lgt {x y : Int64} (h : y < x) : ifCond.holds .gt (lcmpW x y) = true ∧ ifCond.holds .le (lcmpW x y) = false := by
  have q := (lc_gt x y).mpr h; rw [← lcW] at q; exact ⟨(if0 _ _).trans (tlt q).2.2.1, (if0 _ _).trans (tlt q).2.2.2⟩
theorem own_Lngt {x y : Int64} (h : ¬ y < x) : ifCond.holds .gt (lcmpW x y) = false ∧ ifCond.holds .le (lcmpW x y) = true := by
  have q : ¬ 0 < lcmpW x y := fun r => h ((lc_gt x y).mp (by rw [← lcW]; exact r)); exact ⟨(if0 _ _).trans (flt q).2.2.1, (if0 _ _).trans (flt q).2.2.2⟩
theorem own_Leq {x y : Int64} (h : x = y) : ifCond.holds .eq (lcmpW x y) = true ∧ ifCond.holds .ne (lcmpW x y) = false := by
  have q := (lc_eq x y).mpr h; rw [← lcW] at q; exact ⟨(if0 _ _).trans (teq q).1, (if0 _ _).trans (teq q).2⟩
theorem own_Lne {x y : Int64} (h : ¬ x = y) : ifCond.holds .eq (lcmpW x y) = false ∧ ifCond.holds .ne (lcmpW x y) = true := by
  have q : ¬ lcmpW x y = 0 := fun r => h ((lc_eq x y).mp (by rw [← lcW]; exact r)); exact ⟨(if0 _ _).trans (feq q).1, (if0 _ _).trans (feq q).2⟩
theorem own_Ext.refl (h : Heap) : Ext h h := ⟨Nat.le_refl _, fun _ _ q => q⟩
theorem own_Ext.trans {h1 h2 h3 : Heap} (a : Ext h1 h2) (b : Ext h2 h3) : Ext h1 h3 := ⟨Nat.le_trans a.1 b.1, fun x c q => b.2 x c (a.2 x c q)⟩
theorem own_Ext.wr {h0 : Heap} {a : Addr} {sl : Nat} {v : Value} (E : Ext h0 h) (W : Wr h h' a sl v) (q : h0.size ≤ a) : Ext h0 h' := by
  have K : Keep h0 h [] := ⟨E.1, fun x c r _ => E.2 x c r, fun x c r => ⟨c, E.2 x c r, rfl, rfl, rfl⟩⟩
  have K' := K.wr W (Or.inr q)
  exact ⟨K'.1, fun x c r => K'.2.1 x c r (fun z => nomatch z)⟩
theorem own_Ext.keep {h0 : Heap} {ws : List Addr} (E : Ext h0 h) (K : Keep h h' ws) (q : ∀ x ∈ ws, h0.size ≤ x) : Ext h0 h' := by
  refine ⟨Nat.le_trans E.1 K.1, fun x c r => K.2.1 x c (E.2 x c r) fun z => ?_⟩
  have lt : x < h0.size := (Array.getElem?_eq_some_iff.mp r).1
  exact absurd (q x z) (Nat.not_le_of_lt lt)
theorem own_fldI {t : Term} {x : Addr} {C n d : String} {k : Int32} (ev : t.eval args s none [] s = some (.ref x)) (hq : (Jvm.Cond.eq (.field t C n d) (.int k)).value args s none s [] = some true) : Fld s s.heap x C n d (.int k) := by
  obtain ⟨u, v, e1, e2, k1, k2⟩ := cmp_v (Or.inl hq)
  obtain rfl : v = .int k := (Option.some.inj (e2.symm.trans (Term.int_eval k)))
  obtain ⟨z, rfl⟩ := k2
  obtain rfl : z = k := gotT (Jvm.Cond.eq_ints e1 (Term.int_eval k)) hq
  exact Fld.start ((fld_at ev).symm.trans e1)
theorem own_fldJ {t : Term} {x : Addr} {C n d : String} {k : Int64} (ev : t.eval args s none [] s = some (.ref x)) (hq : (Jvm.Cond.eq (.field t C n d) (.long k)).value args s none s [] = some true) : Fld s s.heap x C n d (.long k) := by
  obtain ⟨u, v, e1, e2, k1, k2⟩ := cmp_v (Or.inl hq)
  obtain rfl : v = .long k := (Option.some.inj (e2.symm.trans (long_at k)))
  obtain ⟨z, rfl⟩ := k2
  obtain rfl : z = k := gotT (eq_L e1 (long_at k)) hq
  exact Fld.start ((fld_at ev).symm.trans e1)
theorem own_len0 {t : Term} {x : Addr} {ty : FieldType} {cl : Cell} (ev : t.eval args s none [] s = some (.ref x)) (A : Arr s s.heap x cl ty) (hq : (Jvm.Cond.eq (.length t) (.int 0)).value args s none s [] = some true) : True := trivial
end OwnKit
/-- the sheet's i-th word -/
theorem ww {Z : State} {a0 : Array Value} (hw : ∀ d ∈ tables_1, d.before a0 Z = true) (i : Nat) {d : Jvm.Cond} (h : tables_1[i]? = some d) : d.before a0 Z = true := hw _ (List.mem_of_getElem? h)
section OwnHeap
variable {p : Program} {l : Launch} {e : Env} {R : Room} {s : State} {m : MethodId} {args : Array Value} {below : List Frame} {meth : Method} {c : Code} {T : State} {locs : List Loc} {cells slots : Nat} {Z : State} {a0 : Array Value} {h h' : Heap} {a : Addr} {k : ClassId} {ty : FieldType} {z j : Int32} {vs : List Value} {dv v : Value} {g : JFrame} {rest : List Value}
theorem own_arvset {i : Nat} (F : Arv Z h a k ty z vs dv) (hv : fits ty v = true) (W : Wr h h' a j.toNatClampNeg v) (hi : j.toNatClampNeg = i) (hl : i < vs.length) : Arv Z h' a k ty z (vs.set i v) dv := by
  obtain ⟨cl, A, q, S, N, H, G⟩ := F
  exact Arv.set A q S N H G hv W i hi hl
theorem own_stI (X : Stand p l e R s m args below meth c T locs cells slots) (hx : p.tables.exec = Jvm.exec) (hZ : Z.Warmed39 s.vm) (eT : T.heap = h) (F : Arv Z h a k .int z vs dv) {x : Int32} (hj : ¬ j < 0 ∧ j < z) (i : Nat) (hi : j.toNatClampNeg = i) (hl : i < vs.length) (hg : g.method = m) (hs : g.stack = .int x :: .int j :: .ref a :: rest) (hd : decode c.code g.pc = .ok (.iastore, 1)) :
    ∃ T' h', Stand p l e R s m args below meth c T' (locs ++ [⟨a, j.toNatClampNeg⟩]) cells slots ∧ T'.heap = h' ∧ Wr h h' a j.toNatClampNeg (.int x) ∧ Arv Z h' a k .int z (vs.set i (.int x)) dv ∧ ∀ target, Steps p.tables e below (T'.setTop { g with pc := g.pc + 1, stack := rest }) target → Steps p.tables e below (T.setTop g) target := by
  obtain ⟨cl, A, q, S, N, H, G⟩ := id F
  obtain ⟨T', h', X', e', W, st⟩ := stI X hx hZ eT A (inb_of S hj) hg hs hd
  exact ⟨T', h', X', e', W, own_arvset F rfl W hi hl, st⟩
theorem own_stJ (X : Stand p l e R s m args below meth c T locs cells slots) (hx : p.tables.exec = Jvm.exec) (hZ : Z.Warmed39 s.vm) (eT : T.heap = h) (F : Arv Z h a k .long z vs dv) {x : Int64} (hj : ¬ j < 0 ∧ j < z) (i : Nat) (hi : j.toNatClampNeg = i) (hl : i < vs.length) (hg : g.method = m) (hs : g.stack = .long x :: .int j :: .ref a :: rest) (hd : decode c.code g.pc = .ok (.lastore, 1)) :
    ∃ T' h', Stand p l e R s m args below meth c T' (locs ++ [⟨a, j.toNatClampNeg⟩]) cells slots ∧ T'.heap = h' ∧ Wr h h' a j.toNatClampNeg (.long x) ∧ Arv Z h' a k .long z (vs.set i (.long x)) dv ∧ ∀ target, Steps p.tables e below (T'.setTop { g with pc := g.pc + 1, stack := rest }) target → Steps p.tables e below (T.setTop g) target := by
  obtain ⟨cl, A, q, S, N, H, G⟩ := id F
  obtain ⟨T', h', X', e', W, st⟩ := stJ X hx hZ eT A (inb_of S hj) hg hs hd
  exact ⟨T', h', X', e', W, own_arvset F rfl W hi hl, st⟩
theorem own_stB (X : Stand p l e R s m args below meth c T locs cells slots) (hx : p.tables.exec = Jvm.exec) (hZ : Z.Warmed39 s.vm) (eT : T.heap = h) (F : Arv Z h a k .byte z vs dv) {x : Int32} (hj : ¬ j < 0 ∧ j < z) (i : Nat) (hi : j.toNatClampNeg = i) (hl : i < vs.length) (hg : g.method = m) (hs : g.stack = .int x :: .int j :: .ref a :: rest) (hd : decode c.code g.pc = .ok (.bastore, 1)) :
    ∃ T' h', Stand p l e R s m args below meth c T' (locs ++ [⟨a, j.toNatClampNeg⟩]) cells slots ∧ T'.heap = h' ∧ Wr h h' a j.toNatClampNeg (.int (nar .byte x)) ∧ Arv Z h' a k .byte z (vs.set i (.int (nar .byte x))) dv ∧ ∀ target, Steps p.tables e below (T'.setTop { g with pc := g.pc + 1, stack := rest }) target → Steps p.tables e below (T.setTop g) target := by
  obtain ⟨cl, A, q, S, N, H, G⟩ := id F
  obtain ⟨T', h', X', e', W, st⟩ := stB X hx hZ eT A (inb_of S hj) hg hs hd
  exact ⟨T', h', X', e', W, own_arvset F (fits_nar_byte _) W hi hl, st⟩
theorem own_stC (X : Stand p l e R s m args below meth c T locs cells slots) (hx : p.tables.exec = Jvm.exec) (hZ : Z.Warmed39 s.vm) (eT : T.heap = h) (F : Arv Z h a k .char z vs dv) {x : Int32} (hj : ¬ j < 0 ∧ j < z) (i : Nat) (hi : j.toNatClampNeg = i) (hl : i < vs.length) (hg : g.method = m) (hs : g.stack = .int x :: .int j :: .ref a :: rest) (hd : decode c.code g.pc = .ok (.castore, 1)) :
    ∃ T' h', Stand p l e R s m args below meth c T' (locs ++ [⟨a, j.toNatClampNeg⟩]) cells slots ∧ T'.heap = h' ∧ Wr h h' a j.toNatClampNeg (.int (nar .char x)) ∧ Arv Z h' a k .char z (vs.set i (.int (nar .char x))) dv ∧ ∀ target, Steps p.tables e below (T'.setTop { g with pc := g.pc + 1, stack := rest }) target → Steps p.tables e below (T.setTop g) target := by
  obtain ⟨cl, A, q, S, N, H, G⟩ := id F
  obtain ⟨T', h', X', e', W, st⟩ := stC X hx hZ eT A (inb_of S hj) hg hs hd
  exact ⟨T', h', X', e', W, own_arvset F (fits_nar_char _) W hi hl, st⟩
theorem own_stR (X : Stand p l e R s m args below meth c T locs cells slots) (hx : p.tables.exec = Jvm.exec) (hZ : Z.Warmed39 s.vm) (eT : T.heap = h) {C : String} {y : Addr} (F : Arv Z h a k (.object C) z vs dv) (O : Ovr Z k C) (I : Ins Z h y C true) (hj : ¬ j < 0 ∧ j < z) (i : Nat) (hi : j.toNatClampNeg = i) (hl : i < vs.length) (hg : g.method = m) (hs : g.stack = .ref y :: .int j :: .ref a :: rest) (hd : decode c.code g.pc = .ok (.aastore, 1)) :
    ∃ T' h', Stand p l e R s m args below meth c T' (locs ++ [⟨a, j.toNatClampNeg⟩]) cells slots ∧ T'.heap = h' ∧ Wr h h' a j.toNatClampNeg (.ref y) ∧ Arv Z h' a k (.object C) z (vs.set i (.ref y)) dv ∧ ∀ target, Steps p.tables e below (T'.setTop { g with pc := g.pc + 1, stack := rest }) target → Steps p.tables e below (T.setTop g) target := by
  obtain ⟨cl, A, q, S, N, H, G⟩ := id F
  obtain ⟨T', h', X', e', W, st⟩ := stR X hx hZ eT A (inb_of S hj) rfl (Sto.ofV A q O I) hg hs hd
  exact ⟨T', h', X', e', W, own_arvset F rfl W hi hl, st⟩
theorem own_ldR (X : Stand p l e R s m args below meth c T locs cells slots) (hx : p.tables.exec = Jvm.exec) (hZ : Z.Warmed39 s.vm) (eT : T.heap = h) (F : Arv Z h a k ty z vs dv) (hty : ty.isReference = true) (hj : ¬ j < 0 ∧ j < z) (hv : vs.getD j.toNatClampNeg dv = v) (hg : g.method = m) (hs : g.stack = .int j :: .ref a :: rest) (hd : decode c.code g.pc = .ok (.aaload, 1)) :
    ∀ target, Steps p.tables e below (T.setTop { g with pc := g.pc + 1, stack := v :: rest }) target → Steps p.tables e below (T.setTop g) target := by
  obtain ⟨cl, A, q, S, N, H, G⟩ := F
  exact fun t k => X.aaload hx (by rw [eT]; exact A.1) (State.isArrayOf_alike hZ.alike A.2.1) hty A.2.2 (inb_of S hj) (H.at (inb_of S hj) hv) hg hs hd t k
theorem own_ldJ (X : Stand p l e R s m args below meth c T locs cells slots) (hx : p.tables.exec = Jvm.exec) (hZ : Z.Warmed39 s.vm) (eT : T.heap = h) (F : Arv Z h a k .long z vs dv) (hj : ¬ j < 0 ∧ j < z) (hv : vs.getD j.toNatClampNeg dv = v) (hg : g.method = m) (hs : g.stack = .int j :: .ref a :: rest) (hd : decode c.code g.pc = .ok (.laload, 1)) :
    ∀ target, Steps p.tables e below (T.setTop { g with pc := g.pc + 1, stack := v :: rest }) target → Steps p.tables e below (T.setTop g) target := by
  obtain ⟨cl, A, q, S, N, H, G⟩ := F
  exact fun t k => X.laload hx (by rw [eT]; exact A.1) (State.isArrayOf_alike hZ.alike A.2.1) A.2.2 (inb_of S hj) (H.at (inb_of S hj) hv) hg hs hd t k
theorem own_ldI (X : Stand p l e R s m args below meth c T locs cells slots) (hx : p.tables.exec = Jvm.exec) (hZ : Z.Warmed39 s.vm) (eT : T.heap = h) (F : Arv Z h a k .int z vs dv) (hj : ¬ j < 0 ∧ j < z) (hv : vs.getD j.toNatClampNeg dv = v) (hg : g.method = m) (hs : g.stack = .int j :: .ref a :: rest) (hd : decode c.code g.pc = .ok (.iaload, 1)) :
    ∀ target, Steps p.tables e below (T.setTop { g with pc := g.pc + 1, stack := v :: rest }) target → Steps p.tables e below (T.setTop g) target := by
  obtain ⟨cl, A, q, S, N, H, G⟩ := F
  exact fun t k => X.iaload hx (by rw [eT]; exact A.1) (State.isArrayOf_alike hZ.alike A.2.1) A.2.2 (inb_of S hj) (H.at (inb_of S hj) hv) hg hs hd t k
theorem own_ldB (X : Stand p l e R s m args below meth c T locs cells slots) (hx : p.tables.exec = Jvm.exec) (hZ : Z.Warmed39 s.vm) (eT : T.heap = h) (F : Arv Z h a k .byte z vs dv) (hj : ¬ j < 0 ∧ j < z) (hv : vs.getD j.toNatClampNeg dv = v) (hg : g.method = m) (hs : g.stack = .int j :: .ref a :: rest) (hd : decode c.code g.pc = .ok (.baload, 1)) :
    ∀ target, Steps p.tables e below (T.setTop { g with pc := g.pc + 1, stack := v :: rest }) target → Steps p.tables e below (T.setTop g) target := by
  obtain ⟨cl, A, q, S, N, H, G⟩ := F
  exact fun t k => X.baloadBytes hx (by rw [eT]; exact A.1) (State.isArrayOf_alike hZ.alike A.2.1) A.2.2 (inb_of S hj) (H.at (inb_of S hj) hv) hg hs hd t k
theorem own_alen (X : Stand p l e R s m args below meth c T locs cells slots) (hx : p.tables.exec = Jvm.exec) (hZ : Z.Warmed39 s.vm) (eT : T.heap = h) (F : Arv Z h a k ty z vs dv) (hg : g.method = m) (hs : g.stack = .ref a :: rest) (hd : decode c.code g.pc = .ok (.arraylength, 1)) :
    ∀ target, Steps p.tables e below (T.setTop { g with pc := g.pc + 1, stack := .int z :: rest }) target → Steps p.tables e below (T.setTop g) target := by
  obtain ⟨cl, A, q, S, N, H, G⟩ := F
  intro t k
  refine X.arraylength hx (by rw [eT]; exact A.1) (State.isArrayOf_alike hZ.alike A.2.1) hg hs hd t ?_
  rw [len_of S N]; exact k
theorem own_lt_ne {x y : Addr} (q : x < h.size) (g : y = h.size) : x ≠ y := Nat.ne_of_lt (g ▸ q)
theorem own_lt_ne' {x y : Addr} (q : x < h.size) (g : h.size ≤ y) : x ≠ y := Nat.ne_of_lt (Nat.lt_of_lt_of_le q g)
theorem own_callVU (X : Stand p l e R s m args below meth c T locs cells slots) (hx : p.tables.exec = Jvm.exec) (hZ : Z.Warmed39 s.vm)
    {own C owner : String} {index : Nat} {y z : MethodName} {bytes : ByteArray} {maxL : Nat} {ret : Option FieldType} {rm : Room} {as' : Array Value} {Q : Option Value → Heap → List Loc → Prop} {b : Addr}
    (hown : s.vm.findClass own = some m.cls) (w1 : (Jvm.Cond.methodLink own index y).before a0 Z = true) (w2 : (Jvm.Cond.sameMethod y.cls owner y.name y.desc).before a0 Z = true) (w7 : (Jvm.Cond.declares ⟨owner, y.name, y.desc⟩).before a0 Z = true) (ho : owner ≠ "java/lang/invoke/MethodHandle" ∧ owner ≠ "java/lang/invoke/VarHandle") (w4 : (Jvm.Cond.selects C y z).before a0 Z = true) (w5 : (Jvm.Cond.instanceMethod z).before a0 Z = true) (w3 : (Jvm.Cond.initialized z.cls).before a0 Z = true) (w6 : (Jvm.Cond.code z bytes maxL ret).before a0 Z = true)
    (eT : T.heap = h) (E : Exa Z h b C) (hM : Con l Z h z bytes maxL ret [] rm as' Q)
    (W : Nat) (hf : rm.frames + 1 ≤ R.frames) (hl : W + (maxL + 11) + rm.locals ≤ R.locals) (hc : cells + rm.cells ≤ R.cells) (hs : slots + rm.slots ≤ R.slots)
    {g : JFrame} (hg : g.method = m) (hsize : g.locals.size = c.maxLocals) (argsL rest : List Value) (has : (.ref b :: argsL).toArray = as') (hlen : ∀ sig, parseMethodDescriptor y.desc = some sig → argsL.length = sig.parameters.length) (hstack : g.stack = argsL.reverse ++ .ref b :: rest) (hW : 2 * g.monitorRoom + (rest.map fun v => v.category).sum ≤ W)
    (hd : decode c.code g.pc = .ok (.invokevirtual index, 3)) :
    ∃ (v : Option Value) (T' : State) (L : List Loc), Stand p l e R s m args below meth c T' (locs ++ L) (cells + rm.cells) (slots + rm.slots) ∧ Q v T'.heap L ∧ ∀ t, Steps p.tables e below (T'.setTop { g with pc := g.pc + 3, stack := v.toList ++ rest }) t → Steps p.tables e below (T.setTop g) t := by
  obtain ⟨cq, kq, qa, qb, qc⟩ := isOf hZ eT E
  obtain ⟨v, _, ⟨T', L', k', n'⟩, -, X', ⟨L, hQ, l1, l2, l3⟩, st⟩ := X.virtualBackUp hx hown (mvT hZ w1) (mvT hZ w2) (mvT hZ w7) ho (mvT hZ w4) (mvT hZ w5) (backOf (W := W) hM hZ w6 w3 hf hl) qa qc hg hsize (Steps.refl _) hlen hstack hW hd (fun _ _ => ⟨has, eT, hc, hs⟩)
  dsimp only [Pt.U, Pt.locs, Pt.cells, Pt.slots] at X' l1 l2 l3 st hQ
  subst l1 l2 l3
  exact ⟨v, T', L, X', hQ, fun t k => st.trans k⟩
theorem own_callF (X : Stand p l e R s m args below meth c T locs cells slots) (hx : p.tables.exec = Jvm.exec) (hZ : Z.Warmed39 s.vm)
    {own C : String} {index count : Nat} {y z : MethodName} {bytes : ByteArray} {maxL : Nat} {ret : Option FieldType} {rm : Room} {as' : Array Value} {Q : Option Value → Heap → List Loc → Prop} {b : Addr}
    (hown : s.vm.findClass own = some m.cls) (w1 : (Jvm.Cond.methodLink own index y).before a0 Z = true) (w2 : (Jvm.Cond.declares y).before a0 Z = true) (w7 : (Jvm.Cond.interfaceMethod y.cls y.cls y.name y.desc).before a0 Z = true) (w4 : (Jvm.Cond.selects C y z).before a0 Z = true) (w5 : (Jvm.Cond.instanceMethod z).before a0 Z = true) (w8 : (Jvm.Cond.publicMethod z).before a0 Z = true) (w9 : (Jvm.Cond.unhidden C y.name y.desc).before a0 Z = true) (w10 : (Jvm.Cond.castable C y.cls).before a0 Z = true) (w3 : (Jvm.Cond.initialized z.cls).before a0 Z = true) (w6 : (Jvm.Cond.code z bytes maxL ret).before a0 Z = true)
    (hy : y.cls ≠ "java/lang/invoke/MethodHandle" ∧ y.cls ≠ "java/lang/invoke/VarHandle") (eT : T.heap = h) (E : Exa Z h b C) (hM : Con l Z h z bytes maxL ret [] rm as' Q)
    (W : Nat) (hf : rm.frames + 1 ≤ R.frames) (hl : W + (maxL + 11) + rm.locals ≤ R.locals) (hc : cells + rm.cells ≤ R.cells) (hs : slots + rm.slots ≤ R.slots)
    {g : JFrame} (hg : g.method = m) (hsize : g.locals.size = c.maxLocals) (argsL rest : List Value) (has : (.ref b :: argsL).toArray = as') (hlen : ∀ sig, parseMethodDescriptor y.desc = some sig → argsL.length = sig.parameters.length) (hstack : g.stack = argsL.reverse ++ .ref b :: rest) (hW : 2 * g.monitorRoom + (rest.map fun v => v.category).sum ≤ W)
    (hd : decode c.code g.pc = .ok (.invokeinterface index count, 5)) :
    ∃ (v : Option Value) (T' : State) (L : List Loc), Stand p l e R s m args below meth c T' (locs ++ L) (cells + rm.cells) (slots + rm.slots) ∧ Q v T'.heap L ∧ ∀ t, Steps p.tables e below (T'.setTop { g with pc := g.pc + 5, stack := v.toList ++ rest }) t → Steps p.tables e below (T.setTop g) t := by
  obtain ⟨cq, kq, qa, qb, qc⟩ := isOf hZ eT E
  obtain ⟨v, _, ⟨T', L', k', n'⟩, -, X', ⟨L, hQ, l1, l2, l3⟩, st⟩ := X.interfaceBack hx hown (mvT hZ w1) (mvT hZ w2) (mvT hZ w7 (by simp [Cond.onTables, Cond.keepsFace, Cond.keeps, Cond.steady, Cond.faceAtom, hy.1, hy.2])) (mvT hZ w4) (mvT hZ w5) (mvT hZ w8) (mvT hZ w9) (mvT hZ w10) hy (backOf (W := W) hM hZ w6 w3 hf hl) qa qb qc hg hsize (Steps.refl _) hlen hstack hW hd (fun _ _ => ⟨has, eT, hc, hs⟩)
  dsimp only [Pt.U, Pt.locs, Pt.cells, Pt.slots] at X' l1 l2 l3 st hQ
  subst l1 l2 l3
  exact ⟨v, T', L, X', hQ, fun t k => st.trans k⟩
theorem own_callP (X : Stand p l e R s m args below meth c T locs cells slots) (hx : p.tables.exec = Jvm.exec) (hZ : Z.Warmed39 s.vm)
    {own : String} {index n : Nat} {y : MethodName} {bytes : ByteArray} {maxL : Nat} {ret : Option FieldType} {rm : Room} {as' : Array Value} {Q : Option Value → Heap → List Loc → Prop} {b : Addr} {C : String}
    (hown : s.vm.findClass own = some m.cls) (w1 : (Jvm.Cond.methodLink own index y).before a0 Z = true) (w5 : (Jvm.Cond.instanceMethod y).before a0 Z = true) (w2 : (Jvm.Cond.privateMethod y).before a0 Z = true) (wi : (Jvm.Cond.instantiable y.cls n).before a0 Z = true) (w3 : (Jvm.Cond.initialized y.cls).before a0 Z = true) (w6 : (Jvm.Cond.code y bytes maxL ret).before a0 Z = true)
    (hy : y.cls ≠ "java/lang/invoke/MethodHandle" ∧ y.cls ≠ "java/lang/invoke/VarHandle") (eT : T.heap = h) (E : Exa Z h b C) (hM : Con l Z h y bytes maxL ret [] rm as' Q)
    (W : Nat) (hf : rm.frames + 1 ≤ R.frames) (hl : W + (maxL + 11) + rm.locals ≤ R.locals) (hc : cells + rm.cells ≤ R.cells) (hs : slots + rm.slots ≤ R.slots)
    {g : JFrame} (hg : g.method = m) (hsize : g.locals.size = c.maxLocals) (argsL rest : List Value) (has : (.ref b :: argsL).toArray = as') (hlen : ∀ sig, parseMethodDescriptor y.desc = some sig → argsL.length = sig.parameters.length) (hstack : g.stack = argsL.reverse ++ .ref b :: rest) (hW : 2 * g.monitorRoom + (rest.map fun v => v.category).sum ≤ W)
    (hd : decode c.code g.pc = .ok (.invokevirtual index, 3)) :
    ∃ (v : Option Value) (T' : State) (L : List Loc), Stand p l e R s m args below meth c T' (locs ++ L) (cells + rm.cells) (slots + rm.slots) ∧ Q v T'.heap L ∧ ∀ t, Steps p.tables e below (T'.setTop { g with pc := g.pc + 3, stack := v.toList ++ rest }) t → Steps p.tables e below (T.setTop g) t := by
  obtain ⟨cq, q1, q2⟩ := E.cell
  have hpriv := Cond.privateMethod_at (mvP hZ w2 (args := args))
  have wi' : (Jvm.Cond.instantiable y.cls n).before args s = true := mvT hZ wi
  obtain ⟨ci, ki, i1, i2, -, i4, -⟩ := Cond.instantiable_spec wi'
  have hni : ki.isInterface = false := by cases hh : ki.isInterface <;> simp [hh] at i4 ⊢
  obtain ⟨v, _, ⟨T', L', k', n'⟩, -, X', ⟨L, hQ, l1, l2, l3⟩, st⟩ := X.privateBack hx hown (mvT hZ w1) (mvT hZ w5) (selects_self_of_private i1 i2 hni hpriv (mvT hZ w5) hy) hpriv (mvT hZ w6) hy (backOf (W := W) hM hZ w6 w3 hf hl) hg hsize (Steps.refl _) (by rw [eT]; exact q1) q2 hlen hstack hW hd (fun _ _ => ⟨has, eT, hc, hs⟩)
  dsimp only [Pt.U, Pt.locs, Pt.cells, Pt.slots] at X' l1 l2 l3 st hQ
  subst l1 l2 l3
  exact ⟨v, T', L, X', hQ, fun t k => st.trans k⟩
theorem own_nosub {C K O : String} {n : Nat} (w : (Jvm.Cond.superclass C O).before a0 Z = true) (wo : (Jvm.Cond.noSuperclass O).before a0 Z = true) (wk : (Jvm.Cond.instantiable K n).before a0 Z = true) (h1 : C ≠ K) (h2 : O ≠ K) :
    ∃ c t, Z.vm.findClass C = some c ∧ Z.vm.findClass K = some t ∧ Z.vm.assignable c t = false := by
  obtain ⟨c, f0⟩ := found_sup w
  obtain ⟨t, kt, g1, g2, g3, g4, -⟩ := Cond.instantiable_spec wk
  have g5 : kt.isInterface = false := by cases hh : kt.isInterface <;> simp [hh] at g4 ⊢
  obtain ⟨q, k, kp, f1, f2, f3, f4, f5, -, f7⟩ := Cond.superclass_spec f0 w
  obtain ⟨co, ko, o1, o2, o3, -, -⟩ := Cond.noSuperclass_spec wo
  cases o1.symm.trans f1
  have ne1 := ids_ne f0 g1 h1
  have ne2 := ids_ne o1 g1 h2
  have sub : ∀ fuel, Z.vm.isSubclassAux fuel c t = false := by
    intro fuel
    cases fuel with
    | zero => rfl
    | succ f =>
      have r : Z.vm.isSubclassAux f q t = false := by
        cases f with
        | zero => rfl
        | succ f' => simp [Vm.isSubclassAux, ne2, o2, o3]
      simp [Vm.isSubclassAux, ne1, f2, f4, r]
  refine ⟨c, t, f0, g1, ?_⟩
  show Z.vm.assignableAux (255 + 1) c t = false
  simp [Vm.assignableAux, ne1, f2, g2, f5, g3, g5, Vm.isSubclass, sub]
theorem own_arv0 {t : Term} {w : Addr} {cl : Cell} (hf : Fit s) (ev : t.eval args s none [] s = some (.ref w)) (A : Arr s s.heap w cl ty) (hq : (Jvm.Cond.eq (.length t) (.int 0)).value args s none s [] = some true) : Arv s s.heap w cl.cls ty 0 [] dv := by
  have ha : s.arrayAt? w = some cl := Arr.fin (Vm.Alike.refl _) A
  obtain ⟨u, v, e1, e2, k1, k2⟩ := cmp_v (Or.inl hq)
  obtain rfl : v = .int 0 := Option.some.inj (e2.symm.trans (Term.int_eval 0))
  obtain ⟨z, rfl⟩ := k2
  obtain rfl : z = 0 := gotT (Jvm.Cond.eq_ints e1 (Term.int_eval 0)) hq
  by_cases hl : cl.slots.size < 2 ^ 31
  · have q := (len_f ev ha hl).symm.trans e1
    exact Arv.start hf A hl (Value.int.inj (Option.some.inj q)) (by decide) rfl trivial
  · exfalso
    simp [Term.eval, ev, ha, hl] at e1
end OwnHeap
section OwnWide
variable {p : Program} {l : Launch} {e : Env} {R : Room} {s : State} {m : MethodId} {args : Array Value} {below : List Frame} {meth : Method} {c : Code} {T : State} {locs : List Loc} {cells slots : Nat} {Z : State} {a0 : Array Value} {h h' : Heap} {vm0 : Vm} {k0 : Nat}
/-- the contracts of bodies that may intern a string constant -/
abbrev ConW (l : Launch) (Z : State) (h0 : Heap) (y : MethodName) (bytes : ByteArray) (maxL : Nat) (ret : Option FieldType) (ws : List Jvm.Cond) (rm : Room) (as' : Array Value) (Q : Option Value → Heap → List Loc → Prop) : Prop :=
  MetFree l y (head1 (Jvm.Cond.code y bytes maxL ret :: ws) rm) (fun a U => a = as' ∧ Z.Warmed39 U.vm ∧ U.heap = h0) (fun _ _ _ _ _ => True) (fun _ U o U' => ∃ v L, o = .returned v ∧ Q v U'.heap L ∧ ReturnedEndW U o U' L rm.cells rm.slots)
def RetW (s : State) (Q : Option Value → Heap → List Loc → Prop) (cs sl : Nat) : State → Outcome → Prop :=
  fun s₂ o => ∃ v L, o = .returned v ∧ Q v s₂.heap L ∧ ReturnedEndW s o s₂ L cs sl
theorem own_conW {h0 : Heap} {y : MethodName} {bytes : ByteArray} {maxL : Nat} {ret : Option FieldType} {ws : List Jvm.Cond} {rm : Room} {as' : Array Value} {Q : Option Value → Heap → List Loc → Prop} (hpl : plainFor y = true)
    (body : ∀ (p : Program) (e : Env) (s : State) (m : MethodId) (below : List Frame) (meth : Method) (c : Code) (T : State), Stand p l e rm (s.setVm s.vm) m as' below meth c T [] 0 0 → p.tables.exec = Jvm.exec → c.code = bytes → c.maxLocals = maxL → (s.setVm s.vm).vm.findClass y.cls = some m.cls → meth.name = y.name → meth.sig.returnType = ret → meth.locks = false → Z.Warmed39 (s.setVm s.vm).vm → T.heap = h0 → s.Since s.vm h0.size →
      Go p e below (RetW s Q rm.cells rm.slots) (T.setTop (entryFrame m as' maxL))) : ConW l Z h0 y bytes maxL ret ws rm as' Q := by
  refine MetFree.of_bodySF hpl hisR ?_
  intro p e s m args below meth c s₁ Bd hml0 hP hK
  obtain ⟨rfl, hZ, hh⟩ := hP
  exact body p e s m below meth c s₁ (Stand.of_body Bd) Bd.exec Bd.bytes hml0 (findClass_of_methodNamed Bd.named) (name_of_methodNamed Bd.named Bd.method).1 Bd.returns Bd.notSynchronized hZ (by rw [← hh, Bd.state]; rfl) ((State.WarmedH.refl s).since _)
theorem own_callIW (X : Stand p l e R (s.setVm vm0) m args below meth c T locs cells slots) (hx : p.tables.exec = Jvm.exec) (hZ : Z.Warmed39 (s.setVm vm0).vm) (hS : s.Since vm0 k0) (hk : k0 ≤ h.size)
    {own : String} {index : Nat} {y : MethodName} {bytes : ByteArray} {maxL : Nat} {rm : Room} {as' : Array Value} {Q : Option Value → Heap → List Loc → Prop} {b : Addr} (hy1 : y.name = "<init>")
    (hown : (s.setVm vm0).vm.findClass own = some m.cls) (w1 : (Jvm.Cond.methodLink own index y).before a0 Z = true) (w5 : (Jvm.Cond.instanceMethod y).before a0 Z = true) (w3 : (Jvm.Cond.initialized y.cls).before a0 Z = true) (w6 : (Jvm.Cond.code y bytes maxL none).before a0 Z = true)
    (hy : y.cls ≠ "java/lang/invoke/MethodHandle" ∧ y.cls ≠ "java/lang/invoke/VarHandle") (eT : T.heap = h) (hM : ConW l Z h y bytes maxL none [] rm as' Q)
    (W : Nat) (hf : rm.frames + 1 ≤ R.frames) (hl : W + (maxL + 11) + rm.locals ≤ R.locals) (hc : cells + rm.cells ≤ R.cells) (hs : slots + rm.slots ≤ R.slots)
    {g : JFrame} (hg : g.method = m) (hsize : g.locals.size = c.maxLocals) (argsL rest : List Value) (has : (.ref b :: argsL).toArray = as') (hlen : ∀ sig, parseMethodDescriptor y.desc = some sig → argsL.length = sig.parameters.length) (hstack : g.stack = argsL.reverse ++ .ref b :: rest) (hW : 2 * g.monitorRoom + (rest.map fun v => v.category).sum ≤ W)
    (hd : decode c.code g.pc = .ok (.invokespecial index, 3)) :
    ∃ (v : Option Value) (T' : State) (L : List Loc), Stand p l e R (s.setVm T'.vm) m args below meth c T' (locs ++ L) (cells + rm.cells) (slots + rm.slots) ∧ Q v T'.heap L ∧ s.Since T'.vm T'.heap.size ∧ Z.Warmed39 (s.setVm T'.vm).vm ∧ (s.setVm T'.vm).vm.findClass own = some m.cls ∧ ∀ t, Steps p.tables e below (T'.setTop { g with pc := g.pc + 3, stack := v.toList ++ rest }) t → Steps p.tables e below (T.setTop g) t := by
  obtain ⟨v, _, ⟨T', L', k', n'⟩, -, X', h2, hgr, ⟨L, hQ, l1, l2, l3⟩, st⟩ := X.specialBackS hx hy1 hown (mvT hZ w1) (mvT hZ w5) (mvT hZ w6) hy (backOfS (W := W) hM hZ w6 w3 hf hl) hg hsize (Steps.refl _) hlen hstack hW hd (fun _ _ => ⟨has, eT, hc, hs⟩)
  dsimp only [Pt.U, Pt.locs, Pt.cells, Pt.slots] at X' l1 l2 l3 st hQ h2 hgr
  subst l1 l2 l3
  obtain ⟨Y, hS', hZ', hown'⟩ := rebS hS (Nat.le_trans hk (Nat.le_of_eq (by rw [eT]))) X' h2 hgr hZ hown
  exact ⟨v, T', L, Y, hQ, hS', hZ', hown', fun t k => st.trans k⟩
theorem own_callVW (X : Stand p l e R (s.setVm vm0) m args below meth c T locs cells slots) (hx : p.tables.exec = Jvm.exec) (hZ : Z.Warmed39 (s.setVm vm0).vm) (hS : s.Since vm0 k0) (hk : k0 ≤ h.size)
    {own C : String} {index : Nat} {y z : MethodName} {bytes : ByteArray} {maxL : Nat} {ret : Option FieldType} {rm : Room} {as' : Array Value} {Q : Option Value → Heap → List Loc → Prop} {b : Addr}
    (hown : (s.setVm vm0).vm.findClass own = some m.cls) (w1 : (Jvm.Cond.methodLink own index y).before a0 Z = true) (w2 : (Jvm.Cond.declares y).before a0 Z = true) (hnf : NotFace (s.setVm vm0) y) (w4 : (Jvm.Cond.selects C y z).before a0 Z = true) (w5 : (Jvm.Cond.instanceMethod z).before a0 Z = true) (w3 : (Jvm.Cond.initialized z.cls).before a0 Z = true) (w6 : (Jvm.Cond.code z bytes maxL ret).before a0 Z = true)
    (hy : y.cls ≠ "java/lang/invoke/MethodHandle" ∧ y.cls ≠ "java/lang/invoke/VarHandle") (eT : T.heap = h) (E : Exa Z h b C) (hM : ConW l Z h z bytes maxL ret [] rm as' Q)
    (W : Nat) (hf : rm.frames + 1 ≤ R.frames) (hl : W + (maxL + 11) + rm.locals ≤ R.locals) (hc : cells + rm.cells ≤ R.cells) (hs : slots + rm.slots ≤ R.slots)
    {g : JFrame} (hg : g.method = m) (hsize : g.locals.size = c.maxLocals) (argsL rest : List Value) (has : (.ref b :: argsL).toArray = as') (hlen : ∀ sig, parseMethodDescriptor y.desc = some sig → argsL.length = sig.parameters.length) (hstack : g.stack = argsL.reverse ++ .ref b :: rest) (hW : 2 * g.monitorRoom + (rest.map fun v => v.category).sum ≤ W)
    (hd : decode c.code g.pc = .ok (.invokevirtual index, 3)) :
    ∃ (v : Option Value) (T' : State) (L : List Loc), Stand p l e R (s.setVm T'.vm) m args below meth c T' (locs ++ L) (cells + rm.cells) (slots + rm.slots) ∧ Q v T'.heap L ∧ s.Since T'.vm T'.heap.size ∧ Z.Warmed39 (s.setVm T'.vm).vm ∧ (s.setVm T'.vm).vm.findClass own = some m.cls ∧ ∀ t, Steps p.tables e below (T'.setTop { g with pc := g.pc + 3, stack := v.toList ++ rest }) t → Steps p.tables e below (T.setTop g) t := by
  obtain ⟨cq, kq, qa, qb, qc⟩ := isOf hZ eT E
  obtain ⟨v, _, ⟨T', L', k', n'⟩, -, X', h2, hgr, ⟨L, hQ, l1, l2, l3⟩, st⟩ := X.virtualBackS hx hown (mvT hZ w1) (mvT hZ w2) hnf (mvT hZ w4) (mvT hZ w5) hy (backOfS (W := W) hM hZ w6 w3 hf hl) qa qc hg hsize (Steps.refl _) hlen hstack hW hd (fun _ _ => ⟨has, eT, hc, hs⟩)
  dsimp only [Pt.U, Pt.locs, Pt.cells, Pt.slots] at X' l1 l2 l3 st hQ h2 hgr
  subst l1 l2 l3
  obtain ⟨Y, hS', hZ', hown'⟩ := rebS hS (Nat.le_trans hk (Nat.le_of_eq (by rw [eT]))) X' h2 hgr hZ hown
  exact ⟨v, T', L, Y, hQ, hS', hZ', hown', fun t k => st.trans k⟩
theorem own_callSW (X : Stand p l e R (s.setVm vm0) m args below meth c T locs cells slots) (hx : p.tables.exec = Jvm.exec) (hZ : Z.Warmed39 (s.setVm vm0).vm) (hS : s.Since vm0 k0) (hk : k0 ≤ h.size)
    {own : String} {index : Nat} {y : MethodName} {bytes : ByteArray} {maxL : Nat} {ret : Option FieldType} {rm : Room} {as' : Array Value} {Q : Option Value → Heap → List Loc → Prop}
    (hown : (s.setVm vm0).vm.findClass own = some m.cls) (w1 : (Jvm.Cond.methodLink own index y).before a0 Z = true) (w2 : (Jvm.Cond.static y).before a0 Z = true) (w3 : (Jvm.Cond.initialized y.cls).before a0 Z = true) (w4 : (Jvm.Cond.code y bytes maxL ret).before a0 Z = true)
    (hy : y.cls ≠ "java/lang/invoke/MethodHandle" ∧ y.cls ≠ "java/lang/invoke/VarHandle") (eT : T.heap = h) (hM : ConW l Z h y bytes maxL ret [] rm as' Q)
    (W : Nat) (hf : rm.frames + 1 ≤ R.frames) (hl : W + (maxL + 11) + rm.locals ≤ R.locals) (hc : cells + rm.cells ≤ R.cells) (hs : slots + rm.slots ≤ R.slots)
    {g : JFrame} (hg : g.method = m) (hsize : g.locals.size = c.maxLocals) (argsL rest : List Value) (has : argsL.toArray = as') (hlen : ∀ sig, parseMethodDescriptor y.desc = some sig → argsL.length = sig.parameters.length) (hstack : g.stack = argsL.reverse ++ rest) (hW : 2 * g.monitorRoom + (rest.map fun v => v.category).sum ≤ W)
    (hd : decode c.code g.pc = .ok (.invokestatic index, 3)) :
    ∃ (v : Option Value) (T' : State) (L : List Loc), Stand p l e R (s.setVm T'.vm) m args below meth c T' (locs ++ L) (cells + rm.cells) (slots + rm.slots) ∧ Q v T'.heap L ∧ s.Since T'.vm T'.heap.size ∧ Z.Warmed39 (s.setVm T'.vm).vm ∧ (s.setVm T'.vm).vm.findClass own = some m.cls ∧ ∀ t, Steps p.tables e below (T'.setTop { g with pc := g.pc + 3, stack := v.toList ++ rest }) t → Steps p.tables e below (T.setTop g) t := by
  obtain ⟨v, _, ⟨T', L', k', n'⟩, -, X', h2, hgr, ⟨L, hQ, l1, l2, l3⟩, st⟩ := callSS X hx hown (mvT hZ w1) (mvT hZ w2) (mvT hZ w3) (mvT hZ w4) hy (backOfS (W := W) hM hZ w4 w3 hf hl) hg hsize hlen hstack hW hd (fun _ _ => ⟨has, eT, hc, hs⟩)
  dsimp only [Pt.U, Pt.locs, Pt.cells, Pt.slots] at X' l1 l2 l3 st hQ h2 hgr
  subst l1 l2 l3
  obtain ⟨Y, hS', hZ', hown'⟩ := rebS hS (Nat.le_trans hk (Nat.le_of_eq (by rw [eT]))) X' h2 hgr hZ hown
  exact ⟨v, T', L, Y, hQ, hS', hZ', hown', fun t k => st.trans k⟩
theorem own_finW (X : Stand p l e R (s.setVm vm0) m args below meth c T locs cells slots) (hS : s.Since vm0 k0) (hk : k0 ≤ h.size) (hlk : meth.locks = false) {v : Option Value} (hv : meth.sig.returnType = none → v = none) {Q : Option Value → Heap → List Loc → Prop} {cs sl : Nat} (eT : T.heap = h) (hQ : Q v h locs) (hc : cells ≤ cs) (hs : slots ≤ sl) {S : State}
    (k : ∀ fs : List Frame, (∀ (f : JFrame) (acts : List Action), f.method = m → f.locked = none → f.entered = [] → (doReturn e (T.setTop f) acts v).1 = T.setFrames fs) → Steps p.tables e below S (T.setFrames fs)) : Go p e below (RetW s Q cs sl) S := by
  obtain ⟨fs, hr, hrun, hended, r1, r2, r3, r4⟩ := X.leaveW hS (Nat.le_trans hk (Nat.le_of_eq (by rw [eT]))) hv hlk
  refine ⟨_, _, k fs hr, hrun, hended, _, _, rfl, ?_, r1, r2, r3, r4.mono hc hs⟩
  have q : (T.setFrames fs).heap = h := eT
  rw [q]; exact hQ
theorem own_retNW (X : Stand p l e R (s.setVm vm0) m args below meth c T locs cells slots) (hS : s.Since vm0 k0) (hk : k0 ≤ h.size) (hx : p.tables.exec = Jvm.exec) (hlk : meth.locks = false) {pc : Nat} {Ls : Array Slot} {z : Int32} {t : FieldType} {rest : List Value} (hret : meth.sig.returnType = some t) (ht : t = .boolean ∨ t = .byte ∨ t = .char ∨ t = .short)
    (hd : decode c.code pc = .ok (.ireturn, 1)) {Q : Option Value → Heap → List Loc → Prop} {cs sl : Nat} (eT : T.heap = h) (hQ : Q (some (.int (nar t z))) h locs) (hc : cells ≤ cs) (hs : slots ≤ sl) : Go p e below (RetW s Q cs sl) (T.setTop (mkF m pc Ls (.int z :: rest))) :=
  own_finW X hS hk hlk (fun q => by rw [hret] at q; cases q) eT hQ hc hs fun fs hr => retN X hx hret ht hd hr
theorem own_retVW (X : Stand p l e R (s.setVm vm0) m args below meth c T locs cells slots) (hS : s.Since vm0 k0) (hk : k0 ≤ h.size) (hx : p.tables.exec = Jvm.exec) (hlk : meth.locks = false) {pc : Nat} {Ls : Array Slot} (hret : meth.sig.returnType = none)
    (hd : decode c.code pc = .ok (.return_, 1)) {Q : Option Value → Heap → List Loc → Prop} {cs sl : Nat} (eT : T.heap = h) (hQ : Q none h locs) (hc : cells ≤ cs) (hs : slots ≤ sl) : Go p e below (RetW s Q cs sl) (T.setTop (mkF m pc Ls [])) :=
  own_finW X hS hk hlk (fun _ => rfl) eT hQ hc hs fun fs hr => X.returnOut hx hret hd hr
end OwnWide
section OwnHeld
variable {p : Program} {l : Launch} {e : Env} {R : Room} {s : State} {m : MethodId} {args : Array Value} {below : List Frame} {meth : Method} {c : Code} {T : State} {locs : List Loc} {cells slots : Nat} {Z : State} {a0 : Array Value} {h h' : Heap} {vm vm0 : Vm} {k0 : Nat} {EL : List (String × Nat)}
/-- the contracts of bodies that may load a constant of EL: the invariant at the start, and one end from one start -/
abbrev ConH (l : Launch) (Z : State) (EL : List (String × Nat)) (h0 : Heap) (y : MethodName) (bytes : ByteArray) (maxL : Nat) (ret : Option FieldType) (ws : List Jvm.Cond) (rm : Room) (as' : Array Value) (Q : Option Value → Heap → List Loc → Prop) : Prop :=
  MetFree l y (head1 (Jvm.Cond.code y bytes maxL ret :: ws) rm) (fun a U => a = as' ∧ Z.Warmed39 U.vm ∧ U.heap = h0 ∧ CHv Z EL U.vm h0) (fun _ _ _ _ _ => True) (fun _ U o U' => ∃ v L, o = .returned v ∧ Q v U'.heap L ∧ CHr Z EL U.vm U.heap U'.vm U'.heap ∧ ReturnedEndW U o U' L rm.cells rm.slots)
/-- .. of which the end says nothing -/
abbrev ConJ (l : Launch) (Z : State) (EL : List (String × Nat)) (h0 : Heap) (y : MethodName) (bytes : ByteArray) (maxL : Nat) (ret : Option FieldType) (ws : List Jvm.Cond) (rm : Room) (as' : Array Value) (Q : Option Value → Heap → List Loc → Prop) : Prop :=
  MetFree l y (head1 (Jvm.Cond.code y bytes maxL ret :: ws) rm) (fun a U => a = as' ∧ Z.Warmed39 U.vm ∧ U.heap = h0 ∧ CHv Z EL U.vm h0) (fun _ _ _ _ _ => True) (fun _ U o U' => ∃ v L, o = .returned v ∧ Q v U'.heap L ∧ ReturnedEndW U o U' L rm.cells rm.slots)
def RetH (s : State) (Z : State) (EL : List (String × Nat)) (Q : Option Value → Heap → List Loc → Prop) (cs sl : Nat) : State → Outcome → Prop :=
  fun s₂ o => ∃ v L, o = .returned v ∧ Q v s₂.heap L ∧ CHr Z EL s.vm s.heap s₂.vm s₂.heap ∧ ReturnedEndW s o s₂ L cs sl
theorem own_conH {h0 : Heap} {y : MethodName} {bytes : ByteArray} {maxL : Nat} {ret : Option FieldType} {ws : List Jvm.Cond} {rm : Room} {as' : Array Value} {Q : Option Value → Heap → List Loc → Prop} (hpl : plainFor y = true)
    (body : ∀ (p : Program) (e : Env) (s : State) (m : MethodId) (below : List Frame) (meth : Method) (c : Code) (T : State), Stand p l e rm (s.setVm s.vm) m as' below meth c T [] 0 0 → p.tables.exec = Jvm.exec → c.code = bytes → c.maxLocals = maxL → (s.setVm s.vm).vm.findClass y.cls = some m.cls → meth.name = y.name → meth.sig.returnType = ret → meth.locks = false → Z.Warmed39 (s.setVm s.vm).vm → T.heap = h0 → s.Since s.vm h0.size → CHr Z EL s.vm s.heap s.vm h0 →
      Go p e below (RetH s Z EL Q rm.cells rm.slots) (T.setTop (entryFrame m as' maxL))) : ConH l Z EL h0 y bytes maxL ret ws rm as' Q := by
  refine MetFree.of_bodySF hpl hisR ?_
  intro p e s m args below meth c s₁ Bd hml0 hP hK
  obtain ⟨rfl, hZ, hh, hC⟩ := hP
  exact body p e s m below meth c s₁ (Stand.of_body Bd) Bd.exec Bd.bytes hml0 (findClass_of_methodNamed Bd.named) (name_of_methodNamed Bd.named Bd.method).1 Bd.returns Bd.notSynchronized hZ (by rw [← hh, Bd.state]; rfl) ((State.WarmedH.refl s).since _) (by rw [hh]; exact CHr.refl hC)
theorem own_conJ {h0 : Heap} {y : MethodName} {bytes : ByteArray} {maxL : Nat} {ret : Option FieldType} {ws : List Jvm.Cond} {rm : Room} {as' : Array Value} {Q : Option Value → Heap → List Loc → Prop} (hpl : plainFor y = true)
    (body : ∀ (p : Program) (e : Env) (s : State) (m : MethodId) (below : List Frame) (meth : Method) (c : Code) (T : State), Stand p l e rm (s.setVm s.vm) m as' below meth c T [] 0 0 → p.tables.exec = Jvm.exec → c.code = bytes → c.maxLocals = maxL → (s.setVm s.vm).vm.findClass y.cls = some m.cls → meth.name = y.name → meth.sig.returnType = ret → meth.locks = false → Z.Warmed39 (s.setVm s.vm).vm → T.heap = h0 → s.Since s.vm h0.size → CHr Z EL s.vm s.heap s.vm h0 →
      Go p e below (RetW s Q rm.cells rm.slots) (T.setTop (entryFrame m as' maxL))) : ConJ l Z EL h0 y bytes maxL ret ws rm as' Q := by
  refine MetFree.of_bodySF hpl hisR ?_
  intro p e s m args below meth c s₁ Bd hml0 hP hK
  obtain ⟨rfl, hZ, hh, hC⟩ := hP
  exact body p e s m below meth c s₁ (Stand.of_body Bd) Bd.exec Bd.bytes hml0 (findClass_of_methodNamed Bd.named) (name_of_methodNamed Bd.named Bd.method).1 Bd.returns Bd.notSynchronized hZ (by rw [← hh, Bd.state]; rfl) ((State.WarmedH.refl s).since _) (by rw [hh]; exact CHr.refl hC)
/-- a narrow contract that keeps all is one of these -/
theorem own_conHN {h0 : Heap} {y : MethodName} {bytes : ByteArray} {maxL : Nat} {ret : Option FieldType} {ws : List Jvm.Cond} {rm : Room} {as' : Array Value} {Q : Option Value → Heap → List Loc → Prop} (hEL : EW Z a0 EL) (hq : ∀ v h L, Q v h L → Keep h0 h []) (hM : Con l Z h0 y bytes maxL ret ws rm as' Q) : ConH l Z EL h0 y bytes maxL ret ws rm as' Q := by
  intro p e ha hc hk s m args below hf happ hP hK
  obtain ⟨h1, h2, h3, h4⟩ := hP
  obtain ⟨n, o, r1, r2, r3, v, L, rfl, hQ, hF⟩ := hM p e ha hc hk s m args below hf happ ⟨h1, h2, h3⟩ hK
  refine ⟨n, _, r1, r2, r3, v, L, rfl, hQ, ?_, ReturnedEndW.of_narrow hF.1 hF.2.1 hF.2.2⟩
  have A : CHr Z EL s.vm h0 s.vm _ := CHr.keep (hq _ _ _ hQ) (fun x hx => nomatch hx) h4
  have q := CHv.later (h' := (stepsAlone p.tables e n s).heap) h2 (hW := (show (Wst Z s.vm (stepsAlone p.tables e n s).heap).Warmed39 (stepsAlone p.tables e n s).vm from hF.2.1.wide)) hEL ⟨Nat.le_refl _, fun _ _ q => q⟩ (Or.inl hF.2.1.interned_eq) A.1
  rw [h3]
  exact A.trans ⟨q.1, Nat.le_refl _, q.2⟩
theorem own_callSH (X : Stand p l e R (s.setVm vm0) m args below meth c T locs cells slots) (hx : p.tables.exec = Jvm.exec) (hZ : Z.Warmed39 (s.setVm vm0).vm) (hS : s.Since vm0 k0) (hk : k0 ≤ h.size) (hEL : EW Z a0 EL) {vq : Vm} {hq : Heap} (C : CHr Z EL vq hq vm0 h)
    {own : String} {index : Nat} {y : MethodName} {bytes : ByteArray} {maxL : Nat} {ret : Option FieldType} {rm : Room} {as' : Array Value} {Q : Option Value → Heap → List Loc → Prop}
    (hown : (s.setVm vm0).vm.findClass own = some m.cls) (w1 : (Jvm.Cond.methodLink own index y).before a0 Z = true) (w2 : (Jvm.Cond.static y).before a0 Z = true) (w3 : (Jvm.Cond.initialized y.cls).before a0 Z = true) (w4 : (Jvm.Cond.code y bytes maxL ret).before a0 Z = true)
    (hy : y.cls ≠ "java/lang/invoke/MethodHandle" ∧ y.cls ≠ "java/lang/invoke/VarHandle") (eT : T.heap = h) (hM : ConH l Z EL h y bytes maxL ret [] rm as' Q)
    (W : Nat) (hf : rm.frames + 1 ≤ R.frames) (hl : W + (maxL + 11) + rm.locals ≤ R.locals) (hc : cells + rm.cells ≤ R.cells) (hs : slots + rm.slots ≤ R.slots)
    {g : JFrame} (hg : g.method = m) (hsize : g.locals.size = c.maxLocals) (argsL rest : List Value) (has : argsL.toArray = as') (hlen : ∀ sig, parseMethodDescriptor y.desc = some sig → argsL.length = sig.parameters.length) (hstack : g.stack = argsL.reverse ++ rest) (hW : 2 * g.monitorRoom + (rest.map fun v => v.category).sum ≤ W)
    (hd : decode c.code g.pc = .ok (.invokestatic index, 3)) :
    ∃ (v : Option Value) (T' : State) (L : List Loc), Stand p l e R (s.setVm T'.vm) m args below meth c T' (locs ++ L) (cells + rm.cells) (slots + rm.slots) ∧ Q v T'.heap L ∧ s.Since T'.vm T'.heap.size ∧ Z.Warmed39 (s.setVm T'.vm).vm ∧ (s.setVm T'.vm).vm.findClass own = some m.cls ∧ CHr Z EL vq hq T'.vm T'.heap ∧ ∀ t, Steps p.tables e below (T'.setTop { g with pc := g.pc + 3, stack := v.toList ++ rest }) t → Steps p.tables e below (T.setTop g) t := by
  obtain ⟨v, _, ⟨T', L', k', n'⟩, -, X', h2, hgr, ⟨L, hQ, l1, l2, l3, hC⟩, st⟩ := callSS X hx hown (mvT hZ w1) (mvT hZ w2) (mvT hZ w3) (mvT hZ w4) hy (backOfSH (W := W) hM hZ w4 w3 hf hl hEL C.1) hg hsize hlen hstack hW hd (fun _ _ => ⟨has, eT, hc, hs⟩)
  dsimp only [Pt.U, Pt.locs, Pt.cells, Pt.slots] at X' l1 l2 l3 st hQ h2 hgr hC
  subst l1 l2 l3
  obtain ⟨Y, hS', hZ', hown'⟩ := rebS hS (Nat.le_trans hk (Nat.le_of_eq (by rw [eT]))) X' h2 hgr hZ hown
  exact ⟨v, T', L, Y, hQ, hS', hZ', hown', C.trans hC, fun t k => st.trans k⟩
theorem own_callIH (X : Stand p l e R (s.setVm vm0) m args below meth c T locs cells slots) (hx : p.tables.exec = Jvm.exec) (hZ : Z.Warmed39 (s.setVm vm0).vm) (hS : s.Since vm0 k0) (hk : k0 ≤ h.size) (hEL : EW Z a0 EL) {vq : Vm} {hq : Heap} (C : CHr Z EL vq hq vm0 h)
    {own : String} {index : Nat} {y : MethodName} {bytes : ByteArray} {maxL : Nat} {rm : Room} {as' : Array Value} {Q : Option Value → Heap → List Loc → Prop} {b : Addr} (hy1 : y.name = "<init>")
    (hown : (s.setVm vm0).vm.findClass own = some m.cls) (w1 : (Jvm.Cond.methodLink own index y).before a0 Z = true) (w5 : (Jvm.Cond.instanceMethod y).before a0 Z = true) (w3 : (Jvm.Cond.initialized y.cls).before a0 Z = true) (w6 : (Jvm.Cond.code y bytes maxL none).before a0 Z = true)
    (hy : y.cls ≠ "java/lang/invoke/MethodHandle" ∧ y.cls ≠ "java/lang/invoke/VarHandle") (eT : T.heap = h) (hM : ConH l Z EL h y bytes maxL none [] rm as' Q)
    (W : Nat) (hf : rm.frames + 1 ≤ R.frames) (hl : W + (maxL + 11) + rm.locals ≤ R.locals) (hc : cells + rm.cells ≤ R.cells) (hs : slots + rm.slots ≤ R.slots)
    {g : JFrame} (hg : g.method = m) (hsize : g.locals.size = c.maxLocals) (argsL rest : List Value) (has : (.ref b :: argsL).toArray = as') (hlen : ∀ sig, parseMethodDescriptor y.desc = some sig → argsL.length = sig.parameters.length) (hstack : g.stack = argsL.reverse ++ .ref b :: rest) (hW : 2 * g.monitorRoom + (rest.map fun v => v.category).sum ≤ W)
    (hd : decode c.code g.pc = .ok (.invokespecial index, 3)) :
    ∃ (v : Option Value) (T' : State) (L : List Loc), Stand p l e R (s.setVm T'.vm) m args below meth c T' (locs ++ L) (cells + rm.cells) (slots + rm.slots) ∧ Q v T'.heap L ∧ s.Since T'.vm T'.heap.size ∧ Z.Warmed39 (s.setVm T'.vm).vm ∧ (s.setVm T'.vm).vm.findClass own = some m.cls ∧ CHr Z EL vq hq T'.vm T'.heap ∧ ∀ t, Steps p.tables e below (T'.setTop { g with pc := g.pc + 3, stack := v.toList ++ rest }) t → Steps p.tables e below (T.setTop g) t := by
  obtain ⟨v, _, ⟨T', L', k', n'⟩, -, X', h2, hgr, ⟨L, hQ, l1, l2, l3, hC⟩, st⟩ := X.specialBackS hx hy1 hown (mvT hZ w1) (mvT hZ w5) (mvT hZ w6) hy (backOfSH (W := W) hM hZ w6 w3 hf hl hEL C.1) hg hsize (Steps.refl _) hlen hstack hW hd (fun _ _ => ⟨has, eT, hc, hs⟩)
  dsimp only [Pt.U, Pt.locs, Pt.cells, Pt.slots] at X' l1 l2 l3 st hQ h2 hgr hC
  subst l1 l2 l3
  obtain ⟨Y, hS', hZ', hown'⟩ := rebS hS (Nat.le_trans hk (Nat.le_of_eq (by rw [eT]))) X' h2 hgr hZ hown
  exact ⟨v, T', L, Y, hQ, hS', hZ', hown', C.trans hC, fun t k => st.trans k⟩
theorem own_finH (X : Stand p l e R (s.setVm vm0) m args below meth c T locs cells slots) (hS : s.Since vm0 k0) (hk : k0 ≤ h.size) (hZ : Z.Warmed39 (s.setVm vm0).vm) (hEL : EW Z a0 EL) (C : CHr Z EL s.vm s.heap vm0 h) (hlk : meth.locks = false) {v : Option Value} (hv : meth.sig.returnType = none → v = none) {Q : Option Value → Heap → List Loc → Prop} {cs sl : Nat} (eT : T.heap = h) (hQ : Q v h locs) (hc : cells ≤ cs) (hs : slots ≤ sl) {S : State}
    (k : ∀ fs : List Frame, (∀ (f : JFrame) (acts : List Action), f.method = m → f.locked = none → f.entered = [] → (doReturn e (T.setTop f) acts v).1 = T.setFrames fs) → Steps p.tables e below S (T.setFrames fs)) : Go p e below (RetH s Z EL Q cs sl) S := by
  subst eT
  obtain ⟨fs, hr, hrun, hended, r1, r2, r3, r4⟩ := X.leaveW hS hk hv hlk
  have A := C.trans (CHv.at X hZ hEL C.1)
  exact ⟨_, _, k fs hr, hrun, hended, _, _, rfl, hQ, A, r1, r2, r3, r4.mono hc hs⟩
theorem own_retVH (X : Stand p l e R (s.setVm vm0) m args below meth c T locs cells slots) (hS : s.Since vm0 k0) (hk : k0 ≤ h.size) (hZ : Z.Warmed39 (s.setVm vm0).vm) (hEL : EW Z a0 EL) (C : CHr Z EL s.vm s.heap vm0 h) (hx : p.tables.exec = Jvm.exec) (hlk : meth.locks = false) {pc : Nat} {Ls : Array Slot} (hret : meth.sig.returnType = none)
    (hd : decode c.code pc = .ok (.return_, 1)) {Q : Option Value → Heap → List Loc → Prop} {cs sl : Nat} (eT : T.heap = h) (hQ : Q none h locs) (hc : cells ≤ cs) (hs : slots ≤ sl) : Go p e below (RetH s Z EL Q cs sl) (T.setTop (mkF m pc Ls [])) :=
  own_finH X hS hk hZ hEL C hlk (fun _ => rfl) eT hQ hc hs fun fs hr => X.returnOut hx hret hd hr
theorem own_retAH (X : Stand p l e R (s.setVm vm0) m args below meth c T locs cells slots) (hS : s.Since vm0 k0) (hk : k0 ≤ h.size) (hZ : Z.Warmed39 (s.setVm vm0).vm) (hEL : EW Z a0 EL) (C : CHr Z EL s.vm s.heap vm0 h) (hx : p.tables.exec = Jvm.exec) (hlk : meth.locks = false) {pc : Nat} {Ls : Array Slot} {w : Value} {t : FieldType} {rest : List Value} (hret : meth.sig.returnType = some t) (hn : narrow t w = w) (ht : t.isReference = true) (hw : w.isRef = true)
    (hd : decode c.code pc = .ok (.areturn, 1)) {Q : Option Value → Heap → List Loc → Prop} {cs sl : Nat} (eT : T.heap = h) (hQ : Q (some w) h locs) (hc : cells ≤ cs) (hs : slots ≤ sl) : Go p e below (RetH s Z EL Q cs sl) (T.setTop (mkF m pc Ls (w :: rest))) :=
  own_finH X hS hk hZ hEL C hlk (fun q => by rw [hret] at q; cases q) eT hQ hc hs fun fs hr => retOut X hx hret hn (Or.inr (Or.inr (Or.inr (Or.inr ⟨rfl, ht, hw⟩)))) hd hr
/-- a String whose bytes are not set yet is no booked one -/
theorem own_safeNull {x : Addr} (hal : Z.vm.Alike vm) (E : Exa Z h x "java/lang/String") (F : Fld Z h x "java/lang/String" "value" "[B" .null) : Safe Z EL vm h x := fun B => by
  obtain ⟨p, -, u, a, -, q, -, G, rfl | rfl⟩ := B
  · obtain ⟨cS, ⟨⟨s1, s2, s3, ⟨cv, kv, iv, s4, s4'⟩, -, s6, -, s8, -⟩, -⟩, -⟩ := G
    obtain ⟨kv', z4⟩ := ff_back (U := Wst Z vm h) hal s4
    have K : Fld Z h q.sa "java/lang/String" "value" "[B" (.ref q.sd) := ⟨q.sC, cv, kv', iv, q.fSV, s1, z4, s6, s2, s3, by rw [← hal.assignable]; exact s4', s8⟩
    exact Fld.ne F K (fun e => by cases e) rfl
  · obtain ⟨cell, k, e1, e2, e3, -, -⟩ := E
    cases (show h[q.sd]? = some q.SA from G.hd).symm.trans e1
    obtain ⟨cS, -, -, f, -⟩ := G
    have f' : vm.findClass "[B" = some q.SA.cls := f
    rw [hal.findClass] at f'
    obtain ⟨k1, q1, q2⟩ := Vm.findClass_spec f'
    obtain ⟨k2, q3, q4⟩ := Vm.findClass_spec e2
    cases q1.symm.trans q3
    exact absurd (q2.symm.trans q4) (by decide)
theorem own_ldC {a : Addr} {k : ClassId} {z j : Int32} {vs : List Value} {dv v : Value} {g : JFrame} {rest : List Value} (X : Stand p l e R s m args below meth c T locs cells slots) (hx : p.tables.exec = Jvm.exec) (hZ : Z.Warmed39 s.vm) (eT : T.heap = h) (F : Arv Z h a k .char z vs dv) (hj : ¬ j < 0 ∧ j < z) (hv : vs.getD j.toNatClampNeg dv = v) (hg : g.method = m) (hs : g.stack = .int j :: .ref a :: rest) (hd : decode c.code g.pc = .ok (.caload, 1)) :
    ∀ target, Steps p.tables e below (T.setTop { g with pc := g.pc + 1, stack := v :: rest }) target → Steps p.tables e below (T.setTop g) target := by
  obtain ⟨cl, A, q, S, N, H, G⟩ := F
  exact fun t k => X.caload hx (by rw [eT]; exact A.1) (State.isArrayOf_alike hZ.alike A.2.1) A.2.2 (inb_of S hj) (H.at (inb_of S hj) hv) hg hs hd t k
end OwnHeld
theorem own_rem {x : Int32} {n : Int32} (hn : 0 < n.toInt) : 0 ≤ ((x &&& 2147483647) % n).toInt ∧ ((x &&& 2147483647) % n).toInt < n.toInt := by
  have e1 : (x &&& 2147483647).toInt = x.toInt % 2 ^ 31 := Jvm.Kit.i32_mask x 2147483647 (k := 31) (by decide) (by decide)
  have e2 := Jvm.Kit.i32_rem_nonneg (x := (x &&& 2147483647)) (y := n) (by omega)
  rw [e2]
  exact ⟨Int.emod_nonneg _ (by omega), Int.emod_lt_of_pos _ hn⟩
theorem own_i32 {x : Int32} {k : Int} (h : x.toInt = k) : x = Int32.ofInt k := by
  rw [← h, Int32.ofInt_toInt]
theorem own_lremE (x y : Int64) : x - (x / y) * y = x % y := Int64.toInt_inj.mp ((Jvm.Kit.i64_rem x y).trans (Int64.toInt_mod x y).symm)
theorem own_lrem {p : Program} {l : Launch} {e : Env} {R : Room} {s : State} {m : MethodId} {args : Array Value} {below : List Frame} {meth : Method} {c : Code} {T : State} {locs : List Loc} {cells slots : Nat} {g : JFrame} {target : State} (X : Stand p l e R s m args below meth c T locs cells slots) (hx : p.tables.exec = Jvm.exec) (hg : g.method = m) {x y : Int64} {rest : List Value} (hd : decode c.code g.pc = .ok (.lrem, 1)) (hs : g.stack = .long y :: .long x :: rest) (hy : y ≠ 0)
    (hr : Steps p.tables e below (T.setTop { g with pc := g.pc + 1, stack := .long (x % y) :: rest }) target) : Steps p.tables e below (T.setTop g) target :=
  XT.lrem X.here hx hg hd hs hy (by rw [lrem_mod]; exact hr)
theorem own_strAtoms {a0 : Array Value} {Z : State} (hw : ∀ d ∈ tables_1, d.before a0 Z = true) : ∀ a ∈ Bundle.stringAtoms, a.before a0 Z = true := by
  intro a ha
  simp only [Bundle.stringAtoms, List.mem_cons, List.not_mem_nil, or_false] at ha
  rcases ha with rfl | rfl | rfl | rfl | rfl | rfl | rfl
  · exact ww hw 7 rfl
  · exact ww hw 6 rfl
  · exact ww hw 20 rfl
  · exact ww hw 21 rfl
  · exact ww hw 22 rfl
  · exact ww hw 23 rfl
  · exact ww hw 24 rfl
/-- what stands at the start: the statics, their classes and fields -/
def SF (Z : State) (w_IDENTIFIER : Addr) (w_SYMBOL : Addr) (w_NUMBER : Addr) (w_STRING : Addr) (w_NAMED_PARAMETER : Addr) (w_POSITIONAL_PARAMETER : Addr) (w_END : Addr) (zc : Int32) : Prop := Sta Z Z.heap "com/example/instances_to_rows/instancestorows/query/Lexer$Kind" "IDENTIFIER" "Lcom/example/instances_to_rows/instancestorows/query/Lexer$Kind;" (.ref w_IDENTIFIER) ∧ Exa Z Z.heap w_IDENTIFIER "com/example/instances_to_rows/instancestorows/query/Lexer$Kind" ∧ Sta Z Z.heap "com/example/instances_to_rows/instancestorows/query/Lexer$Kind" "SYMBOL" "Lcom/example/instances_to_rows/instancestorows/query/Lexer$Kind;" (.ref w_SYMBOL) ∧ Exa Z Z.heap w_SYMBOL "com/example/instances_to_rows/instancestorows/query/Lexer$Kind" ∧ Fld Z Z.heap w_IDENTIFIER "java/lang/Enum" "ordinal" "I" (.int (0 : Int32)) ∧ Fld Z Z.heap w_SYMBOL "java/lang/Enum" "ordinal" "I" (.int (5 : Int32)) ∧ Sta Z Z.heap "com/example/instances_to_rows/instancestorows/query/Lexer$Kind" "NUMBER" "Lcom/example/instances_to_rows/instancestorows/query/Lexer$Kind;" (.ref w_NUMBER) ∧ Exa Z Z.heap w_NUMBER "com/example/instances_to_rows/instancestorows/query/Lexer$Kind" ∧ Fld Z Z.heap w_NUMBER "java/lang/Enum" "ordinal" "I" (.int (2 : Int32)) ∧ Sta Z Z.heap "com/example/instances_to_rows/instancestorows/query/Lexer$Kind" "STRING" "Lcom/example/instances_to_rows/instancestorows/query/Lexer$Kind;" (.ref w_STRING) ∧ Exa Z Z.heap w_STRING "com/example/instances_to_rows/instancestorows/query/Lexer$Kind" ∧ Fld Z Z.heap w_STRING "java/lang/Enum" "ordinal" "I" (.int (1 : Int32)) ∧ Sta Z Z.heap "com/example/instances_to_rows/instancestorows/query/Lexer$Kind" "NAMED_PARAMETER" "Lcom/example/instances_to_rows/instancestorows/query/Lexer$Kind;" (.ref w_NAMED_PARAMETER) ∧ Exa Z Z.heap w_NAMED_PARAMETER "com/example/instances_to_rows/instancestorows/query/Lexer$Kind" ∧ Fld Z Z.heap w_NAMED_PARAMETER "java/lang/Enum" "ordinal" "I" (.int (3 : Int32)) ∧ Sta Z Z.heap "com/example/instances_to_rows/instancestorows/query/Lexer$Kind" "POSITIONAL_PARAMETER" "Lcom/example/instances_to_rows/instancestorows/query/Lexer$Kind;" (.ref w_POSITIONAL_PARAMETER) ∧ Exa Z Z.heap w_POSITIONAL_PARAMETER "com/example/instances_to_rows/instancestorows/query/Lexer$Kind" ∧ Fld Z Z.heap w_POSITIONAL_PARAMETER "java/lang/Enum" "ordinal" "I" (.int (4 : Int32)) ∧ Sta Z Z.heap "com/example/instances_to_rows/instancestorows/query/Lexer$Kind" "END" "Lcom/example/instances_to_rows/instancestorows/query/Lexer$Kind;" (.ref w_END) ∧ Exa Z Z.heap w_END "com/example/instances_to_rows/instancestorows/query/Lexer$Kind" ∧ Fld Z Z.heap w_END "java/lang/Enum" "ordinal" "I" (.int (6 : Int32)) ∧ Sta Z Z.heap "java/lang/String" "COMPACT_STRINGS" "Z" (.int zc) ∧ ¬ zc = 0
abbrev EL1 : List (String × Nat) := [("java/lang/String", 7)]
theorem own_mem1 : ("java/lang/String", 7) ∈ EL1 := List.mem_singleton.mpr rfl
theorem own_txt0 : (∀ c ∈ "".toList, c.toNat < 256) ∧ "".toList.map (fun c => Value.int (Jvm.Lit.byteI c.toNat.toUInt16)) = [] := ⟨by decide, by first | rfl | simp⟩
theorem own_EW {Z : State} {a0 : Array Value} (hw : ∀ d ∈ tables_1, d.before a0 Z = true) : EW Z a0 EL1 := EW.cons (text := "") (ww hw 19 rfl) (by decide) EW.nil
def bI (x : Int32) : Int32 := nar .byte (x.toInt8.toInt32)
def eqF (xs ys : List Int32) : Int32 := if xs = ys then 1 else 0
def isF (k : Int32) (xs ys : List Int32) : Int32 := if k = 5 ∧ xs = ys then 1 else 0
def strL (n c0 c1 : Int32) : List Int32 := if n = 0 then [] else if n = 1 then [bI c0] else [bI c0, bI c1]
theorem own_s0 (c0 c1 : Int32) : strL 0 c0 c1 = [] := if_pos rfl
theorem own_s1 (c0 c1 : Int32) : strL 1 c0 c1 = [bI c0] := (if_neg (by decide)).trans (if_pos rfl)
theorem own_s2 (c0 c1 : Int32) : strL 2 c0 c1 = [bI c0, bI c1] := (if_neg (by decide)).trans (if_neg (by decide))
theorem own_nb0 : nar .byte (0 : Int32) = 0 := by decide
theorem own_bo1 : nar .boolean (1 : Int32) = 1 := by decide
theorem own_bo0 : nar .boolean (0 : Int32) = 0 := by decide
def Ch (x : Int32) : Prop := ∃ y : Int32, x = y &&& 255
theorem own_chB {x : Int32} (h : Ch x) : 0 ≤ x.toInt ∧ x.toInt ≤ 255 := by
  obtain ⟨y, rfl⟩ := h
  rw [Jvm.Kit.i32_mask y 255 (k := 8) (by decide) (by decide)]
  omega
theorem own_chc {x : Int32} (h : Ch x) : nar .char x = x := by
  obtain ⟨y, rfl⟩ := h
  exact i2c_mask y
theorem own_chl {x : Int32} (h : Ch x) : ¬ (255 : Int32) < x := by
  have e := own_chB h
  have c : (255 : Int32).toInt = 255 := by decide
  rw [Int32.lt_iff_toInt_lt, c]; omega
theorem own_xor (x y : Int32) : (x &&& 255) ^^^ (y &&& 255) = (x ^^^ y) &&& 255 := by
  apply Int32.toBitVec_inj.mp
  simp only [Int32.toBitVec_xor, Int32.toBitVec_and]
  apply BitVec.eq_of_getLsbD_eq
  intro i _
  simp only [BitVec.getLsbD_xor, BitVec.getLsbD_and]
  cases x.toBitVec.getLsbD i <;> cases y.toBitVec.getLsbD i <;> cases (Int32.toBitVec 255).getLsbD i <;> rfl
theorem own_chx {x y : Int32} (h1 : Ch x) (h2 : Ch y) : Ch ((x ^^^ y).toUInt32.toUInt16.toUInt32.toInt32) := by
  obtain ⟨a, rfl⟩ := h1
  obtain ⟨b, rfl⟩ := h2
  rw [own_xor, i2c_mask]
  exact ⟨_, rfl⟩
theorem own_bIi (x : Int32) : (bI x).toInt = x.toInt.bmod (2 ^ 8) := by
  show (x.toInt8.toInt32.toInt8.toInt32).toInt = _
  rw [Int8.toInt_toInt32, Int32.toInt_toInt8, Int8.toInt_toInt32, Int32.toInt_toInt8]
  rw [Int.bmod_bmod]
theorem own_inj {x y : Int32} (h1 : Ch x) (h2 : Ch y) (h : bI x = bI y) : x = y := by
  have e1 := own_chB h1
  have e2 := own_chB h2
  have e := congrArg Int32.toInt h
  rw [own_bIi, own_bIi, Int.bmod_def, Int.bmod_def] at e
  apply Int32.toInt_inj.mp
  omega
theorem own_m3 (x : Int32) : (x &&& 3) % 3 = 0 ∨ (x &&& 3) % 3 = 1 ∨ (x &&& 3) % 3 = 2 := by
  have e1 := Jvm.Kit.i32_mask x 3 (k := 2) (by decide) (by decide)
  have e2 := Jvm.Kit.i32_rem_nonneg (x := (x &&& 3)) (y := 3) (by omega)
  have c3 : (3 : Int32).toInt = 3 := by decide
  rw [c3] at e2
  generalize (x &&& 3) % 3 = k at *
  have q : k.toInt = 0 ∨ k.toInt = 1 ∨ k.toInt = 2 := by omega
  rcases q with q | q | q
  · exact Or.inl (own_i32 q)
  · exact Or.inr (Or.inl (own_i32 q))
  · exact Or.inr (Or.inr (own_i32 q))
theorem own_strE {lt ls c0 c1 s0 s1 : Int32} (hlt : lt = 0 ∨ lt = 1 ∨ lt = 2) (hls : ls = 0 ∨ ls = 1 ∨ ls = 2) (h0 : Ch c0) (h1 : Ch c1) (g0 : Ch s0) (g1 : Ch s1) : strL lt c0 c1 = strL ls s0 s1 ↔ lt = ls ∧ (lt < 1 ∨ s0 = c0) ∧ (lt < 2 ∨ s1 = c1) := by
  have i0 : bI c0 = bI s0 ↔ s0 = c0 := ⟨fun q => (own_inj h0 g0 q).symm, fun q => by rw [q]⟩
  have i1 : bI c1 = bI s1 ↔ s1 = c1 := ⟨fun q => (own_inj h1 g1 q).symm, fun q => by rw [q]⟩
  have l01 : (0 : Int32) < 1 := by decide
  have l02 : (0 : Int32) < 2 := by decide
  have l11 : ¬ (1 : Int32) < 1 := by decide
  have l12 : (1 : Int32) < 2 := by decide
  have l21 : ¬ (2 : Int32) < 1 := by decide
  have l22 : ¬ (2 : Int32) < 2 := by decide
  have d01 : ¬ (0 : Int32) = 1 := by decide
  have d02 : ¬ (0 : Int32) = 2 := by decide
  have d12 : ¬ (1 : Int32) = 2 := by decide
  have d10 : ¬ (1 : Int32) = 0 := by decide
  have d20 : ¬ (2 : Int32) = 0 := by decide
  have d21 : ¬ (2 : Int32) = 1 := by decide
  rcases hlt with rfl | rfl | rfl <;> rcases hls with rfl | rfl | rfl <;> first | (simp only [own_s0, own_s1, own_s2, List.cons.injEq, List.cons_ne_nil, List.nil_eq, and_true, i0, i1, l01, l02, l11, l12, l21, l22, d01, d02, d12, d10, d20, d21, true_and, false_and, true_or, false_or, and_false, reduceCtorEq, iff_self]; done) | (simp [own_s0, own_s1, own_s2, i0, i1]; done)
theorem own_eq0 {xs ys : List Int32} (h : eqF xs ys = 0) : ¬ xs = ys := fun q => by
  rw [eqF, if_pos q] at h
  exact absurd h (by decide)
theorem own_eq1 {xs ys : List Int32} (h : ¬ eqF xs ys = 0) : xs = ys := by
  by_cases q : xs = ys
  · exact q
  · exact absurd (if_neg q) h
theorem own_eq1' {xs ys : List Int32} (h : ¬ eqF xs ys = 0) : eqF xs ys = 1 := if_pos (own_eq1 h)
theorem d12_0 : decode jdk_52_method_21_code 0 = .ok (.iconst 0, 1) := by decide +kernel
theorem d12_1 : decode jdk_52_method_21_code 1 = .ok (.istore 5, 2) := by decide +kernel
theorem d12_3 : decode jdk_52_method_21_code 3 = .ok (.iload 5, 2) := by decide +kernel
theorem d12_5 : decode jdk_52_method_21_code 5 = .ok (.iload 4, 2) := by decide +kernel
theorem d12_7 : decode jdk_52_method_21_code 7 = .ok (.if_icmp .ge 37, 3) := by decide +kernel
theorem d12_10 : decode jdk_52_method_21_code 10 = .ok (.aload_n 0, 1) := by decide +kernel
theorem d12_11 : decode jdk_52_method_21_code 11 = .ok (.iload_n 1, 1) := by decide +kernel
theorem d12_12 : decode jdk_52_method_21_code 12 = .ok (.caload, 1) := by decide +kernel
theorem d12_13 : decode jdk_52_method_21_code 13 = .ok (.istore 6, 2) := by decide +kernel
theorem d12_15 : decode jdk_52_method_21_code 15 = .ok (.iload 6, 2) := by decide +kernel
theorem d12_17 : decode jdk_52_method_21_code 17 = .ok (.sipush 255, 3) := by decide +kernel
theorem d12_20 : decode jdk_52_method_21_code 20 = .ok (.if_icmp .le 6, 3) := by decide +kernel
theorem d12_26 : decode jdk_52_method_21_code 26 = .ok (.aload_n 2, 1) := by decide +kernel
theorem d12_27 : decode jdk_52_method_21_code 27 = .ok (.iload_n 3, 1) := by decide +kernel
theorem d12_28 : decode jdk_52_method_21_code 28 = .ok (.iload 6, 2) := by decide +kernel
theorem d12_30 : decode jdk_52_method_21_code 30 = .ok (.i2b, 1) := by decide +kernel
theorem d12_31 : decode jdk_52_method_21_code 31 = .ok (.bastore, 1) := by decide +kernel
theorem d12_32 : decode jdk_52_method_21_code 32 = .ok (.iinc 1 1, 3) := by decide +kernel
theorem d12_35 : decode jdk_52_method_21_code 35 = .ok (.iinc 3 1, 3) := by decide +kernel
theorem d12_38 : decode jdk_52_method_21_code 38 = .ok (.iinc 5 1, 3) := by decide +kernel
theorem d12_41 : decode jdk_52_method_21_code 41 = .ok (.goto (-38), 3) := by decide +kernel
theorem d12_44 : decode jdk_52_method_21_code 44 = .ok (.iload 4, 2) := by decide +kernel
theorem d12_46 : decode jdk_52_method_21_code 46 = .ok (.ireturn, 1) := by decide +kernel
theorem pn_312182 : plainName "java/lang/StringUTF16" = true := by first | (simp [plainName, overriddenIn]; done) | decide +kernel
theorem ef_rmK5 (m : MethodId) (x0 : Addr) (x1 : Int32) (x2 : Addr) (x3 : Int32) (x4 : Int32) : entryFrame m #[(.ref x0), (.int x1), (.ref x2), (.int x3), (.int x4)] 7 = mkF m 0 #[.val (.ref x0), .val (.int x1), .val (.ref x2), .val (.int x3), .val (.int x4), .unset, .unset] [] := by first | (simp [entryFrame, mkF, argsToLocals, Value.category]; done) | rfl
set_option maxRecDepth 65536 in
set_option maxHeartbeats 400000000 in
theorem rmK5 (l : Launch) (Z : State) (a0 : Array Value) (hw : ∀ d ∈ tables_1, d.before a0 Z = true) (ws : List Jvm.Cond) (w_IDENTIFIER : Addr) (w_SYMBOL : Addr) (w_NUMBER : Addr) (w_STRING : Addr) (w_NAMED_PARAMETER : Addr) (w_POSITIONAL_PARAMETER : Addr) (w_END : Addr) (zc : Int32) (hS : SF Z w_IDENTIFIER w_SYMBOL w_NUMBER w_STRING w_NAMED_PARAMETER w_POSITIONAL_PARAMETER w_END zc) (a1 a3 : Addr) (k1 k3 : ClassId) (x0 x1 : Int32) (hx0 : ¬ (255 : Int32) < x0) (hx1 : ¬ (255 : Int32) < x1) (h0 : Heap) (O0 : Ext Z.heap h0) (ga : Z.heap.size ≤ a3) (VA : Arv Z h0 a1 k1 .char (2 : Int32) [(.int x0), (.int x1)] (.int (0 : Int32))) (VT : Arv Z h0 a3 k3 .byte (2 : Int32) [(.int (0 : Int32)), (.int (0 : Int32))] (.int (0 : Int32))) (n13 : a1 ≠ a3) :
    Con l Z h0 (⟨"java/lang/StringUTF16", "compress", "([CI[BII)I"⟩ : MethodName) jdk_52_method_21_code 7 (some .int) ws ({ frames := 0, cells := 0, slots := 0, locals := 0 } : Room) #[(.ref a1), (.int (0 : Int32)), (.ref a3), (.int (0 : Int32)), (.int (2 : Int32))] (fun v h L => v = some (.int 2) ∧ Fr Z.heap.size L ∧ Keep h0 h [a3] ∧ Arv Z h a3 k3 .byte (2 : Int32) [(.int (bI x0)), (.int (bI x1))] (.int (0 : Int32))) := by
  obtain ⟨S_IDENTIFIER, E_IDENTIFIER, S_SYMBOL, E_SYMBOL, F_IDENTIFIER_ordinal, F_SYMBOL_ordinal, S_NUMBER, E_NUMBER, F_NUMBER_ordinal, S_STRING, E_STRING, F_STRING_ordinal, S_NAMED_PARAMETER, E_NAMED_PARAMETER, F_NAMED_PARAMETER_ordinal, S_POSITIONAL_PARAMETER, E_POSITIONAL_PARAMETER, F_POSITIONAL_PARAMETER_ordinal, S_END, E_END, F_END_ordinal, S_COMPACT_STRINGS, hzc⟩ := id hS
  refine own_con (plainFor_of_name pn_312182) ?_
  intro p e s m below meth c T0 X0 hx hby hml hown hnm hret hlk hZ e0
  have hown : s.vm.findClass "java/lang/StringUTF16" = some m.cls := hown
  have N0 := Fr.nil Z.heap.size
  have KP0 : Keep h0 h0 [a3] := Keep.refl h0 _
  refine Go.st (S' := T0.setTop (mkF m 0 #[.val (.ref a1), .val (.int (0 : Int32)), .val (.ref a3), .val (.int (0 : Int32)), .val (.int (2 : Int32)), .unset, .unset] [])) (fun _ k => castTop (ef_rmK5 m a1 (0 : Int32) a3 (0 : Int32) (2 : Int32)) k) ?_
  refine Go.st (S' := T0.setTop (mkF m 1 #[.val (.ref a1), .val (.int (0 : Int32)), .val (.ref a3), .val (.int (0 : Int32)), .val (.int (2 : Int32)), .unset, .unset] [(.int (0 : Int32))])) (fun _ k => XS.iconst X0.here hx rfl (hb hby d12_0) k) ?_
  refine Go.st (S' := T0.setTop (mkF m 3 #[.val (.ref a1), .val (.int (0 : Int32)), .val (.ref a3), .val (.int (0 : Int32)), .val (.int (2 : Int32)), .val (.int (0 : Int32)), .unset] [])) (fun _ k => XS.istore X0.here hx rfl (hb hby d12_1) rfl (l' := #[.val (.ref a1), .val (.int (0 : Int32)), .val (.ref a3), .val (.int (0 : Int32)), .val (.int (2 : Int32)), .val (.int (0 : Int32)), .unset]) rfl k) ?_
  refine Go.st (S' := T0.setTop (mkF m 5 #[.val (.ref a1), .val (.int (0 : Int32)), .val (.ref a3), .val (.int (0 : Int32)), .val (.int (2 : Int32)), .val (.int (0 : Int32)), .unset] [(.int (0 : Int32))])) (fun _ k => XS.iload X0.here hx rfl (hb hby d12_3) rfl k) ?_
  refine Go.st (S' := T0.setTop (mkF m 7 #[.val (.ref a1), .val (.int (0 : Int32)), .val (.ref a3), .val (.int (0 : Int32)), .val (.int (2 : Int32)), .val (.int (0 : Int32)), .unset] [(.int (2 : Int32)), (.int (0 : Int32))])) (fun _ k => XS.iload X0.here hx rfl (hb hby d12_5) rfl k) ?_
  refine Go.st (S' := T0.setTop (mkF m 10 #[.val (.ref a1), .val (.int (0 : Int32)), .val (.ref a3), .val (.int (0 : Int32)), .val (.int (2 : Int32)), .val (.int (0 : Int32)), .unset] [])) (fun _ k => XS.icmpNo X0.here hx rfl (hb hby d12_7) rfl (tlt (by decide)).2.1 k) ?_
  refine Go.st (S' := T0.setTop (mkF m 11 #[.val (.ref a1), .val (.int (0 : Int32)), .val (.ref a3), .val (.int (0 : Int32)), .val (.int (2 : Int32)), .val (.int (0 : Int32)), .unset] [(.ref a1)])) (fun _ k => XS.aloadN X0.here hx rfl (hb hby d12_10) rfl rfl k) ?_
  refine Go.st (S' := T0.setTop (mkF m 12 #[.val (.ref a1), .val (.int (0 : Int32)), .val (.ref a3), .val (.int (0 : Int32)), .val (.int (2 : Int32)), .val (.int (0 : Int32)), .unset] [(.int (0 : Int32)), (.ref a1)])) (fun _ k => XS.iloadN X0.here hx rfl (hb hby d12_11) rfl k) ?_
  refine Go.st (S' := T0.setTop (mkF m 13 #[.val (.ref a1), .val (.int (0 : Int32)), .val (.ref a3), .val (.int (0 : Int32)), .val (.int (2 : Int32)), .val (.int (0 : Int32)), .unset] [(.int x0)])) (own_ldC X0 hx hZ e0 VA ⟨by decide, by decide⟩ rfl (g := (mkF m 12 #[.val (.ref a1), .val (.int (0 : Int32)), .val (.ref a3), .val (.int (0 : Int32)), .val (.int (2 : Int32)), .val (.int (0 : Int32)), .unset] [(.int (0 : Int32)), (.ref a1)])) rfl rfl (hb hby d12_12)) ?_
  refine Go.st (S' := T0.setTop (mkF m 15 #[.val (.ref a1), .val (.int (0 : Int32)), .val (.ref a3), .val (.int (0 : Int32)), .val (.int (2 : Int32)), .val (.int (0 : Int32)), .val (.int x0)] [])) (fun _ k => XS.istore X0.here hx rfl (hb hby d12_13) rfl (l' := #[.val (.ref a1), .val (.int (0 : Int32)), .val (.ref a3), .val (.int (0 : Int32)), .val (.int (2 : Int32)), .val (.int (0 : Int32)), .val (.int x0)]) rfl k) ?_
  refine Go.st (S' := T0.setTop (mkF m 17 #[.val (.ref a1), .val (.int (0 : Int32)), .val (.ref a3), .val (.int (0 : Int32)), .val (.int (2 : Int32)), .val (.int (0 : Int32)), .val (.int x0)] [(.int x0)])) (fun _ k => XS.iload X0.here hx rfl (hb hby d12_15) rfl k) ?_
  refine Go.st (S' := T0.setTop (mkF m 20 #[.val (.ref a1), .val (.int (0 : Int32)), .val (.ref a3), .val (.int (0 : Int32)), .val (.int (2 : Int32)), .val (.int (0 : Int32)), .val (.int x0)] [(.int (255 : Int32)), (.int x0)])) (fun _ k => XS.sipush X0.here hx rfl (hb hby d12_17) k) ?_
  refine Go.st (S' := T0.setTop (mkF m 26 #[.val (.ref a1), .val (.int (0 : Int32)), .val (.ref a3), .val (.int (0 : Int32)), .val (.int (2 : Int32)), .val (.int (0 : Int32)), .val (.int x0)] [])) (fun _ k => XS.icmpYes X0.here hx rfl (pc0 := 20) (pc' := 26) rfl (hb hby d12_20) rfl (flt hx0).2.2.2 (by decide) (by decide) k) ?_
  refine Go.st (S' := T0.setTop (mkF m 27 #[.val (.ref a1), .val (.int (0 : Int32)), .val (.ref a3), .val (.int (0 : Int32)), .val (.int (2 : Int32)), .val (.int (0 : Int32)), .val (.int x0)] [(.ref a3)])) (fun _ k => XS.aloadN X0.here hx rfl (hb hby d12_26) rfl rfl k) ?_
  refine Go.st (S' := T0.setTop (mkF m 28 #[.val (.ref a1), .val (.int (0 : Int32)), .val (.ref a3), .val (.int (0 : Int32)), .val (.int (2 : Int32)), .val (.int (0 : Int32)), .val (.int x0)] [(.int (0 : Int32)), (.ref a3)])) (fun _ k => XS.iloadN X0.here hx rfl (hb hby d12_27) rfl k) ?_
  refine Go.st (S' := T0.setTop (mkF m 30 #[.val (.ref a1), .val (.int (0 : Int32)), .val (.ref a3), .val (.int (0 : Int32)), .val (.int (2 : Int32)), .val (.int (0 : Int32)), .val (.int x0)] [(.int x0), (.int (0 : Int32)), (.ref a3)])) (fun _ k => XS.iload X0.here hx rfl (hb hby d12_28) rfl k) ?_
  refine Go.st (S' := T0.setTop (mkF m 31 #[.val (.ref a1), .val (.int (0 : Int32)), .val (.ref a3), .val (.int (0 : Int32)), .val (.int (2 : Int32)), .val (.int (0 : Int32)), .val (.int x0)] [(.int (x0.toInt8.toInt32)), (.int (0 : Int32)), (.ref a3)])) (fun _ k => XS.i2b X0.here hx rfl (hb hby d12_30) rfl k) ?_
  obtain ⟨T2, h2, X2, e2, W2, V2, st2⟩ := own_stB X0 hx hZ e0 VT (j := (0 : Int32)) ⟨by decide, by decide⟩ 0 rfl (Nat.le_of_ble_eq_true rfl) (g := (mkF m 31 #[.val (.ref a1), .val (.int (0 : Int32)), .val (.ref a3), .val (.int (0 : Int32)), .val (.int (2 : Int32)), .val (.int (0 : Int32)), .val (.int x0)] [(.int (x0.toInt8.toInt32)), (.int (0 : Int32)), (.ref a3)])) rfl rfl (hb hby d12_31)
  have N2 := Fr.snoc X2 N0 ga
  have V2 : Arv Z h2 a3 k3 .byte (2 : Int32) [(.int (nar .byte (x0.toInt8.toInt32))), (.int (0 : Int32))] (.int (0 : Int32)) := V2
  have O2 : Ext Z.heap h2 := own_Ext.wr O0 W2 ga
  have KP2 : Keep h0 h2 [a3] := KP0.wr W2 (Or.inl (List.mem_of_getElem? (i := 0) rfl))
  refine Go.st (S' := T2.setTop (mkF m 32 #[.val (.ref a1), .val (.int (0 : Int32)), .val (.ref a3), .val (.int (0 : Int32)), .val (.int (2 : Int32)), .val (.int (0 : Int32)), .val (.int x0)] [])) st2 ?_
  refine Go.st (S' := T2.setTop (mkF m 35 #[.val (.ref a1), .val (.int (1 : Int32)), .val (.ref a3), .val (.int (0 : Int32)), .val (.int (2 : Int32)), .val (.int (0 : Int32)), .val (.int x0)] [])) (fun _ k => XS.iinc X2.here hx rfl (hb hby d12_32) rfl (l' := #[.val (.ref a1), .val (.int (1 : Int32)), .val (.ref a3), .val (.int (0 : Int32)), .val (.int (2 : Int32)), .val (.int (0 : Int32)), .val (.int x0)]) rfl k) ?_
  refine Go.st (S' := T2.setTop (mkF m 38 #[.val (.ref a1), .val (.int (1 : Int32)), .val (.ref a3), .val (.int (1 : Int32)), .val (.int (2 : Int32)), .val (.int (0 : Int32)), .val (.int x0)] [])) (fun _ k => XS.iinc X2.here hx rfl (hb hby d12_35) rfl (l' := #[.val (.ref a1), .val (.int (1 : Int32)), .val (.ref a3), .val (.int (1 : Int32)), .val (.int (2 : Int32)), .val (.int (0 : Int32)), .val (.int x0)]) rfl k) ?_
  refine Go.st (S' := T2.setTop (mkF m 41 #[.val (.ref a1), .val (.int (1 : Int32)), .val (.ref a3), .val (.int (1 : Int32)), .val (.int (2 : Int32)), .val (.int (1 : Int32)), .val (.int x0)] [])) (fun _ k => XS.iinc X2.here hx rfl (hb hby d12_38) rfl (l' := #[.val (.ref a1), .val (.int (1 : Int32)), .val (.ref a3), .val (.int (1 : Int32)), .val (.int (2 : Int32)), .val (.int (1 : Int32)), .val (.int x0)]) rfl k) ?_
  refine Go.st (S' := T2.setTop (mkF m 3 #[.val (.ref a1), .val (.int (1 : Int32)), .val (.ref a3), .val (.int (1 : Int32)), .val (.int (2 : Int32)), .val (.int (1 : Int32)), .val (.int x0)] [])) (fun _ k => XS.goto X2.here hx rfl (pc0 := 41) (pc' := 3) rfl (hb hby d12_41) (by decide) (by decide) k) ?_
  refine Go.st (S' := T2.setTop (mkF m 5 #[.val (.ref a1), .val (.int (1 : Int32)), .val (.ref a3), .val (.int (1 : Int32)), .val (.int (2 : Int32)), .val (.int (1 : Int32)), .val (.int x0)] [(.int (1 : Int32))])) (fun _ k => XS.iload X2.here hx rfl (hb hby d12_3) rfl k) ?_
  refine Go.st (S' := T2.setTop (mkF m 7 #[.val (.ref a1), .val (.int (1 : Int32)), .val (.ref a3), .val (.int (1 : Int32)), .val (.int (2 : Int32)), .val (.int (1 : Int32)), .val (.int x0)] [(.int (2 : Int32)), (.int (1 : Int32))])) (fun _ k => XS.iload X2.here hx rfl (hb hby d12_5) rfl k) ?_
  refine Go.st (S' := T2.setTop (mkF m 10 #[.val (.ref a1), .val (.int (1 : Int32)), .val (.ref a3), .val (.int (1 : Int32)), .val (.int (2 : Int32)), .val (.int (1 : Int32)), .val (.int x0)] [])) (fun _ k => XS.icmpNo X2.here hx rfl (hb hby d12_7) rfl (tlt (by decide)).2.1 k) ?_
  refine Go.st (S' := T2.setTop (mkF m 11 #[.val (.ref a1), .val (.int (1 : Int32)), .val (.ref a3), .val (.int (1 : Int32)), .val (.int (2 : Int32)), .val (.int (1 : Int32)), .val (.int x0)] [(.ref a1)])) (fun _ k => XS.aloadN X2.here hx rfl (hb hby d12_10) rfl rfl k) ?_
  refine Go.st (S' := T2.setTop (mkF m 12 #[.val (.ref a1), .val (.int (1 : Int32)), .val (.ref a3), .val (.int (1 : Int32)), .val (.int (2 : Int32)), .val (.int (1 : Int32)), .val (.int x0)] [(.int (1 : Int32)), (.ref a1)])) (fun _ k => XS.iloadN X2.here hx rfl (hb hby d12_11) rfl k) ?_
  refine Go.st (S' := T2.setTop (mkF m 13 #[.val (.ref a1), .val (.int (1 : Int32)), .val (.ref a3), .val (.int (1 : Int32)), .val (.int (2 : Int32)), .val (.int (1 : Int32)), .val (.int x0)] [(.int x1)])) (own_ldC X2 hx hZ e2 (VA.other W2 n13) ⟨by decide, by decide⟩ rfl (g := (mkF m 12 #[.val (.ref a1), .val (.int (1 : Int32)), .val (.ref a3), .val (.int (1 : Int32)), .val (.int (2 : Int32)), .val (.int (1 : Int32)), .val (.int x0)] [(.int (1 : Int32)), (.ref a1)])) rfl rfl (hb hby d12_12)) ?_
  refine Go.st (S' := T2.setTop (mkF m 15 #[.val (.ref a1), .val (.int (1 : Int32)), .val (.ref a3), .val (.int (1 : Int32)), .val (.int (2 : Int32)), .val (.int (1 : Int32)), .val (.int x1)] [])) (fun _ k => XS.istore X2.here hx rfl (hb hby d12_13) rfl (l' := #[.val (.ref a1), .val (.int (1 : Int32)), .val (.ref a3), .val (.int (1 : Int32)), .val (.int (2 : Int32)), .val (.int (1 : Int32)), .val (.int x1)]) rfl k) ?_
  refine Go.st (S' := T2.setTop (mkF m 17 #[.val (.ref a1), .val (.int (1 : Int32)), .val (.ref a3), .val (.int (1 : Int32)), .val (.int (2 : Int32)), .val (.int (1 : Int32)), .val (.int x1)] [(.int x1)])) (fun _ k => XS.iload X2.here hx rfl (hb hby d12_15) rfl k) ?_
  refine Go.st (S' := T2.setTop (mkF m 20 #[.val (.ref a1), .val (.int (1 : Int32)), .val (.ref a3), .val (.int (1 : Int32)), .val (.int (2 : Int32)), .val (.int (1 : Int32)), .val (.int x1)] [(.int (255 : Int32)), (.int x1)])) (fun _ k => XS.sipush X2.here hx rfl (hb hby d12_17) k) ?_
  refine Go.st (S' := T2.setTop (mkF m 26 #[.val (.ref a1), .val (.int (1 : Int32)), .val (.ref a3), .val (.int (1 : Int32)), .val (.int (2 : Int32)), .val (.int (1 : Int32)), .val (.int x1)] [])) (fun _ k => XS.icmpYes X2.here hx rfl (pc0 := 20) (pc' := 26) rfl (hb hby d12_20) rfl (flt hx1).2.2.2 (by decide) (by decide) k) ?_
  refine Go.st (S' := T2.setTop (mkF m 27 #[.val (.ref a1), .val (.int (1 : Int32)), .val (.ref a3), .val (.int (1 : Int32)), .val (.int (2 : Int32)), .val (.int (1 : Int32)), .val (.int x1)] [(.ref a3)])) (fun _ k => XS.aloadN X2.here hx rfl (hb hby d12_26) rfl rfl k) ?_
  refine Go.st (S' := T2.setTop (mkF m 28 #[.val (.ref a1), .val (.int (1 : Int32)), .val (.ref a3), .val (.int (1 : Int32)), .val (.int (2 : Int32)), .val (.int (1 : Int32)), .val (.int x1)] [(.int (1 : Int32)), (.ref a3)])) (fun _ k => XS.iloadN X2.here hx rfl (hb hby d12_27) rfl k) ?_
  refine Go.st (S' := T2.setTop (mkF m 30 #[.val (.ref a1), .val (.int (1 : Int32)), .val (.ref a3), .val (.int (1 : Int32)), .val (.int (2 : Int32)), .val (.int (1 : Int32)), .val (.int x1)] [(.int x1), (.int (1 : Int32)), (.ref a3)])) (fun _ k => XS.iload X2.here hx rfl (hb hby d12_28) rfl k) ?_
  refine Go.st (S' := T2.setTop (mkF m 31 #[.val (.ref a1), .val (.int (1 : Int32)), .val (.ref a3), .val (.int (1 : Int32)), .val (.int (2 : Int32)), .val (.int (1 : Int32)), .val (.int x1)] [(.int (x1.toInt8.toInt32)), (.int (1 : Int32)), (.ref a3)])) (fun _ k => XS.i2b X2.here hx rfl (hb hby d12_30) rfl k) ?_
  obtain ⟨T4, h4, X4, e4, W4, V4, st4⟩ := own_stB X2 hx hZ e2 V2 (j := (1 : Int32)) ⟨by decide, by decide⟩ 1 rfl (Nat.le_of_ble_eq_true rfl) (g := (mkF m 31 #[.val (.ref a1), .val (.int (1 : Int32)), .val (.ref a3), .val (.int (1 : Int32)), .val (.int (2 : Int32)), .val (.int (1 : Int32)), .val (.int x1)] [(.int (x1.toInt8.toInt32)), (.int (1 : Int32)), (.ref a3)])) rfl rfl (hb hby d12_31)
  have N4 := Fr.snoc X4 N2 ga
  have V4 : Arv Z h4 a3 k3 .byte (2 : Int32) [(.int (nar .byte (x0.toInt8.toInt32))), (.int (nar .byte (x1.toInt8.toInt32)))] (.int (0 : Int32)) := V4
  have O4 : Ext Z.heap h4 := own_Ext.wr O2 W4 ga
  have KP4 : Keep h0 h4 [a3] := KP2.wr W4 (Or.inl (List.mem_of_getElem? (i := 0) rfl))
  refine Go.st (S' := T4.setTop (mkF m 32 #[.val (.ref a1), .val (.int (1 : Int32)), .val (.ref a3), .val (.int (1 : Int32)), .val (.int (2 : Int32)), .val (.int (1 : Int32)), .val (.int x1)] [])) st4 ?_
  refine Go.st (S' := T4.setTop (mkF m 35 #[.val (.ref a1), .val (.int (2 : Int32)), .val (.ref a3), .val (.int (1 : Int32)), .val (.int (2 : Int32)), .val (.int (1 : Int32)), .val (.int x1)] [])) (fun _ k => XS.iinc X4.here hx rfl (hb hby d12_32) rfl (l' := #[.val (.ref a1), .val (.int (2 : Int32)), .val (.ref a3), .val (.int (1 : Int32)), .val (.int (2 : Int32)), .val (.int (1 : Int32)), .val (.int x1)]) rfl k) ?_
  refine Go.st (S' := T4.setTop (mkF m 38 #[.val (.ref a1), .val (.int (2 : Int32)), .val (.ref a3), .val (.int (2 : Int32)), .val (.int (2 : Int32)), .val (.int (1 : Int32)), .val (.int x1)] [])) (fun _ k => XS.iinc X4.here hx rfl (hb hby d12_35) rfl (l' := #[.val (.ref a1), .val (.int (2 : Int32)), .val (.ref a3), .val (.int (2 : Int32)), .val (.int (2 : Int32)), .val (.int (1 : Int32)), .val (.int x1)]) rfl k) ?_
  refine Go.st (S' := T4.setTop (mkF m 41 #[.val (.ref a1), .val (.int (2 : Int32)), .val (.ref a3), .val (.int (2 : Int32)), .val (.int (2 : Int32)), .val (.int (2 : Int32)), .val (.int x1)] [])) (fun _ k => XS.iinc X4.here hx rfl (hb hby d12_38) rfl (l' := #[.val (.ref a1), .val (.int (2 : Int32)), .val (.ref a3), .val (.int (2 : Int32)), .val (.int (2 : Int32)), .val (.int (2 : Int32)), .val (.int x1)]) rfl k) ?_
  refine Go.st (S' := T4.setTop (mkF m 3 #[.val (.ref a1), .val (.int (2 : Int32)), .val (.ref a3), .val (.int (2 : Int32)), .val (.int (2 : Int32)), .val (.int (2 : Int32)), .val (.int x1)] [])) (fun _ k => XS.goto X4.here hx rfl (pc0 := 41) (pc' := 3) rfl (hb hby d12_41) (by decide) (by decide) k) ?_
  refine Go.st (S' := T4.setTop (mkF m 5 #[.val (.ref a1), .val (.int (2 : Int32)), .val (.ref a3), .val (.int (2 : Int32)), .val (.int (2 : Int32)), .val (.int (2 : Int32)), .val (.int x1)] [(.int (2 : Int32))])) (fun _ k => XS.iload X4.here hx rfl (hb hby d12_3) rfl k) ?_
  refine Go.st (S' := T4.setTop (mkF m 7 #[.val (.ref a1), .val (.int (2 : Int32)), .val (.ref a3), .val (.int (2 : Int32)), .val (.int (2 : Int32)), .val (.int (2 : Int32)), .val (.int x1)] [(.int (2 : Int32)), (.int (2 : Int32))])) (fun _ k => XS.iload X4.here hx rfl (hb hby d12_5) rfl k) ?_
  refine Go.st (S' := T4.setTop (mkF m 44 #[.val (.ref a1), .val (.int (2 : Int32)), .val (.ref a3), .val (.int (2 : Int32)), .val (.int (2 : Int32)), .val (.int (2 : Int32)), .val (.int x1)] [])) (fun _ k => XS.icmpYes X4.here hx rfl (pc0 := 7) (pc' := 44) rfl (hb hby d12_7) rfl (flt (by decide)).2.1 (by decide) (by decide) k) ?_
  refine Go.st (S' := T4.setTop (mkF m 46 #[.val (.ref a1), .val (.int (2 : Int32)), .val (.ref a3), .val (.int (2 : Int32)), .val (.int (2 : Int32)), .val (.int (2 : Int32)), .val (.int x1)] [(.int (2 : Int32))])) (fun _ k => XS.iload X4.here hx rfl (hb hby d12_44) rfl k) ?_
  exact own_retI X4 hx hlk hret (hb hby d12_46) e4 ⟨rfl, N4, KP4, V4⟩ (by decide) (by decide)
theorem d11_0 : decode jdk_52_method_16_code 0 = .ok (.iload_n 2, 1) := by decide +kernel
theorem d11_1 : decode jdk_52_method_16_code 1 = .ok (.newarray .byte, 2) := by decide +kernel
theorem d11_3 : decode jdk_52_method_16_code 3 = .ok (.astore_n 3, 1) := by decide +kernel
theorem d11_4 : decode jdk_52_method_16_code 4 = .ok (.aload_n 0, 1) := by decide +kernel
theorem d11_5 : decode jdk_52_method_16_code 5 = .ok (.iload_n 1, 1) := by decide +kernel
theorem d11_6 : decode jdk_52_method_16_code 6 = .ok (.aload_n 3, 1) := by decide +kernel
theorem d11_7 : decode jdk_52_method_16_code 7 = .ok (.iconst 0, 1) := by decide +kernel
theorem d11_8 : decode jdk_52_method_16_code 8 = .ok (.iload_n 2, 1) := by decide +kernel
theorem d11_9 : decode jdk_52_method_16_code 9 = .ok (.invokestatic 115, 3) := by decide +kernel
theorem d11_12 : decode jdk_52_method_16_code 12 = .ok (.istore 4, 2) := by decide +kernel
theorem d11_14 : decode jdk_52_method_16_code 14 = .ok (.iload 4, 2) := by decide +kernel
theorem d11_16 : decode jdk_52_method_16_code 16 = .ok (.iload_n 2, 1) := by decide +kernel
theorem d11_17 : decode jdk_52_method_16_code 17 = .ok (.if_icmp .eq 40, 3) := by decide +kernel
theorem d11_57 : decode jdk_52_method_16_code 57 = .ok (.aload_n 3, 1) := by decide +kernel
theorem d11_58 : decode jdk_52_method_16_code 58 = .ok (.areturn, 1) := by decide +kernel
theorem pd_452943 : parseMethodDescriptor "([CI[BII)I" = some ⟨[(.array .char), .int, (.array .byte), .int, .int], some .int⟩ := by decide +kernel
theorem ef_rmK3 (m : MethodId) (x0 : Addr) (x1 : Int32) (x2 : Int32) : entryFrame m #[(.ref x0), (.int x1), (.int x2)] 6 = mkF m 0 #[.val (.ref x0), .val (.int x1), .val (.int x2), .unset, .unset, .unset] [] := by first | (simp [entryFrame, mkF, argsToLocals, Value.category]; done) | rfl
set_option maxRecDepth 65536 in
set_option maxHeartbeats 400000000 in
theorem rmK3 (l : Launch) (Z : State) (a0 : Array Value) (hw : ∀ d ∈ tables_1, d.before a0 Z = true) (ws : List Jvm.Cond) (w_IDENTIFIER : Addr) (w_SYMBOL : Addr) (w_NUMBER : Addr) (w_STRING : Addr) (w_NAMED_PARAMETER : Addr) (w_POSITIONAL_PARAMETER : Addr) (w_END : Addr) (zc : Int32) (hS : SF Z w_IDENTIFIER w_SYMBOL w_NUMBER w_STRING w_NAMED_PARAMETER w_POSITIONAL_PARAMETER w_END zc) (a1 : Addr) (k1 : ClassId) (x0 x1 : Int32) (hx0 : ¬ (255 : Int32) < x0) (hx1 : ¬ (255 : Int32) < x1) (h0 : Heap) (O0 : Ext Z.heap h0) (VA : Arv Z h0 a1 k1 .char (2 : Int32) [(.int x0), (.int x1)] (.int (0 : Int32))) :
    Con l Z h0 (⟨"java/lang/StringUTF16", "compress", "([CII)[B"⟩ : MethodName) jdk_52_method_16_code 6 (some (.array .byte)) ws ({ frames := 1, cells := 1, slots := 2, locals := 25 } : Room) #[(.ref a1), (.int (0 : Int32)), (.int (2 : Int32))] (fun v h L => (∃ b kb, v = some (.ref b) ∧ h0.size ≤ b ∧ Arv Z h b kb .byte (2 : Int32) [(.int (bI x0)), (.int (bI x1))] (.int (0 : Int32))) ∧ Fr Z.heap.size L ∧ Keep h0 h []) := by
  obtain ⟨S_IDENTIFIER, E_IDENTIFIER, S_SYMBOL, E_SYMBOL, F_IDENTIFIER_ordinal, F_SYMBOL_ordinal, S_NUMBER, E_NUMBER, F_NUMBER_ordinal, S_STRING, E_STRING, F_STRING_ordinal, S_NAMED_PARAMETER, E_NAMED_PARAMETER, F_NAMED_PARAMETER_ordinal, S_POSITIONAL_PARAMETER, E_POSITIONAL_PARAMETER, F_POSITIONAL_PARAMETER_ordinal, S_END, E_END, F_END_ordinal, S_COMPACT_STRINGS, hzc⟩ := id hS
  refine own_con (plainFor_of_name pn_312182) ?_
  intro p e s m below meth c T0 X0 hx hby hml hown hnm hret hlk hZ e0
  have hown : s.vm.findClass "java/lang/StringUTF16" = some m.cls := hown
  have N0 := Fr.nil Z.heap.size
  have KP0 : Keep h0 h0 [] := Keep.refl h0 _
  refine Go.st (S' := T0.setTop (mkF m 0 #[.val (.ref a1), .val (.int (0 : Int32)), .val (.int (2 : Int32)), .unset, .unset, .unset] [])) (fun _ k => castTop (ef_rmK3 m a1 (0 : Int32) (2 : Int32)) k) ?_
  refine Go.st (S' := T0.setTop (mkF m 1 #[.val (.ref a1), .val (.int (0 : Int32)), .val (.int (2 : Int32)), .unset, .unset, .unset] [(.int (2 : Int32))])) (fun _ k => XS.iloadN X0.here hx rfl (hb hby d11_0) rfl k) ?_
  obtain ⟨T5, h5, k5, X5, e5, E5, A5, Ea5, st5⟩ := newPE X0 hx hZ (ww hw 20 rfl) e0 (g := (mkF m 1 #[.val (.ref a1), .val (.int (0 : Int32)), .val (.int (2 : Int32)), .unset, .unset, .unset] [(.int (2 : Int32))])) rfl (hb hby d11_1) rfl (by decide) (cap := 2) (by decide) (by decide) (by decide) (by decide) (ad := "[B") (by decide)
  obtain ⟨b5, g5⟩ : ∃ z, z = h0.size := ⟨_, rfl⟩
  rw [← g5] at A5 Ea5 st5
  have gz5 : Z.heap.size ≤ b5 := Nat.le_trans O0.1 (Nat.le_of_eq g5.symm)
  have sz5 : h0.size ≤ b5 := Nat.le_trans KP0.1 (Nat.le_of_eq g5.symm)
  have ne_a1_b5 : a1 ≠ b5 := own_lt_ne VA.lt g5
  have O5 : Ext Z.heap h5 := own_Ext.trans O0 E5
  have KP5 : Keep h0 h5 [] := KP0.ext E5
  have V5 : Arv Z h5 b5 k5 .byte (2 : Int32) [(.int (0 : Int32)), (.int (0 : Int32))] (.int (0 : Int32)) := (Arv.new A5 (by decide)).pad (pad_rep [] (.int (0 : Int32)) 2)
  refine Go.st (S' := T5.setTop (mkF m 3 #[.val (.ref a1), .val (.int (0 : Int32)), .val (.int (2 : Int32)), .unset, .unset, .unset] [(.ref b5)])) st5 ?_
  refine Go.st (S' := T5.setTop (mkF m 4 #[.val (.ref a1), .val (.int (0 : Int32)), .val (.int (2 : Int32)), .val (.ref b5), .unset, .unset] [])) (fun _ k => XS.astoreN X5.here hx rfl (hb hby d11_3) rfl rfl (l' := #[.val (.ref a1), .val (.int (0 : Int32)), .val (.int (2 : Int32)), .val (.ref b5), .unset, .unset]) rfl k) ?_
  refine Go.st (S' := T5.setTop (mkF m 5 #[.val (.ref a1), .val (.int (0 : Int32)), .val (.int (2 : Int32)), .val (.ref b5), .unset, .unset] [(.ref a1)])) (fun _ k => XS.aloadN X5.here hx rfl (hb hby d11_4) rfl rfl k) ?_
  refine Go.st (S' := T5.setTop (mkF m 6 #[.val (.ref a1), .val (.int (0 : Int32)), .val (.int (2 : Int32)), .val (.ref b5), .unset, .unset] [(.int (0 : Int32)), (.ref a1)])) (fun _ k => XS.iloadN X5.here hx rfl (hb hby d11_5) rfl k) ?_
  refine Go.st (S' := T5.setTop (mkF m 7 #[.val (.ref a1), .val (.int (0 : Int32)), .val (.int (2 : Int32)), .val (.ref b5), .unset, .unset] [(.ref b5), (.int (0 : Int32)), (.ref a1)])) (fun _ k => XS.aloadN X5.here hx rfl (hb hby d11_6) rfl rfl k) ?_
  refine Go.st (S' := T5.setTop (mkF m 8 #[.val (.ref a1), .val (.int (0 : Int32)), .val (.int (2 : Int32)), .val (.ref b5), .unset, .unset] [(.int (0 : Int32)), (.ref b5), (.int (0 : Int32)), (.ref a1)])) (fun _ k => XS.iconst X5.here hx rfl (hb hby d11_7) k) ?_
  refine Go.st (S' := T5.setTop (mkF m 9 #[.val (.ref a1), .val (.int (0 : Int32)), .val (.int (2 : Int32)), .val (.ref b5), .unset, .unset] [(.int (2 : Int32)), (.int (0 : Int32)), (.ref b5), (.int (0 : Int32)), (.ref a1)])) (fun _ k => XS.iloadN X5.here hx rfl (hb hby d11_8) rfl k) ?_
  obtain ⟨_, T6, L6, X6, ⟨rfl, Nq6, kp6, vb6⟩, st6⟩ := own_callS X5 hx hZ hown (ww hw 76 rfl) (ww hw 77 rfl) (ww hw 74 rfl) (ww hw 78 rfl) (by decide) e5 (rmK5 l Z a0 hw [] w_IDENTIFIER w_SYMBOL w_NUMBER w_STRING w_NAMED_PARAMETER w_POSITIONAL_PARAMETER w_END zc hS a1 b5 k1 k5 x0 x1 hx0 hx1 h5 O5 gz5 (VA.ext E5) V5 ne_a1_b5) 0 (by decide) (by decide) (by decide) (by decide) (g := (mkF m 9 #[.val (.ref a1), .val (.int (0 : Int32)), .val (.int (2 : Int32)), .val (.ref b5), .unset, .unset] [(.int (2 : Int32)), (.int (0 : Int32)), (.ref b5), (.int (0 : Int32)), (.ref a1)])) rfl (by rw [hml]; rfl) [(.ref a1), (.int (0 : Int32)), (.ref b5), (.int (0 : Int32)), (.int (2 : Int32))] [] rfl (lenOf pd_452943 rfl) rfl (by show 2 * 0 + _ ≤ _; exact Nat.le_of_eq rfl) (hb hby d11_9)
  have N6 := Fr.app N0 Nq6
  have O6 : Ext Z.heap T6.heap := own_Ext.keep O5 kp6 (allS gz5 all0)
  have KP6 : Keep h0 T6.heap [] := KP5.trans kp6 (allS (Or.inr sz5) all0)
  refine Go.st (S' := T6.setTop (mkF m 12 #[.val (.ref a1), .val (.int (0 : Int32)), .val (.int (2 : Int32)), .val (.ref b5), .unset, .unset] [(.int (2 : Int32))])) st6 ?_
  refine Go.st (S' := T6.setTop (mkF m 14 #[.val (.ref a1), .val (.int (0 : Int32)), .val (.int (2 : Int32)), .val (.ref b5), .val (.int (2 : Int32)), .unset] [])) (fun _ k => XS.istore X6.here hx rfl (hb hby d11_12) rfl (l' := #[.val (.ref a1), .val (.int (0 : Int32)), .val (.int (2 : Int32)), .val (.ref b5), .val (.int (2 : Int32)), .unset]) rfl k) ?_
  refine Go.st (S' := T6.setTop (mkF m 16 #[.val (.ref a1), .val (.int (0 : Int32)), .val (.int (2 : Int32)), .val (.ref b5), .val (.int (2 : Int32)), .unset] [(.int (2 : Int32))])) (fun _ k => XS.iload X6.here hx rfl (hb hby d11_14) rfl k) ?_
  refine Go.st (S' := T6.setTop (mkF m 17 #[.val (.ref a1), .val (.int (0 : Int32)), .val (.int (2 : Int32)), .val (.ref b5), .val (.int (2 : Int32)), .unset] [(.int (2 : Int32)), (.int (2 : Int32))])) (fun _ k => XS.iloadN X6.here hx rfl (hb hby d11_16) rfl k) ?_
  refine Go.st (S' := T6.setTop (mkF m 57 #[.val (.ref a1), .val (.int (0 : Int32)), .val (.int (2 : Int32)), .val (.ref b5), .val (.int (2 : Int32)), .unset] [])) (fun _ k => XS.icmpYes X6.here hx rfl (pc0 := 17) (pc' := 57) rfl (hb hby d11_17) rfl (teq (by decide)).1 (by decide) (by decide) k) ?_
  refine Go.st (S' := T6.setTop (mkF m 58 #[.val (.ref a1), .val (.int (0 : Int32)), .val (.int (2 : Int32)), .val (.ref b5), .val (.int (2 : Int32)), .unset] [(.ref b5)])) (fun _ k => XS.aloadN X6.here hx rfl (hb hby d11_57) rfl rfl k) ?_
  exact own_retA X6 hx hlk hret rfl rfl rfl (hb hby d11_58) rfl ⟨⟨_, _, rfl, sz5, vb6⟩, N6, KP6⟩ (by decide) (by decide)
theorem d13_0 : decode jdk_52_method_15_code 0 = .ok (.iload_n 1, 1) := by decide +kernel
theorem d13_1 : decode jdk_52_method_15_code 1 = .ok (.aload_n 0, 1) := by decide +kernel
theorem d13_2 : decode jdk_52_method_15_code 2 = .ok (.arraylength, 1) := by decide +kernel
theorem d13_3 : decode jdk_52_method_15_code 3 = .ok (.isub, 1) := by decide +kernel
theorem d13_4 : decode jdk_52_method_15_code 4 = .ok (.bipush 31, 2) := by decide +kernel
theorem d13_6 : decode jdk_52_method_15_code 6 = .ok (.iushr, 1) := by decide +kernel
theorem d13_7 : decode jdk_52_method_15_code 7 = .ok (.i2b, 1) := by decide +kernel
theorem d13_8 : decode jdk_52_method_15_code 8 = .ok (.ireturn, 1) := by decide +kernel
theorem ef_rmCd (m : MethodId) (x0 : Addr) (x1 : Int32) : entryFrame m #[(.ref x0), (.int x1)] 2 = mkF m 0 #[.val (.ref x0), .val (.int x1)] [] := by first | (simp [entryFrame, mkF, argsToLocals, Value.category]; done) | rfl
set_option maxRecDepth 65536 in
set_option maxHeartbeats 400000000 in
theorem rmCd (l : Launch) (Z : State) (a0 : Array Value) (hw : ∀ d ∈ tables_1, d.before a0 Z = true) (ws : List Jvm.Cond) (w_IDENTIFIER : Addr) (w_SYMBOL : Addr) (w_NUMBER : Addr) (w_STRING : Addr) (w_NAMED_PARAMETER : Addr) (w_POSITIONAL_PARAMETER : Addr) (w_END : Addr) (zc : Int32) (hS : SF Z w_IDENTIFIER w_SYMBOL w_NUMBER w_STRING w_NAMED_PARAMETER w_POSITIONAL_PARAMETER w_END zc) (a1 : Addr) (k1 : ClassId) (vs : List Value) (h0 : Heap) (O0 : Ext Z.heap h0) (VA : Arv Z h0 a1 k1 .byte (2 : Int32) vs (.int (0 : Int32))) :
    Con l Z h0 (⟨"java/lang/StringUTF16", "coderFromArrayLen", "([BI)B"⟩ : MethodName) jdk_52_method_15_code 2 (some .byte) ws ({ frames := 0, cells := 0, slots := 0, locals := 0 } : Room) #[(.ref a1), (.int (2 : Int32))] (fun v h L => v = some (.int 0) ∧ Fr Z.heap.size L ∧ h = h0) := by
  obtain ⟨S_IDENTIFIER, E_IDENTIFIER, S_SYMBOL, E_SYMBOL, F_IDENTIFIER_ordinal, F_SYMBOL_ordinal, S_NUMBER, E_NUMBER, F_NUMBER_ordinal, S_STRING, E_STRING, F_STRING_ordinal, S_NAMED_PARAMETER, E_NAMED_PARAMETER, F_NAMED_PARAMETER_ordinal, S_POSITIONAL_PARAMETER, E_POSITIONAL_PARAMETER, F_POSITIONAL_PARAMETER_ordinal, S_END, E_END, F_END_ordinal, S_COMPACT_STRINGS, hzc⟩ := id hS
  refine own_con (plainFor_of_name pn_312182) ?_
  intro p e s m below meth c T0 X0 hx hby hml hown hnm hret hlk hZ e0
  have hown : s.vm.findClass "java/lang/StringUTF16" = some m.cls := hown
  have N0 := Fr.nil Z.heap.size
  refine Go.st (S' := T0.setTop (mkF m 0 #[.val (.ref a1), .val (.int (2 : Int32))] [])) (fun _ k => castTop (ef_rmCd m a1 (2 : Int32)) k) ?_
  refine Go.st (S' := T0.setTop (mkF m 1 #[.val (.ref a1), .val (.int (2 : Int32))] [(.int (2 : Int32))])) (fun _ k => XS.iloadN X0.here hx rfl (hb hby d13_0) rfl k) ?_
  refine Go.st (S' := T0.setTop (mkF m 2 #[.val (.ref a1), .val (.int (2 : Int32))] [(.ref a1), (.int (2 : Int32))])) (fun _ k => XS.aloadN X0.here hx rfl (hb hby d13_1) rfl rfl k) ?_
  refine Go.st (S' := T0.setTop (mkF m 3 #[.val (.ref a1), .val (.int (2 : Int32))] [(.int (2 : Int32)), (.int (2 : Int32))])) (own_alen X0 hx hZ e0 VA (g := (mkF m 2 #[.val (.ref a1), .val (.int (2 : Int32))] [(.ref a1), (.int (2 : Int32))])) rfl rfl (hb hby d13_2)) ?_
  refine Go.st (S' := T0.setTop (mkF m 4 #[.val (.ref a1), .val (.int (2 : Int32))] [(.int (0 : Int32))])) (fun _ k => XS.isub X0.here hx rfl (hb hby d13_3) rfl k) ?_
  refine Go.st (S' := T0.setTop (mkF m 6 #[.val (.ref a1), .val (.int (2 : Int32))] [(.int (31 : Int32)), (.int (0 : Int32))])) (fun _ k => XS.bipush X0.here hx rfl (hb hby d13_4) k) ?_
  refine Go.st (S' := T0.setTop (mkF m 7 #[.val (.ref a1), .val (.int (2 : Int32))] [(.int (((0 : Int32).toUInt32 >>> ((31 : Int32) &&& 31).toUInt32).toInt32))])) (fun _ k => XS.iushr X0.here hx rfl (hb hby d13_6) rfl k) ?_
  refine Go.st (S' := T0.setTop (mkF m 8 #[.val (.ref a1), .val (.int (2 : Int32))] [(.int ((((0 : Int32).toUInt32 >>> ((31 : Int32) &&& 31).toUInt32).toInt32).toInt8.toInt32))])) (fun _ k => XS.i2b X0.here hx rfl (hb hby d13_7) rfl k) ?_
  exact own_retN X0 hx hlk hret (by simp) (hb hby d13_8) e0 ⟨congrArg (fun z => some (Value.int z)) (by decide), N0, rfl⟩ (by decide) (by decide)
theorem d3_0 : decode jdk_42_method_149_code 0 = .ok (.aload_n 0, 1) := by decide +kernel
theorem d3_1 : decode jdk_42_method_149_code 1 = .ok (.invokespecial 1, 3) := by decide +kernel
theorem d3_4 : decode jdk_42_method_149_code 4 = .ok (.iload_n 3, 1) := by decide +kernel
theorem d3_5 : decode jdk_42_method_149_code 5 = .ok (.ifCond .ne 22, 3) := by decide +kernel
theorem d3_27 : decode jdk_42_method_149_code 27 = .ok (.getstatic 38, 3) := by decide +kernel
theorem d3_30 : decode jdk_42_method_149_code 30 = .ok (.ifCond .eq 28, 3) := by decide +kernel
theorem d3_33 : decode jdk_42_method_149_code 33 = .ok (.aload_n 1, 1) := by decide +kernel
theorem d3_34 : decode jdk_42_method_149_code 34 = .ok (.iload_n 2, 1) := by decide +kernel
theorem d3_35 : decode jdk_42_method_149_code 35 = .ok (.iload_n 3, 1) := by decide +kernel
theorem d3_36 : decode jdk_42_method_149_code 36 = .ok (.invokestatic 177, 3) := by decide +kernel
theorem d3_39 : decode jdk_42_method_149_code 39 = .ok (.astore 5, 2) := by decide +kernel
theorem d3_41 : decode jdk_42_method_149_code 41 = .ok (.aload_n 0, 1) := by decide +kernel
theorem d3_42 : decode jdk_42_method_149_code 42 = .ok (.aload 5, 2) := by decide +kernel
theorem d3_44 : decode jdk_42_method_149_code 44 = .ok (.iload_n 3, 1) := by decide +kernel
theorem d3_45 : decode jdk_42_method_149_code 45 = .ok (.invokestatic 47, 3) := by decide +kernel
theorem d3_48 : decode jdk_42_method_149_code 48 = .ok (.putfield 15, 3) := by decide +kernel
theorem d3_51 : decode jdk_42_method_149_code 51 = .ok (.aload_n 0, 1) := by decide +kernel
theorem d3_52 : decode jdk_42_method_149_code 52 = .ok (.aload 5, 2) := by decide +kernel
theorem d3_54 : decode jdk_42_method_149_code 54 = .ok (.putfield 9, 3) := by decide +kernel
theorem d3_57 : decode jdk_42_method_149_code 57 = .ok (.return_, 1) := by decide +kernel
theorem pd_714039 : parseMethodDescriptor "([CII)[B" = some ⟨[(.array .char), .int, .int], some (.array .byte)⟩ := by decide +kernel
theorem pd_878787 : parseMethodDescriptor "([BI)B" = some ⟨[(.array .byte), .int], some .byte⟩ := by decide +kernel
theorem pf_983 : parseFieldDescriptor "B" = some .byte := by decide +kernel
theorem sn_45236_value_coder {Z : State} {a0 : Array Value} (hw : ∀ d ∈ tables_1, d.before a0 Z = true) : Jvm.RoadKit.slotOf Z "java/lang/String" "value" "[B" ≠ Jvm.RoadKit.slotOf Z "java/lang/String" "coder" "B" := slot_ne (Or.inr (ww hw 21 rfl)) (Or.inr (ww hw 22 rfl)) (by decide +kernel) (t := (.array .byte)) (t' := .byte) (by decide +kernel) (by decide +kernel)
theorem pf_132114 : parseFieldDescriptor "[B" = some (.array .byte) := by decide +kernel
theorem sn_45236_coder_value {Z : State} {a0 : Array Value} (hw : ∀ d ∈ tables_1, d.before a0 Z = true) : Jvm.RoadKit.slotOf Z "java/lang/String" "coder" "B" ≠ Jvm.RoadKit.slotOf Z "java/lang/String" "value" "[B" := slot_ne (Or.inr (ww hw 22 rfl)) (Or.inr (ww hw 21 rfl)) (by decide +kernel) (t := .byte) (t' := (.array .byte)) (by decide +kernel) (by decide +kernel)
theorem pn_398670 : plainName "java/lang/String" = true := by first | (simp [plainName, overriddenIn]; done) | decide +kernel
theorem ef_rmI2 (m : MethodId) (x0 : Addr) (x1 : Addr) (x2 : Int32) (x3 : Int32) : entryFrame m #[(.ref x0), (.ref x1), (.int x2), (.int x3), .null] 6 = mkF m 0 #[.val (.ref x0), .val (.ref x1), .val (.int x2), .val (.int x3), .val .null, .unset] [] := by first | (simp [entryFrame, mkF, argsToLocals, Value.category]; done) | rfl
set_option maxRecDepth 65536 in
set_option maxHeartbeats 400000000 in
theorem rmI2 (l : Launch) (Z : State) (a0 : Array Value) (hw : ∀ d ∈ tables_1, d.before a0 Z = true) (ws : List Jvm.Cond) (w_IDENTIFIER : Addr) (w_SYMBOL : Addr) (w_NUMBER : Addr) (w_STRING : Addr) (w_NAMED_PARAMETER : Addr) (w_POSITIONAL_PARAMETER : Addr) (w_END : Addr) (zc : Int32) (hS : SF Z w_IDENTIFIER w_SYMBOL w_NUMBER w_STRING w_NAMED_PARAMETER w_POSITIONAL_PARAMETER w_END zc) (a1 a2 : Addr) (k1 : ClassId) (x0 x1 : Int32) (hx0 : ¬ (255 : Int32) < x0) (hx1 : ¬ (255 : Int32) < x1) (h0 : Heap) (O0 : Ext Z.heap h0) (ga : Z.heap.size ≤ a1) (EA : Exa Z h0 a1 "java/lang/String") (F_value : Fld Z h0 a1 "java/lang/String" "value" "[B" .null) (F_coder : Fld Z h0 a1 "java/lang/String" "coder" "B" (.int (0 : Int32))) (VA : Arv Z h0 a2 k1 .char (2 : Int32) [(.int x0), (.int x1)] (.int (0 : Int32))) (n12 : a1 ≠ a2) :
    Con l Z h0 (⟨"java/lang/String", "<init>", "([CIILjava/lang/Void;)V"⟩ : MethodName) jdk_42_method_149_code 6 none ws ({ frames := 2, cells := 1, slots := 2, locals := 60 } : Room) #[(.ref a1), (.ref a2), (.int (0 : Int32)), (.int (2 : Int32)), .null] (fun v h L => v = none ∧ Fr Z.heap.size L ∧ Keep h0 h [a1] ∧ ∃ b kb, h0.size ≤ b ∧ Fld Z h a1 "java/lang/String" "coder" "B" (.int 0) ∧ Fld Z h a1 "java/lang/String" "value" "[B" (.ref b) ∧ Arv Z h b kb .byte (2 : Int32) [(.int (bI x0)), (.int (bI x1))] (.int (0 : Int32))) := by
  obtain ⟨S_IDENTIFIER, E_IDENTIFIER, S_SYMBOL, E_SYMBOL, F_IDENTIFIER_ordinal, F_SYMBOL_ordinal, S_NUMBER, E_NUMBER, F_NUMBER_ordinal, S_STRING, E_STRING, F_STRING_ordinal, S_NAMED_PARAMETER, E_NAMED_PARAMETER, F_NAMED_PARAMETER_ordinal, S_POSITIONAL_PARAMETER, E_POSITIONAL_PARAMETER, F_POSITIONAL_PARAMETER_ordinal, S_END, E_END, F_END_ordinal, S_COMPACT_STRINGS, hzc⟩ := id hS
  refine own_con (plainFor_of_name pn_398670) ?_
  intro p e s m below meth c T0 X0 hx hby hml hown hnm hret hlk hZ e0
  have hown : s.vm.findClass "java/lang/String" = some m.cls := hown
  have N0 := Fr.nil Z.heap.size
  have KP0 : Keep h0 h0 [a1] := Keep.refl h0 _
  refine Go.st (S' := T0.setTop (mkF m 0 #[.val (.ref a1), .val (.ref a2), .val (.int (0 : Int32)), .val (.int (2 : Int32)), .val .null, .unset] [])) (fun _ k => castTop (ef_rmI2 m a1 a2 (0 : Int32) (2 : Int32)) k) ?_
  refine Go.st (S' := T0.setTop (mkF m 1 #[.val (.ref a1), .val (.ref a2), .val (.int (0 : Int32)), .val (.int (2 : Int32)), .val .null, .unset] [(.ref a1)])) (fun _ k => XS.aloadN X0.here hx rfl (hb hby d3_0) rfl rfl k) ?_
  obtain ⟨T8, X8, e8, st8⟩ := initO X0 hx hZ hown (ww hw 16 rfl) (ww hw 17 rfl) (ww hw 18 rfl) e0 (g := (mkF m 1 #[.val (.ref a1), .val (.ref a2), .val (.int (0 : Int32)), .val (.int (2 : Int32)), .val .null, .unset] [(.ref a1)])) rfl (by rw [hml]; rfl) rfl (hb hby d3_1) (by decide) (W := 0) (by show 2 * 0 + _ ≤ _; exact Nat.le_of_eq rfl) (by decide)
  refine Go.st (S' := T8.setTop (mkF m 4 #[.val (.ref a1), .val (.ref a2), .val (.int (0 : Int32)), .val (.int (2 : Int32)), .val .null, .unset] [])) st8 ?_
  refine Go.st (S' := T8.setTop (mkF m 5 #[.val (.ref a1), .val (.ref a2), .val (.int (0 : Int32)), .val (.int (2 : Int32)), .val .null, .unset] [(.int (2 : Int32))])) (fun _ k => XS.iloadN X8.here hx rfl (hb hby d3_4) rfl k) ?_
  refine Go.st (S' := T8.setTop (mkF m 27 #[.val (.ref a1), .val (.ref a2), .val (.int (0 : Int32)), .val (.int (2 : Int32)), .val .null, .unset] [])) (fun _ k => XS.ifYes X8.here hx rfl (pc0 := 5) (pc' := 27) rfl (hb hby d3_5) rfl ((if0 _ _).trans (feq (by decide)).2) (by decide) (by decide) k) ?_
  obtain ⟨T9, X9, e9, st9⟩ := getS2 X8 hx hZ hown (host := "") (Or.inl (ww hw 65 rfl)) Via.refl e8 (S_COMPACT_STRINGS.ext O0) (g := (mkF m 27 #[.val (.ref a1), .val (.ref a2), .val (.int (0 : Int32)), .val (.int (2 : Int32)), .val .null, .unset] [])) rfl (hb hby d3_27)
  refine Go.st (S' := T9.setTop (mkF m 30 #[.val (.ref a1), .val (.ref a2), .val (.int (0 : Int32)), .val (.int (2 : Int32)), .val .null, .unset] [(.int zc)])) st9 ?_
  refine Go.st (S' := T9.setTop (mkF m 33 #[.val (.ref a1), .val (.ref a2), .val (.int (0 : Int32)), .val (.int (2 : Int32)), .val .null, .unset] [])) (fun _ k => XS.ifNo X9.here hx rfl (hb hby d3_30) rfl ((if0 _ _).trans (feq hzc).1) k) ?_
  refine Go.st (S' := T9.setTop (mkF m 34 #[.val (.ref a1), .val (.ref a2), .val (.int (0 : Int32)), .val (.int (2 : Int32)), .val .null, .unset] [(.ref a2)])) (fun _ k => XS.aloadN X9.here hx rfl (hb hby d3_33) rfl rfl k) ?_
  refine Go.st (S' := T9.setTop (mkF m 35 #[.val (.ref a1), .val (.ref a2), .val (.int (0 : Int32)), .val (.int (2 : Int32)), .val .null, .unset] [(.int (0 : Int32)), (.ref a2)])) (fun _ k => XS.iloadN X9.here hx rfl (hb hby d3_34) rfl k) ?_
  refine Go.st (S' := T9.setTop (mkF m 36 #[.val (.ref a1), .val (.ref a2), .val (.int (0 : Int32)), .val (.int (2 : Int32)), .val .null, .unset] [(.int (2 : Int32)), (.int (0 : Int32)), (.ref a2)])) (fun _ k => XS.iloadN X9.here hx rfl (hb hby d3_35) rfl k) ?_
  obtain ⟨_, T10, L10, X10, ⟨⟨cb10, kc10, rfl, sc10, vc10⟩, Nq10, kp10⟩, st10⟩ := own_callS X9 hx hZ hown (ww hw 72 rfl) (ww hw 73 rfl) (ww hw 74 rfl) (ww hw 75 rfl) (by decide) e9 (rmK3 l Z a0 hw [] w_IDENTIFIER w_SYMBOL w_NUMBER w_STRING w_NAMED_PARAMETER w_POSITIONAL_PARAMETER w_END zc hS a2 k1 x0 x1 hx0 hx1 h0 O0 VA) 0 (by decide) (by decide) (by decide) (by decide) (g := (mkF m 36 #[.val (.ref a1), .val (.ref a2), .val (.int (0 : Int32)), .val (.int (2 : Int32)), .val .null, .unset] [(.int (2 : Int32)), (.int (0 : Int32)), (.ref a2)])) rfl (by rw [hml]; rfl) [(.ref a2), (.int (0 : Int32)), (.int (2 : Int32))] [] rfl (lenOf pd_714039 rfl) rfl (by show 2 * 0 + _ ≤ _; exact Nat.le_of_eq rfl) (hb hby d3_36)
  have N10 := Fr.app N0 Nq10
  have ne_a1_cb10 : a1 ≠ cb10 := own_lt_ne' F_value.lt sc10
  have ne_a2_cb10 : a2 ≠ cb10 := own_lt_ne' VA.lt sc10
  have O10 : Ext Z.heap T10.heap := own_Ext.keep O0 kp10 all0
  have KP10 : Keep h0 T10.heap [a1] := KP0.trans kp10 all0
  refine Go.st (S' := T10.setTop (mkF m 39 #[.val (.ref a1), .val (.ref a2), .val (.int (0 : Int32)), .val (.int (2 : Int32)), .val .null, .unset] [(.ref cb10)])) st10 ?_
  refine Go.st (S' := T10.setTop (mkF m 41 #[.val (.ref a1), .val (.ref a2), .val (.int (0 : Int32)), .val (.int (2 : Int32)), .val .null, .val (.ref cb10)] [])) (fun _ k => XS.astore X10.here hx rfl (hb hby d3_39) rfl rfl (l' := #[.val (.ref a1), .val (.ref a2), .val (.int (0 : Int32)), .val (.int (2 : Int32)), .val .null, .val (.ref cb10)]) rfl k) ?_
  refine Go.st (S' := T10.setTop (mkF m 42 #[.val (.ref a1), .val (.ref a2), .val (.int (0 : Int32)), .val (.int (2 : Int32)), .val .null, .val (.ref cb10)] [(.ref a1)])) (fun _ k => XS.aloadN X10.here hx rfl (hb hby d3_41) rfl rfl k) ?_
  refine Go.st (S' := T10.setTop (mkF m 44 #[.val (.ref a1), .val (.ref a2), .val (.int (0 : Int32)), .val (.int (2 : Int32)), .val .null, .val (.ref cb10)] [(.ref cb10), (.ref a1)])) (fun _ k => XS.aload X10.here hx rfl (hb hby d3_42) rfl rfl k) ?_
  refine Go.st (S' := T10.setTop (mkF m 45 #[.val (.ref a1), .val (.ref a2), .val (.int (0 : Int32)), .val (.int (2 : Int32)), .val .null, .val (.ref cb10)] [(.int (2 : Int32)), (.ref cb10), (.ref a1)])) (fun _ k => XS.iloadN X10.here hx rfl (hb hby d3_44) rfl k) ?_
  obtain ⟨_, T11, L11, X11, ⟨rfl, Nq11, eq11⟩, st11⟩ := own_callS X10 hx hZ hown (ww hw 79 rfl) (ww hw 80 rfl) (ww hw 74 rfl) (ww hw 81 rfl) (by decide) rfl (rmCd l Z a0 hw [] w_IDENTIFIER w_SYMBOL w_NUMBER w_STRING w_NAMED_PARAMETER w_POSITIONAL_PARAMETER w_END zc hS cb10 kc10 _ T10.heap O10 vc10) 1 (by decide) (by decide) (by decide) (by decide) (g := (mkF m 45 #[.val (.ref a1), .val (.ref a2), .val (.int (0 : Int32)), .val (.int (2 : Int32)), .val .null, .val (.ref cb10)] [(.int (2 : Int32)), (.ref cb10), (.ref a1)])) rfl (by rw [hml]; rfl) [(.ref cb10), (.int (2 : Int32))] [(.ref a1)] rfl (lenOf pd_878787 rfl) rfl (by show 2 * 0 + _ ≤ _; exact Nat.le_of_eq rfl) (hb hby d3_45)
  have N11 := Fr.app N10 Nq11
  refine Go.st (S' := T11.setTop (mkF m 48 #[.val (.ref a1), .val (.ref a2), .val (.int (0 : Int32)), .val (.int (2 : Int32)), .val .null, .val (.ref cb10)] [(.int (0 : Int32)), (.ref a1)])) st11 ?_
  obtain ⟨T12, h12, X12, e12, W12, st12⟩ := putFN X11 hx hZ hown (ww hw 26 rfl) Via.refl eq11 (F_coder.keep kp10 nin0) (EA.keep kp10) (Or.inr ⟨(ww hw 22 rfl), rfl, hnm⟩) (ww hw 6 rfl) (ty := .byte) pf_983 (v := .int (0 : Int32)) (v' := .int (nar .byte (0 : Int32))) rfl (fits_nar_byte (0 : Int32)) (g := (mkF m 48 #[.val (.ref a1), .val (.ref a2), .val (.int (0 : Int32)), .val (.int (2 : Int32)), .val .null, .val (.ref cb10)] [(.int (0 : Int32)), (.ref a1)])) rfl rfl (hb hby d3_48)
  have N12 := Fr.snoc X12 N11 ga
  have Fw12 := (F_coder.keep kp10 nin0).same W12
  have O12 : Ext Z.heap h12 := own_Ext.wr O10 W12 ga
  have KP12 : Keep h0 h12 [a1] := KP10.wr W12 (Or.inl (List.mem_of_getElem? (i := 0) rfl))
  refine Go.st (S' := T12.setTop (mkF m 51 #[.val (.ref a1), .val (.ref a2), .val (.int (0 : Int32)), .val (.int (2 : Int32)), .val .null, .val (.ref cb10)] [])) st12 ?_
  refine Go.st (S' := T12.setTop (mkF m 52 #[.val (.ref a1), .val (.ref a2), .val (.int (0 : Int32)), .val (.int (2 : Int32)), .val .null, .val (.ref cb10)] [(.ref a1)])) (fun _ k => XS.aloadN X12.here hx rfl (hb hby d3_51) rfl rfl k) ?_
  refine Go.st (S' := T12.setTop (mkF m 54 #[.val (.ref a1), .val (.ref a2), .val (.int (0 : Int32)), .val (.int (2 : Int32)), .val .null, .val (.ref cb10)] [(.ref cb10), (.ref a1)])) (fun _ k => XS.aload X12.here hx rfl (hb hby d3_52) rfl rfl k) ?_
  obtain ⟨T13, h13, X13, e13, W13, st13⟩ := putF X12 hx hZ hown (host := "") (Or.inl (ww hw 25 rfl)) Via.refl e12 ((F_value.keep kp10 nin0).other W12 (Or.inr (sn_45236_value_coder hw))) ((EA.keep kp10).wr W12) (Or.inr ⟨(ww hw 21 rfl), rfl, hnm⟩) (ww hw 6 rfl) (ty := (.array .byte)) pf_132114 rfl rfl (g := (mkF m 54 #[.val (.ref a1), .val (.ref a2), .val (.int (0 : Int32)), .val (.int (2 : Int32)), .val .null, .val (.ref cb10)] [(.ref cb10), (.ref a1)])) rfl rfl (hb hby d3_54)
  have N13 := Fr.snoc X13 N12 ga
  have Fw13 := ((F_value.keep kp10 nin0).other W12 (Or.inr (sn_45236_value_coder hw))).same W13
  have O13 : Ext Z.heap h13 := own_Ext.wr O12 W13 ga
  have KP13 : Keep h0 h13 [a1] := KP12.wr W13 (Or.inl (List.mem_of_getElem? (i := 0) rfl))
  refine Go.st (S' := T13.setTop (mkF m 57 #[.val (.ref a1), .val (.ref a2), .val (.int (0 : Int32)), .val (.int (2 : Int32)), .val .null, .val (.ref cb10)] [])) st13 ?_
  exact own_retV X13 hx hlk hret (hb hby d3_57) e13 ⟨rfl, N13, KP13, _, _, (Nat.le_trans KP0.1 sc10), (by have q_ := (Fw12.other W13 (Or.inr (sn_45236_coder_value hw))); rw [own_nb0] at q_; exact q_), Fw13, ((vc10.other W12 (Ne.symm ne_a1_cb10)).other W13 (Ne.symm ne_a1_cb10))⟩ (by decide) (by decide)
theorem d2_0 : decode jdk_42_method_3_code 0 = .ok (.aload_n 0, 1) := by decide +kernel
theorem d2_1 : decode jdk_42_method_3_code 1 = .ok (.aload_n 1, 1) := by decide +kernel
theorem d2_2 : decode jdk_42_method_3_code 2 = .ok (.iconst 0, 1) := by decide +kernel
theorem d2_3 : decode jdk_42_method_3_code 3 = .ok (.aload_n 1, 1) := by decide +kernel
theorem d2_4 : decode jdk_42_method_3_code 4 = .ok (.arraylength, 1) := by decide +kernel
theorem d2_5 : decode jdk_42_method_3_code 5 = .ok (.aconst_null, 1) := by decide +kernel
theorem d2_6 : decode jdk_42_method_3_code 6 = .ok (.invokespecial 27, 3) := by decide +kernel
theorem d2_9 : decode jdk_42_method_3_code 9 = .ok (.return_, 1) := by decide +kernel
theorem pd_753702 : parseMethodDescriptor "([CIILjava/lang/Void;)V" = some ⟨[(.array .char), .int, .int, (.object "java/lang/Void")], none⟩ := by decide +kernel
theorem ef_rmC2 (m : MethodId) (x0 : Addr) (x1 : Addr) : entryFrame m #[(.ref x0), (.ref x1)] 2 = mkF m 0 #[.val (.ref x0), .val (.ref x1)] [] := by first | (simp [entryFrame, mkF, argsToLocals, Value.category]; done) | rfl
set_option maxRecDepth 65536 in
set_option maxHeartbeats 400000000 in
theorem rmC2 (l : Launch) (Z : State) (a0 : Array Value) (hw : ∀ d ∈ tables_1, d.before a0 Z = true) (ws : List Jvm.Cond) (w_IDENTIFIER : Addr) (w_SYMBOL : Addr) (w_NUMBER : Addr) (w_STRING : Addr) (w_NAMED_PARAMETER : Addr) (w_POSITIONAL_PARAMETER : Addr) (w_END : Addr) (zc : Int32) (hS : SF Z w_IDENTIFIER w_SYMBOL w_NUMBER w_STRING w_NAMED_PARAMETER w_POSITIONAL_PARAMETER w_END zc) (a1 a2 : Addr) (k1 : ClassId) (x0 x1 : Int32) (hx0 : ¬ (255 : Int32) < x0) (hx1 : ¬ (255 : Int32) < x1) (h0 : Heap) (O0 : Ext Z.heap h0) (ga : Z.heap.size ≤ a1) (EA : Exa Z h0 a1 "java/lang/String") (F_value : Fld Z h0 a1 "java/lang/String" "value" "[B" .null) (F_coder : Fld Z h0 a1 "java/lang/String" "coder" "B" (.int (0 : Int32))) (VA : Arv Z h0 a2 k1 .char (2 : Int32) [(.int x0), (.int x1)] (.int (0 : Int32))) (n12 : a1 ≠ a2) :
    Con l Z h0 (⟨"java/lang/String", "<init>", "([C)V"⟩ : MethodName) jdk_42_method_3_code 2 none ws ({ frames := 3, cells := 1, slots := 2, locals := 85 } : Room) #[(.ref a1), (.ref a2)] (fun v h L => v = none ∧ Fr Z.heap.size L ∧ Keep h0 h [a1] ∧ ∃ b kb, h0.size ≤ b ∧ Fld Z h a1 "java/lang/String" "coder" "B" (.int 0) ∧ Fld Z h a1 "java/lang/String" "value" "[B" (.ref b) ∧ Arv Z h b kb .byte (2 : Int32) [(.int (bI x0)), (.int (bI x1))] (.int (0 : Int32))) := by
  obtain ⟨S_IDENTIFIER, E_IDENTIFIER, S_SYMBOL, E_SYMBOL, F_IDENTIFIER_ordinal, F_SYMBOL_ordinal, S_NUMBER, E_NUMBER, F_NUMBER_ordinal, S_STRING, E_STRING, F_STRING_ordinal, S_NAMED_PARAMETER, E_NAMED_PARAMETER, F_NAMED_PARAMETER_ordinal, S_POSITIONAL_PARAMETER, E_POSITIONAL_PARAMETER, F_POSITIONAL_PARAMETER_ordinal, S_END, E_END, F_END_ordinal, S_COMPACT_STRINGS, hzc⟩ := id hS
  refine own_con (plainFor_of_name pn_398670) ?_
  intro p e s m below meth c T0 X0 hx hby hml hown hnm hret hlk hZ e0
  have hown : s.vm.findClass "java/lang/String" = some m.cls := hown
  have N0 := Fr.nil Z.heap.size
  have KP0 : Keep h0 h0 [a1] := Keep.refl h0 _
  refine Go.st (S' := T0.setTop (mkF m 0 #[.val (.ref a1), .val (.ref a2)] [])) (fun _ k => castTop (ef_rmC2 m a1 a2) k) ?_
  refine Go.st (S' := T0.setTop (mkF m 1 #[.val (.ref a1), .val (.ref a2)] [(.ref a1)])) (fun _ k => XS.aloadN X0.here hx rfl (hb hby d2_0) rfl rfl k) ?_
  refine Go.st (S' := T0.setTop (mkF m 2 #[.val (.ref a1), .val (.ref a2)] [(.ref a2), (.ref a1)])) (fun _ k => XS.aloadN X0.here hx rfl (hb hby d2_1) rfl rfl k) ?_
  refine Go.st (S' := T0.setTop (mkF m 3 #[.val (.ref a1), .val (.ref a2)] [(.int (0 : Int32)), (.ref a2), (.ref a1)])) (fun _ k => XS.iconst X0.here hx rfl (hb hby d2_2) k) ?_
  refine Go.st (S' := T0.setTop (mkF m 4 #[.val (.ref a1), .val (.ref a2)] [(.ref a2), (.int (0 : Int32)), (.ref a2), (.ref a1)])) (fun _ k => XS.aloadN X0.here hx rfl (hb hby d2_3) rfl rfl k) ?_
  refine Go.st (S' := T0.setTop (mkF m 5 #[.val (.ref a1), .val (.ref a2)] [(.int (2 : Int32)), (.int (0 : Int32)), (.ref a2), (.ref a1)])) (own_alen X0 hx hZ e0 VA (g := (mkF m 4 #[.val (.ref a1), .val (.ref a2)] [(.ref a2), (.int (0 : Int32)), (.ref a2), (.ref a1)])) rfl rfl (hb hby d2_4)) ?_
  refine Go.st (S' := T0.setTop (mkF m 6 #[.val (.ref a1), .val (.ref a2)] [.null, (.int (2 : Int32)), (.int (0 : Int32)), (.ref a2), (.ref a1)])) (fun _ k => XS.aconstNull X0.here hx rfl (hb hby d2_5) k) ?_
  obtain ⟨_, T15, L15, X15, ⟨rfl, Nq15, kp15, cb15, kc15, sc15, fc15, fv15, vc15⟩, st15⟩ := own_callI X0 hx hZ rfl hown (ww hw 12 rfl) (ww hw 13 rfl) (ww hw 7 rfl) (ww hw 15 rfl) (by decide) e0 (rmI2 l Z a0 hw [] w_IDENTIFIER w_SYMBOL w_NUMBER w_STRING w_NAMED_PARAMETER w_POSITIONAL_PARAMETER w_END zc hS a1 a2 k1 x0 x1 hx0 hx1 h0 O0 ga EA F_value F_coder VA n12) 0 (by decide) (by decide) (by decide) (by decide) (g := (mkF m 6 #[.val (.ref a1), .val (.ref a2)] [.null, (.int (2 : Int32)), (.int (0 : Int32)), (.ref a2), (.ref a1)])) rfl (by rw [hml]; rfl) [(.ref a2), (.int (0 : Int32)), (.int (2 : Int32)), .null] [] rfl (lenOf pd_753702 rfl) rfl (by show 2 * 0 + _ ≤ _; exact Nat.le_of_eq rfl) (hb hby d2_6)
  have N15 := Fr.app N0 Nq15
  have ne_a1_cb15 : a1 ≠ cb15 := own_lt_ne' F_value.lt sc15
  have ne_a2_cb15 : a2 ≠ cb15 := own_lt_ne' VA.lt sc15
  have O15 : Ext Z.heap T15.heap := own_Ext.keep O0 kp15 (allS ga all0)
  have KP15 : Keep h0 T15.heap [a1] := KP0.trans kp15 (allS (Or.inl (List.mem_of_getElem? (i := 0) rfl)) all0)
  refine Go.st (S' := T15.setTop (mkF m 9 #[.val (.ref a1), .val (.ref a2)] [])) st15 ?_
  exact own_retV X15 hx hlk hret (hb hby d2_9) rfl ⟨rfl, N15, KP15, _, _, (Nat.le_trans KP0.1 sc15), fc15, fv15, vc15⟩ (by decide) (by decide)
theorem d3_8 : decode jdk_42_method_149_code 8 = .ok (.aload_n 0, 1) := by decide +kernel
theorem d3_9 : decode jdk_42_method_149_code 9 = .ok (.ldc 7, 2) := by decide +kernel
theorem d3_11 : decode jdk_42_method_149_code 11 = .ok (.getfield 9, 3) := by decide +kernel
theorem d3_14 : decode jdk_42_method_149_code 14 = .ok (.putfield 9, 3) := by decide +kernel
theorem d3_17 : decode jdk_42_method_149_code 17 = .ok (.aload_n 0, 1) := by decide +kernel
theorem d3_18 : decode jdk_42_method_149_code 18 = .ok (.ldc 7, 2) := by decide +kernel
theorem d3_20 : decode jdk_42_method_149_code 20 = .ok (.getfield 15, 3) := by decide +kernel
theorem d3_23 : decode jdk_42_method_149_code 23 = .ok (.putfield 15, 3) := by decide +kernel
theorem d3_26 : decode jdk_42_method_149_code 26 = .ok (.return_, 1) := by decide +kernel
theorem ef_rmI0 (m : MethodId) (x0 : Addr) (x1 : Addr) (x2 : Int32) (x3 : Int32) : entryFrame m #[(.ref x0), (.ref x1), (.int x2), (.int x3), .null] 6 = mkF m 0 #[.val (.ref x0), .val (.ref x1), .val (.int x2), .val (.int x3), .val .null, .unset] [] := by first | (simp [entryFrame, mkF, argsToLocals, Value.category]; done) | rfl
set_option maxRecDepth 65536 in
set_option maxHeartbeats 400000000 in
theorem rmI0 (l : Launch) (Z : State) (a0 : Array Value) (hw : ∀ d ∈ tables_1, d.before a0 Z = true) (ws : List Jvm.Cond) (w_IDENTIFIER : Addr) (w_SYMBOL : Addr) (w_NUMBER : Addr) (w_STRING : Addr) (w_NAMED_PARAMETER : Addr) (w_POSITIONAL_PARAMETER : Addr) (w_END : Addr) (zc : Int32) (hS : SF Z w_IDENTIFIER w_SYMBOL w_NUMBER w_STRING w_NAMED_PARAMETER w_POSITIONAL_PARAMETER w_END zc) (a1 a2 : Addr) (k1 : ClassId) (h0 : Heap) (O0 : Ext Z.heap h0) (ga : Z.heap.size ≤ a1) (EA : Exa Z h0 a1 "java/lang/String") (F_value : Fld Z h0 a1 "java/lang/String" "value" "[B" .null) (F_coder : Fld Z h0 a1 "java/lang/String" "coder" "B" (.int (0 : Int32))) (VA : Arv Z h0 a2 k1 .char (0 : Int32) [] (.int (0 : Int32))) :
    ConH l Z EL1 h0 (⟨"java/lang/String", "<init>", "([CIILjava/lang/Void;)V"⟩ : MethodName) jdk_42_method_149_code 6 none ws ({ frames := 1, cells := 4, slots := 8, locals := 20 } : Room) #[(.ref a1), (.ref a2), (.int (0 : Int32)), (.int (0 : Int32)), .null] (fun v h L => v = none ∧ Fr Z.heap.size L ∧ Keep h0 h [a1] ∧ ∃ b kb,  Fld Z h a1 "java/lang/String" "coder" "B" (.int 0) ∧ Fld Z h a1 "java/lang/String" "value" "[B" (.ref b) ∧ Arv Z h b kb .byte (0 : Int32) [] (.int (0 : Int32))) := by
  obtain ⟨S_IDENTIFIER, E_IDENTIFIER, S_SYMBOL, E_SYMBOL, F_IDENTIFIER_ordinal, F_SYMBOL_ordinal, S_NUMBER, E_NUMBER, F_NUMBER_ordinal, S_STRING, E_STRING, F_STRING_ordinal, S_NAMED_PARAMETER, E_NAMED_PARAMETER, F_NAMED_PARAMETER_ordinal, S_POSITIONAL_PARAMETER, E_POSITIONAL_PARAMETER, F_POSITIONAL_PARAMETER_ordinal, S_END, E_END, F_END_ordinal, S_COMPACT_STRINGS, hzc⟩ := id hS
  refine own_conH (plainFor_of_name pn_398670) ?_
  intro p e s m below meth c T0 X0 hx hby hml hown hnm hret hlk hZ e0 hS0 C0
  have hown : (s.setVm s.vm).vm.findClass "java/lang/String" = some m.cls := hown
  have hk0 : h0.size ≤ h0.size := Nat.le_refl _
  have hEL := own_EW hw
  have N0 := Fr.nil Z.heap.size
  have KP0 : Keep h0 h0 [a1] := Keep.refl h0 _
  have S0 : Safe Z EL1 s.vm h0 a1 := own_safeNull hZ.alike EA F_value
  refine Go.st (S' := T0.setTop (mkF m 0 #[.val (.ref a1), .val (.ref a2), .val (.int (0 : Int32)), .val (.int (0 : Int32)), .val .null, .unset] [])) (fun _ k => castTop (ef_rmI0 m a1 a2 (0 : Int32) (0 : Int32)) k) ?_
  refine Go.st (S' := T0.setTop (mkF m 1 #[.val (.ref a1), .val (.ref a2), .val (.int (0 : Int32)), .val (.int (0 : Int32)), .val .null, .unset] [(.ref a1)])) (fun _ k => XS.aloadN X0.here hx rfl (hb hby d3_0) rfl rfl k) ?_
  obtain ⟨T16, X16, e16, st16⟩ := initO X0 hx hZ hown (ww hw 16 rfl) (ww hw 17 rfl) (ww hw 18 rfl) e0 (g := (mkF m 1 #[.val (.ref a1), .val (.ref a2), .val (.int (0 : Int32)), .val (.int (0 : Int32)), .val .null, .unset] [(.ref a1)])) rfl (by rw [hml]; rfl) rfl (hb hby d3_1) (by decide) (W := 0) (by show 2 * 0 + _ ≤ _; exact Nat.le_of_eq rfl) (by decide)
  refine Go.st (S' := T16.setTop (mkF m 4 #[.val (.ref a1), .val (.ref a2), .val (.int (0 : Int32)), .val (.int (0 : Int32)), .val .null, .unset] [])) st16 ?_
  refine Go.st (S' := T16.setTop (mkF m 5 #[.val (.ref a1), .val (.ref a2), .val (.int (0 : Int32)), .val (.int (0 : Int32)), .val .null, .unset] [(.int (0 : Int32))])) (fun _ k => XS.iloadN X16.here hx rfl (hb hby d3_4) rfl k) ?_
  refine Go.st (S' := T16.setTop (mkF m 8 #[.val (.ref a1), .val (.ref a2), .val (.int (0 : Int32)), .val (.int (0 : Int32)), .val .null, .unset] [])) (fun _ k => XS.ifNo X16.here hx rfl (hb hby d3_5) rfl ((if0 _ _).trans (teq (by decide)).2) k) ?_
  refine Go.st (S' := T16.setTop (mkF m 9 #[.val (.ref a1), .val (.ref a2), .val (.int (0 : Int32)), .val (.int (0 : Int32)), .val .null, .unset] [(.ref a1)])) (fun _ k => XS.aloadN X16.here hx rfl (hb hby d3_8) rfl rfl k) ?_
  obtain ⟨sa17, T17, h17, ks17, vb17, kb17, X17, e17, E17, hS17, hkS17, hZ, hown, Es17, Fc17, Fv17, Va17, -, -, A17, -, ns17, st17⟩ := ldcCH X16 hx hZ hown (ww hw 19 rfl) (own_strAtoms hw) e16 hS0 hk0 hEL (own := "java/lang/String") (index := 7) own_mem1 C0.1 (vs := []) (z := 0) own_txt0 (by decide) rfl (g := (mkF m 9 #[.val (.ref a1), .val (.ref a2), .val (.int (0 : Int32)), .val (.int (0 : Int32)), .val .null, .unset] [(.ref a1)])) rfl (hb hby d3_9) (n := 0) (by decide) (by decide) (by decide) (by decide)
  have Sfa1_17 := A17.safe EA.lt S0
  have C17 := C0.trans A17
  have O17 : Ext Z.heap h17 := own_Ext.trans O0 E17
  have KP17 : Keep h0 h17 [a1] := KP0.ext E17
  refine Go.st (S' := T17.setTop (mkF m 11 #[.val (.ref a1), .val (.ref a2), .val (.int (0 : Int32)), .val (.int (0 : Int32)), .val .null, .unset] [(.ref sa17), (.ref a1)])) st17 ?_
  obtain ⟨T18, X18, e18, st18⟩ := getF X17 hx hZ hown (host := "") (Or.inl (ww hw 25 rfl)) Via.refl e17 Fv17 (g := (mkF m 11 #[.val (.ref a1), .val (.ref a2), .val (.int (0 : Int32)), .val (.int (0 : Int32)), .val .null, .unset] [(.ref sa17), (.ref a1)])) rfl rfl (hb hby d3_11)
  refine Go.st (S' := T18.setTop (mkF m 14 #[.val (.ref a1), .val (.ref a2), .val (.int (0 : Int32)), .val (.int (0 : Int32)), .val .null, .unset] [(.ref vb17), (.ref a1)])) st18 ?_
  obtain ⟨T19, h19, X19, e19, W19, st19⟩ := putF X18 hx hZ hown (host := "") (Or.inl (ww hw 25 rfl)) Via.refl e18 (F_value.ext E17) (EA.ext E17) (Or.inr ⟨(ww hw 21 rfl), rfl, hnm⟩) (ww hw 6 rfl) (ty := (.array .byte)) pf_132114 rfl rfl (g := (mkF m 14 #[.val (.ref a1), .val (.ref a2), .val (.int (0 : Int32)), .val (.int (0 : Int32)), .val .null, .unset] [(.ref vb17), (.ref a1)])) rfl rfl (hb hby d3_14)
  have N19 := Fr.snoc X19 N0 ga
  have Fw19 := (F_value.ext E17).same W19
  have O19 : Ext Z.heap h19 := own_Ext.wr O17 W19 ga
  have KP19 : Keep h0 h19 [a1] := KP17.wr W19 (Or.inl (List.mem_of_getElem? (i := 0) rfl))
  have Sfa1_19 := Safe.wr W19 Sfa1_17 C17.1 Sfa1_17
  have C19 := C17.trans (CHr.wr W19 Sfa1_17 C17.1)
  have hk19 := Nat.le_trans hkS17 (Nat.le_of_eq W19.size.symm)
  refine Go.st (S' := T19.setTop (mkF m 17 #[.val (.ref a1), .val (.ref a2), .val (.int (0 : Int32)), .val (.int (0 : Int32)), .val .null, .unset] [])) st19 ?_
  refine Go.st (S' := T19.setTop (mkF m 18 #[.val (.ref a1), .val (.ref a2), .val (.int (0 : Int32)), .val (.int (0 : Int32)), .val .null, .unset] [(.ref a1)])) (fun _ k => XS.aloadN X19.here hx rfl (hb hby d3_17) rfl rfl k) ?_
  obtain ⟨sa20, T20, h20, ks20, vb20, kb20, X20, e20, E20, hS20, hkS20, hZ, hown, Es20, Fc20, Fv20, Va20, -, -, A20, -, ns20, st20⟩ := ldcCH X19 hx hZ hown (ww hw 19 rfl) (own_strAtoms hw) e19 hS17 hk19 hEL (own := "java/lang/String") (index := 7) own_mem1 C19.1 (vs := []) (z := 0) own_txt0 (by decide) rfl (g := (mkF m 18 #[.val (.ref a1), .val (.ref a2), .val (.int (0 : Int32)), .val (.int (0 : Int32)), .val .null, .unset] [(.ref a1)])) rfl (hb hby d3_18) (n := 0) (by decide) (by decide) (by decide) (by decide)
  have Sfa1_20 := A20.safe ((EA.ext E17).wr W19).lt Sfa1_19
  have C20 := C19.trans A20
  have O20 : Ext Z.heap h20 := own_Ext.trans O19 E20
  have KP20 : Keep h0 h20 [a1] := KP19.ext E20
  refine Go.st (S' := T20.setTop (mkF m 20 #[.val (.ref a1), .val (.ref a2), .val (.int (0 : Int32)), .val (.int (0 : Int32)), .val .null, .unset] [(.ref sa20), (.ref a1)])) st20 ?_
  obtain ⟨T21, X21, e21, st21⟩ := getF X20 hx hZ hown (host := "") (Or.inl (ww hw 26 rfl)) Via.refl e20 Fc20 (g := (mkF m 20 #[.val (.ref a1), .val (.ref a2), .val (.int (0 : Int32)), .val (.int (0 : Int32)), .val .null, .unset] [(.ref sa20), (.ref a1)])) rfl rfl (hb hby d3_20)
  refine Go.st (S' := T21.setTop (mkF m 23 #[.val (.ref a1), .val (.ref a2), .val (.int (0 : Int32)), .val (.int (0 : Int32)), .val .null, .unset] [(.int (0 : Int32)), (.ref a1)])) st21 ?_
  obtain ⟨T22, h22, X22, e22, W22, st22⟩ := putFN X21 hx hZ hown (ww hw 26 rfl) Via.refl e21 (((F_coder.ext E17).other W19 (Or.inr (sn_45236_coder_value hw))).ext E20) (((EA.ext E17).wr W19).ext E20) (Or.inr ⟨(ww hw 22 rfl), rfl, hnm⟩) (ww hw 6 rfl) (ty := .byte) pf_983 (v := .int (0 : Int32)) (v' := .int (nar .byte (0 : Int32))) rfl (fits_nar_byte (0 : Int32)) (g := (mkF m 23 #[.val (.ref a1), .val (.ref a2), .val (.int (0 : Int32)), .val (.int (0 : Int32)), .val .null, .unset] [(.int (0 : Int32)), (.ref a1)])) rfl rfl (hb hby d3_23)
  have N22 := Fr.snoc X22 N19 ga
  have Fw22 := (((F_coder.ext E17).other W19 (Or.inr (sn_45236_coder_value hw))).ext E20).same W22
  have O22 : Ext Z.heap h22 := own_Ext.wr O20 W22 ga
  have KP22 : Keep h0 h22 [a1] := KP20.wr W22 (Or.inl (List.mem_of_getElem? (i := 0) rfl))
  have Sfa1_22 := Safe.wr W22 Sfa1_20 C20.1 Sfa1_20
  have C22 := C20.trans (CHr.wr W22 Sfa1_20 C20.1)
  have hk22 := Nat.le_trans hkS20 (Nat.le_of_eq W22.size.symm)
  refine Go.st (S' := T22.setTop (mkF m 26 #[.val (.ref a1), .val (.ref a2), .val (.int (0 : Int32)), .val (.int (0 : Int32)), .val .null, .unset] [])) st22 ?_
  exact own_retVH X22 hS20 hk22 hZ hEL C22 hx hlk hret (hb hby d3_26) e22 ⟨rfl, N22, KP22, _, _, (by have q_ := Fw22; rw [own_nb0] at q_; exact q_), ((Fw19.ext E20).other W22 (Or.inr (sn_45236_value_coder hw))), (((Va17.other W19 (Ne.symm (ns17 _ Sfa1_17).2)).ext E20).other W22 (Ne.symm (ns17 _ Sfa1_17).2))⟩ (by decide) (by decide)
theorem ef_rmC0 (m : MethodId) (x0 : Addr) (x1 : Addr) : entryFrame m #[(.ref x0), (.ref x1)] 2 = mkF m 0 #[.val (.ref x0), .val (.ref x1)] [] := by first | (simp [entryFrame, mkF, argsToLocals, Value.category]; done) | rfl
set_option maxRecDepth 65536 in
set_option maxHeartbeats 400000000 in
theorem rmC0 (l : Launch) (Z : State) (a0 : Array Value) (hw : ∀ d ∈ tables_1, d.before a0 Z = true) (ws : List Jvm.Cond) (w_IDENTIFIER : Addr) (w_SYMBOL : Addr) (w_NUMBER : Addr) (w_STRING : Addr) (w_NAMED_PARAMETER : Addr) (w_POSITIONAL_PARAMETER : Addr) (w_END : Addr) (zc : Int32) (hS : SF Z w_IDENTIFIER w_SYMBOL w_NUMBER w_STRING w_NAMED_PARAMETER w_POSITIONAL_PARAMETER w_END zc) (a1 a2 : Addr) (k1 : ClassId) (h0 : Heap) (O0 : Ext Z.heap h0) (ga : Z.heap.size ≤ a1) (EA : Exa Z h0 a1 "java/lang/String") (F_value : Fld Z h0 a1 "java/lang/String" "value" "[B" .null) (F_coder : Fld Z h0 a1 "java/lang/String" "coder" "B" (.int (0 : Int32))) (VA : Arv Z h0 a2 k1 .char (0 : Int32) [] (.int (0 : Int32))) :
    ConH l Z EL1 h0 (⟨"java/lang/String", "<init>", "([C)V"⟩ : MethodName) jdk_42_method_3_code 2 none ws ({ frames := 2, cells := 4, slots := 8, locals := 45 } : Room) #[(.ref a1), (.ref a2)] (fun v h L => v = none ∧ Fr Z.heap.size L ∧ Keep h0 h [a1] ∧ ∃ b kb,  Fld Z h a1 "java/lang/String" "coder" "B" (.int 0) ∧ Fld Z h a1 "java/lang/String" "value" "[B" (.ref b) ∧ Arv Z h b kb .byte (0 : Int32) [] (.int (0 : Int32))) := by
  obtain ⟨S_IDENTIFIER, E_IDENTIFIER, S_SYMBOL, E_SYMBOL, F_IDENTIFIER_ordinal, F_SYMBOL_ordinal, S_NUMBER, E_NUMBER, F_NUMBER_ordinal, S_STRING, E_STRING, F_STRING_ordinal, S_NAMED_PARAMETER, E_NAMED_PARAMETER, F_NAMED_PARAMETER_ordinal, S_POSITIONAL_PARAMETER, E_POSITIONAL_PARAMETER, F_POSITIONAL_PARAMETER_ordinal, S_END, E_END, F_END_ordinal, S_COMPACT_STRINGS, hzc⟩ := id hS
  refine own_conH (plainFor_of_name pn_398670) ?_
  intro p e s m below meth c T0 X0 hx hby hml hown hnm hret hlk hZ e0 hS0 C0
  have hown : (s.setVm s.vm).vm.findClass "java/lang/String" = some m.cls := hown
  have hk0 : h0.size ≤ h0.size := Nat.le_refl _
  have hEL := own_EW hw
  have N0 := Fr.nil Z.heap.size
  have KP0 : Keep h0 h0 [a1] := Keep.refl h0 _
  refine Go.st (S' := T0.setTop (mkF m 0 #[.val (.ref a1), .val (.ref a2)] [])) (fun _ k => castTop (ef_rmC0 m a1 a2) k) ?_
  refine Go.st (S' := T0.setTop (mkF m 1 #[.val (.ref a1), .val (.ref a2)] [(.ref a1)])) (fun _ k => XS.aloadN X0.here hx rfl (hb hby d2_0) rfl rfl k) ?_
  refine Go.st (S' := T0.setTop (mkF m 2 #[.val (.ref a1), .val (.ref a2)] [(.ref a2), (.ref a1)])) (fun _ k => XS.aloadN X0.here hx rfl (hb hby d2_1) rfl rfl k) ?_
  refine Go.st (S' := T0.setTop (mkF m 3 #[.val (.ref a1), .val (.ref a2)] [(.int (0 : Int32)), (.ref a2), (.ref a1)])) (fun _ k => XS.iconst X0.here hx rfl (hb hby d2_2) k) ?_
  refine Go.st (S' := T0.setTop (mkF m 4 #[.val (.ref a1), .val (.ref a2)] [(.ref a2), (.int (0 : Int32)), (.ref a2), (.ref a1)])) (fun _ k => XS.aloadN X0.here hx rfl (hb hby d2_3) rfl rfl k) ?_
  refine Go.st (S' := T0.setTop (mkF m 5 #[.val (.ref a1), .val (.ref a2)] [(.int (0 : Int32)), (.int (0 : Int32)), (.ref a2), (.ref a1)])) (own_alen X0 hx hZ e0 VA (g := (mkF m 4 #[.val (.ref a1), .val (.ref a2)] [(.ref a2), (.int (0 : Int32)), (.ref a2), (.ref a1)])) rfl rfl (hb hby d2_4)) ?_
  refine Go.st (S' := T0.setTop (mkF m 6 #[.val (.ref a1), .val (.ref a2)] [.null, (.int (0 : Int32)), (.int (0 : Int32)), (.ref a2), (.ref a1)])) (fun _ k => XS.aconstNull X0.here hx rfl (hb hby d2_5) k) ?_
  obtain ⟨_, T24, L24, X24, ⟨rfl, Nq24, kp24, cb24, kc24, fc24, fv24, vc24⟩, hS24, hZ, hown, C24, st24⟩ := own_callIH X0 hx hZ hS0 hk0 hEL C0 rfl hown (ww hw 12 rfl) (ww hw 13 rfl) (ww hw 7 rfl) (ww hw 15 rfl) (by decide) e0 (rmI0 l Z a0 hw [] w_IDENTIFIER w_SYMBOL w_NUMBER w_STRING w_NAMED_PARAMETER w_POSITIONAL_PARAMETER w_END zc hS a1 a2 k1 h0 O0 ga EA F_value F_coder VA) 0 (by decide) (by decide) (by decide) (by decide) (g := (mkF m 6 #[.val (.ref a1), .val (.ref a2)] [.null, (.int (0 : Int32)), (.int (0 : Int32)), (.ref a2), (.ref a1)])) rfl (by rw [hml]; rfl) [(.ref a2), (.int (0 : Int32)), (.int (0 : Int32)), .null] [] rfl (lenOf pd_753702 rfl) rfl (by show 2 * 0 + _ ≤ _; exact Nat.le_of_eq rfl) (hb hby d2_6)
  have N24 := Fr.app N0 Nq24
  have O24 : Ext Z.heap T24.heap := own_Ext.keep O0 kp24 (allS ga all0)
  have KP24 : Keep h0 T24.heap [a1] := KP0.trans kp24 (allS (Or.inl (List.mem_of_getElem? (i := 0) rfl)) all0)
  have hk24 : T24.heap.size ≤ T24.heap.size := Nat.le_refl _
  refine Go.st (S' := T24.setTop (mkF m 9 #[.val (.ref a1), .val (.ref a2)] [])) st24 ?_
  exact own_retVH X24 hS24 hk24 hZ hEL C24 hx hlk hret (hb hby d2_9) rfl ⟨rfl, N24, KP24, _, _, fc24, fv24, vc24⟩ (by decide) (by decide)
theorem d15_0 : decode jdk_43_method_3_code 0 = .ok (.iload_n 0, 1) := by decide +kernel
theorem d15_1 : decode jdk_43_method_3_code 1 = .ok (.sipush 255, 3) := by decide +kernel
theorem d15_4 : decode jdk_43_method_3_code 4 = .ok (.if_icmp .gt 7, 3) := by decide +kernel
theorem d15_7 : decode jdk_43_method_3_code 7 = .ok (.iconst 1, 1) := by decide +kernel
theorem d15_8 : decode jdk_43_method_3_code 8 = .ok (.goto 4, 3) := by decide +kernel
theorem d15_12 : decode jdk_43_method_3_code 12 = .ok (.ireturn, 1) := by decide +kernel
theorem pn_398266 : plainName "java/lang/StringLatin1" = true := by first | (simp [plainName, overriddenIn]; done) | decide +kernel
theorem ef_rmCE (m : MethodId) (x0 : Int32) : entryFrame m #[(.int x0)] 1 = mkF m 0 #[.val (.int x0)] [] := by first | (simp [entryFrame, mkF, argsToLocals, Value.category]; done) | rfl
set_option maxRecDepth 65536 in
set_option maxHeartbeats 400000000 in
theorem rmCE (l : Launch) (Z : State) (a0 : Array Value) (hw : ∀ d ∈ tables_1, d.before a0 Z = true) (ws : List Jvm.Cond) (w_IDENTIFIER : Addr) (w_SYMBOL : Addr) (w_NUMBER : Addr) (w_STRING : Addr) (w_NAMED_PARAMETER : Addr) (w_POSITIONAL_PARAMETER : Addr) (w_END : Addr) (zc : Int32) (hS : SF Z w_IDENTIFIER w_SYMBOL w_NUMBER w_STRING w_NAMED_PARAMETER w_POSITIONAL_PARAMETER w_END zc) (p1 : Int32) (h0 : Heap) (O0 : Ext Z.heap h0) (hp : ¬ (255 : Int32) < p1) :
    Con l Z h0 (⟨"java/lang/StringLatin1", "canEncode", "(C)Z"⟩ : MethodName) jdk_43_method_3_code 1 (some .boolean) ws ({ frames := 0, cells := 0, slots := 0, locals := 0 } : Room) #[(.int p1)] (fun v h L => v = some (.int 1) ∧ Fr Z.heap.size L ∧ h = h0) := by
  obtain ⟨S_IDENTIFIER, E_IDENTIFIER, S_SYMBOL, E_SYMBOL, F_IDENTIFIER_ordinal, F_SYMBOL_ordinal, S_NUMBER, E_NUMBER, F_NUMBER_ordinal, S_STRING, E_STRING, F_STRING_ordinal, S_NAMED_PARAMETER, E_NAMED_PARAMETER, F_NAMED_PARAMETER_ordinal, S_POSITIONAL_PARAMETER, E_POSITIONAL_PARAMETER, F_POSITIONAL_PARAMETER_ordinal, S_END, E_END, F_END_ordinal, S_COMPACT_STRINGS, hzc⟩ := id hS
  refine own_con (plainFor_of_name pn_398266) ?_
  intro p e s m below meth c T0 X0 hx hby hml hown hnm hret hlk hZ e0
  have hown : s.vm.findClass "java/lang/StringLatin1" = some m.cls := hown
  have N0 := Fr.nil Z.heap.size
  refine Go.st (S' := T0.setTop (mkF m 0 #[.val (.int p1)] [])) (fun _ k => castTop (ef_rmCE m p1) k) ?_
  refine Go.st (S' := T0.setTop (mkF m 1 #[.val (.int p1)] [(.int p1)])) (fun _ k => XS.iloadN X0.here hx rfl (hb hby d15_0) rfl k) ?_
  refine Go.st (S' := T0.setTop (mkF m 4 #[.val (.int p1)] [(.int (255 : Int32)), (.int p1)])) (fun _ k => XS.sipush X0.here hx rfl (hb hby d15_1) k) ?_
  refine Go.st (S' := T0.setTop (mkF m 7 #[.val (.int p1)] [])) (fun _ k => XS.icmpNo X0.here hx rfl (hb hby d15_4) rfl (flt hp).2.2.1 k) ?_
  refine Go.st (S' := T0.setTop (mkF m 8 #[.val (.int p1)] [(.int (1 : Int32))])) (fun _ k => XS.iconst X0.here hx rfl (hb hby d15_7) k) ?_
  refine Go.st (S' := T0.setTop (mkF m 12 #[.val (.int p1)] [(.int (1 : Int32))])) (fun _ k => XS.goto X0.here hx rfl (pc0 := 8) (pc' := 12) rfl (hb hby d15_8) (by decide) (by decide) k) ?_
  exact own_retN X0 hx hlk hret (by simp) (hb hby d15_12) e0 ⟨congrArg (fun z => some (Value.int z)) own_bo1, N0, rfl⟩ (by decide) (by decide)
theorem d16_0 : decode jdk_43_method_46_code 0 = .ok (.iconst 1, 1) := by decide +kernel
theorem d16_1 : decode jdk_43_method_46_code 1 = .ok (.newarray .byte, 2) := by decide +kernel
theorem d16_3 : decode jdk_43_method_46_code 3 = .ok (.dup, 1) := by decide +kernel
theorem d16_4 : decode jdk_43_method_46_code 4 = .ok (.iconst 0, 1) := by decide +kernel
theorem d16_5 : decode jdk_43_method_46_code 5 = .ok (.iload_n 0, 1) := by decide +kernel
theorem d16_6 : decode jdk_43_method_46_code 6 = .ok (.i2b, 1) := by decide +kernel
theorem d16_7 : decode jdk_43_method_46_code 7 = .ok (.bastore, 1) := by decide +kernel
theorem d16_8 : decode jdk_43_method_46_code 8 = .ok (.areturn, 1) := by decide +kernel
theorem ef_rmTB (m : MethodId) (x0 : Int32) : entryFrame m #[(.int x0)] 1 = mkF m 0 #[.val (.int x0)] [] := by first | (simp [entryFrame, mkF, argsToLocals, Value.category]; done) | rfl
set_option maxRecDepth 65536 in
set_option maxHeartbeats 400000000 in
theorem rmTB (l : Launch) (Z : State) (a0 : Array Value) (hw : ∀ d ∈ tables_1, d.before a0 Z = true) (ws : List Jvm.Cond) (w_IDENTIFIER : Addr) (w_SYMBOL : Addr) (w_NUMBER : Addr) (w_STRING : Addr) (w_NAMED_PARAMETER : Addr) (w_POSITIONAL_PARAMETER : Addr) (w_END : Addr) (zc : Int32) (hS : SF Z w_IDENTIFIER w_SYMBOL w_NUMBER w_STRING w_NAMED_PARAMETER w_POSITIONAL_PARAMETER w_END zc) (p1 : Int32) (h0 : Heap) (O0 : Ext Z.heap h0)  :
    Con l Z h0 (⟨"java/lang/StringLatin1", "toBytes", "(C)[B"⟩ : MethodName) jdk_43_method_46_code 1 (some (.array .byte)) ws ({ frames := 0, cells := 1, slots := 1, locals := 0 } : Room) #[(.int p1)] (fun v h L => (∃ b kb, v = some (.ref b) ∧ h0.size ≤ b ∧ Arv Z h b kb .byte (1 : Int32) [(.int (bI p1))] (.int (0 : Int32))) ∧ Fr Z.heap.size L ∧ Keep h0 h []) := by
  obtain ⟨S_IDENTIFIER, E_IDENTIFIER, S_SYMBOL, E_SYMBOL, F_IDENTIFIER_ordinal, F_SYMBOL_ordinal, S_NUMBER, E_NUMBER, F_NUMBER_ordinal, S_STRING, E_STRING, F_STRING_ordinal, S_NAMED_PARAMETER, E_NAMED_PARAMETER, F_NAMED_PARAMETER_ordinal, S_POSITIONAL_PARAMETER, E_POSITIONAL_PARAMETER, F_POSITIONAL_PARAMETER_ordinal, S_END, E_END, F_END_ordinal, S_COMPACT_STRINGS, hzc⟩ := id hS
  refine own_con (plainFor_of_name pn_398266) ?_
  intro p e s m below meth c T0 X0 hx hby hml hown hnm hret hlk hZ e0
  have hown : s.vm.findClass "java/lang/StringLatin1" = some m.cls := hown
  have N0 := Fr.nil Z.heap.size
  have KP0 : Keep h0 h0 [] := Keep.refl h0 _
  refine Go.st (S' := T0.setTop (mkF m 0 #[.val (.int p1)] [])) (fun _ k => castTop (ef_rmTB m p1) k) ?_
  refine Go.st (S' := T0.setTop (mkF m 1 #[.val (.int p1)] [(.int (1 : Int32))])) (fun _ k => XS.iconst X0.here hx rfl (hb hby d16_0) k) ?_
  obtain ⟨T25, h25, k25, X25, e25, E25, A25, Ea25, st25⟩ := newPE X0 hx hZ (ww hw 20 rfl) e0 (g := (mkF m 1 #[.val (.int p1)] [(.int (1 : Int32))])) rfl (hb hby d16_1) rfl (by decide) (cap := 1) (by decide) (by decide) (by decide) (by decide) (ad := "[B") (by decide)
  obtain ⟨b25, g25⟩ : ∃ z, z = h0.size := ⟨_, rfl⟩
  rw [← g25] at A25 Ea25 st25
  have gz25 : Z.heap.size ≤ b25 := Nat.le_trans O0.1 (Nat.le_of_eq g25.symm)
  have sz25 : h0.size ≤ b25 := Nat.le_trans KP0.1 (Nat.le_of_eq g25.symm)
  have O25 : Ext Z.heap h25 := own_Ext.trans O0 E25
  have KP25 : Keep h0 h25 [] := KP0.ext E25
  have V25 : Arv Z h25 b25 k25 .byte (1 : Int32) [(.int (0 : Int32))] (.int (0 : Int32)) := (Arv.new A25 (by decide)).pad (pad_rep [] (.int (0 : Int32)) 1)
  refine Go.st (S' := T25.setTop (mkF m 3 #[.val (.int p1)] [(.ref b25)])) st25 ?_
  refine Go.st (S' := T25.setTop (mkF m 4 #[.val (.int p1)] [(.ref b25), (.ref b25)])) (fun _ k => XS.dup X25.here hx rfl (hb hby d16_3) rfl rfl k) ?_
  refine Go.st (S' := T25.setTop (mkF m 5 #[.val (.int p1)] [(.int (0 : Int32)), (.ref b25), (.ref b25)])) (fun _ k => XS.iconst X25.here hx rfl (hb hby d16_4) k) ?_
  refine Go.st (S' := T25.setTop (mkF m 6 #[.val (.int p1)] [(.int p1), (.int (0 : Int32)), (.ref b25), (.ref b25)])) (fun _ k => XS.iloadN X25.here hx rfl (hb hby d16_5) rfl k) ?_
  refine Go.st (S' := T25.setTop (mkF m 7 #[.val (.int p1)] [(.int (p1.toInt8.toInt32)), (.int (0 : Int32)), (.ref b25), (.ref b25)])) (fun _ k => XS.i2b X25.here hx rfl (hb hby d16_6) rfl k) ?_
  obtain ⟨T26, h26, X26, e26, W26, V26, st26⟩ := own_stB X25 hx hZ e25 V25 (j := (0 : Int32)) ⟨by decide, by decide⟩ 0 rfl (Nat.le_of_ble_eq_true rfl) (g := (mkF m 7 #[.val (.int p1)] [(.int (p1.toInt8.toInt32)), (.int (0 : Int32)), (.ref b25), (.ref b25)])) rfl rfl (hb hby d16_7)
  have N26 := Fr.snoc X26 N0 gz25
  have V26 : Arv Z h26 b25 k25 .byte (1 : Int32) [(.int (nar .byte (p1.toInt8.toInt32)))] (.int (0 : Int32)) := V26
  have O26 : Ext Z.heap h26 := own_Ext.wr O25 W26 gz25
  have KP26 : Keep h0 h26 [] := KP25.wr W26 (Or.inr sz25)
  refine Go.st (S' := T26.setTop (mkF m 8 #[.val (.int p1)] [(.ref b25)])) st26 ?_
  exact own_retA X26 hx hlk hret rfl rfl rfl (hb hby d16_8) e26 ⟨⟨_, _, rfl, sz25, V26⟩, N26, KP26⟩ (by decide) (by decide)
theorem d17_0 : decode jdk_42_method_151_code 0 = .ok (.aload_n 0, 1) := by decide +kernel
theorem d17_1 : decode jdk_42_method_151_code 1 = .ok (.invokespecial 1, 3) := by decide +kernel
theorem d17_4 : decode jdk_42_method_151_code 4 = .ok (.aload_n 0, 1) := by decide +kernel
theorem d17_5 : decode jdk_42_method_151_code 5 = .ok (.aload_n 1, 1) := by decide +kernel
theorem d17_6 : decode jdk_42_method_151_code 6 = .ok (.putfield 9, 3) := by decide +kernel
theorem d17_9 : decode jdk_42_method_151_code 9 = .ok (.aload_n 0, 1) := by decide +kernel
theorem d17_10 : decode jdk_42_method_151_code 10 = .ok (.iload_n 2, 1) := by decide +kernel
theorem d17_11 : decode jdk_42_method_151_code 11 = .ok (.putfield 15, 3) := by decide +kernel
theorem d17_14 : decode jdk_42_method_151_code 14 = .ok (.return_, 1) := by decide +kernel
theorem ef_rmSB (m : MethodId) (x0 : Addr) (x1 : Addr) (x2 : Int32) : entryFrame m #[(.ref x0), (.ref x1), (.int x2)] 3 = mkF m 0 #[.val (.ref x0), .val (.ref x1), .val (.int x2)] [] := by first | (simp [entryFrame, mkF, argsToLocals, Value.category]; done) | rfl
set_option maxRecDepth 65536 in
set_option maxHeartbeats 400000000 in
theorem rmSB (l : Launch) (Z : State) (a0 : Array Value) (hw : ∀ d ∈ tables_1, d.before a0 Z = true) (ws : List Jvm.Cond) (w_IDENTIFIER : Addr) (w_SYMBOL : Addr) (w_NUMBER : Addr) (w_STRING : Addr) (w_NAMED_PARAMETER : Addr) (w_POSITIONAL_PARAMETER : Addr) (w_END : Addr) (zc : Int32) (hS : SF Z w_IDENTIFIER w_SYMBOL w_NUMBER w_STRING w_NAMED_PARAMETER w_POSITIONAL_PARAMETER w_END zc) (a1 a2 : Addr) (h0 : Heap) (O0 : Ext Z.heap h0) (ga : Z.heap.size ≤ a1) (EA : Exa Z h0 a1 "java/lang/String") (F_value : Fld Z h0 a1 "java/lang/String" "value" "[B" .null) (F_coder : Fld Z h0 a1 "java/lang/String" "coder" "B" (.int (0 : Int32))) :
    Con l Z h0 (⟨"java/lang/String", "<init>", "([BB)V"⟩ : MethodName) jdk_42_method_151_code 3 none ws ({ frames := 1, cells := 0, slots := 0, locals := 12 } : Room) #[(.ref a1), (.ref a2), (.int (0 : Int32))] (fun v h L => v = none ∧ Fr Z.heap.size L ∧ Keep h0 h [a1] ∧ Fld Z h a1 "java/lang/String" "coder" "B" (.int 0) ∧ Fld Z h a1 "java/lang/String" "value" "[B" (.ref a2)) := by
  obtain ⟨S_IDENTIFIER, E_IDENTIFIER, S_SYMBOL, E_SYMBOL, F_IDENTIFIER_ordinal, F_SYMBOL_ordinal, S_NUMBER, E_NUMBER, F_NUMBER_ordinal, S_STRING, E_STRING, F_STRING_ordinal, S_NAMED_PARAMETER, E_NAMED_PARAMETER, F_NAMED_PARAMETER_ordinal, S_POSITIONAL_PARAMETER, E_POSITIONAL_PARAMETER, F_POSITIONAL_PARAMETER_ordinal, S_END, E_END, F_END_ordinal, S_COMPACT_STRINGS, hzc⟩ := id hS
  refine own_con (plainFor_of_name pn_398670) ?_
  intro p e s m below meth c T0 X0 hx hby hml hown hnm hret hlk hZ e0
  have hown : s.vm.findClass "java/lang/String" = some m.cls := hown
  have N0 := Fr.nil Z.heap.size
  have KP0 : Keep h0 h0 [a1] := Keep.refl h0 _
  refine Go.st (S' := T0.setTop (mkF m 0 #[.val (.ref a1), .val (.ref a2), .val (.int (0 : Int32))] [])) (fun _ k => castTop (ef_rmSB m a1 a2 (0 : Int32)) k) ?_
  refine Go.st (S' := T0.setTop (mkF m 1 #[.val (.ref a1), .val (.ref a2), .val (.int (0 : Int32))] [(.ref a1)])) (fun _ k => XS.aloadN X0.here hx rfl (hb hby d17_0) rfl rfl k) ?_
  obtain ⟨T27, X27, e27, st27⟩ := initO X0 hx hZ hown (ww hw 16 rfl) (ww hw 17 rfl) (ww hw 18 rfl) e0 (g := (mkF m 1 #[.val (.ref a1), .val (.ref a2), .val (.int (0 : Int32))] [(.ref a1)])) rfl (by rw [hml]; rfl) rfl (hb hby d17_1) (by decide) (W := 0) (by show 2 * 0 + _ ≤ _; exact Nat.le_of_eq rfl) (by decide)
  refine Go.st (S' := T27.setTop (mkF m 4 #[.val (.ref a1), .val (.ref a2), .val (.int (0 : Int32))] [])) st27 ?_
  refine Go.st (S' := T27.setTop (mkF m 5 #[.val (.ref a1), .val (.ref a2), .val (.int (0 : Int32))] [(.ref a1)])) (fun _ k => XS.aloadN X27.here hx rfl (hb hby d17_4) rfl rfl k) ?_
  refine Go.st (S' := T27.setTop (mkF m 6 #[.val (.ref a1), .val (.ref a2), .val (.int (0 : Int32))] [(.ref a2), (.ref a1)])) (fun _ k => XS.aloadN X27.here hx rfl (hb hby d17_5) rfl rfl k) ?_
  obtain ⟨T28, h28, X28, e28, W28, st28⟩ := putF X27 hx hZ hown (host := "") (Or.inl (ww hw 25 rfl)) Via.refl e27 F_value EA (Or.inr ⟨(ww hw 21 rfl), rfl, hnm⟩) (ww hw 6 rfl) (ty := (.array .byte)) pf_132114 rfl rfl (g := (mkF m 6 #[.val (.ref a1), .val (.ref a2), .val (.int (0 : Int32))] [(.ref a2), (.ref a1)])) rfl rfl (hb hby d17_6)
  have N28 := Fr.snoc X28 N0 ga
  have Fw28 := F_value.same W28
  have O28 : Ext Z.heap h28 := own_Ext.wr O0 W28 ga
  have KP28 : Keep h0 h28 [a1] := KP0.wr W28 (Or.inl (List.mem_of_getElem? (i := 0) rfl))
  refine Go.st (S' := T28.setTop (mkF m 9 #[.val (.ref a1), .val (.ref a2), .val (.int (0 : Int32))] [])) st28 ?_
  refine Go.st (S' := T28.setTop (mkF m 10 #[.val (.ref a1), .val (.ref a2), .val (.int (0 : Int32))] [(.ref a1)])) (fun _ k => XS.aloadN X28.here hx rfl (hb hby d17_9) rfl rfl k) ?_
  refine Go.st (S' := T28.setTop (mkF m 11 #[.val (.ref a1), .val (.ref a2), .val (.int (0 : Int32))] [(.int (0 : Int32)), (.ref a1)])) (fun _ k => XS.iloadN X28.here hx rfl (hb hby d17_10) rfl k) ?_
  obtain ⟨T29, h29, X29, e29, W29, st29⟩ := putFN X28 hx hZ hown (ww hw 26 rfl) Via.refl e28 (F_coder.other W28 (Or.inr (sn_45236_coder_value hw))) (EA.wr W28) (Or.inr ⟨(ww hw 22 rfl), rfl, hnm⟩) (ww hw 6 rfl) (ty := .byte) pf_983 (v := .int (0 : Int32)) (v' := .int (nar .byte (0 : Int32))) rfl (fits_nar_byte (0 : Int32)) (g := (mkF m 11 #[.val (.ref a1), .val (.ref a2), .val (.int (0 : Int32))] [(.int (0 : Int32)), (.ref a1)])) rfl rfl (hb hby d17_11)
  have N29 := Fr.snoc X29 N28 ga
  have Fw29 := (F_coder.other W28 (Or.inr (sn_45236_coder_value hw))).same W29
  have O29 : Ext Z.heap h29 := own_Ext.wr O28 W29 ga
  have KP29 : Keep h0 h29 [a1] := KP28.wr W29 (Or.inl (List.mem_of_getElem? (i := 0) rfl))
  refine Go.st (S' := T29.setTop (mkF m 14 #[.val (.ref a1), .val (.ref a2), .val (.int (0 : Int32))] [])) st29 ?_
  exact own_retV X29 hx hlk hret (hb hby d17_14) e29 ⟨rfl, N29, KP29, (by have q_ := Fw29; rw [own_nb0] at q_; exact q_), (Fw28.other W29 (Or.inr (sn_45236_value_coder hw)))⟩ (by decide) (by decide)
theorem d14_0 : decode jdk_42_method_139_code 0 = .ok (.getstatic 38, 3) := by decide +kernel
theorem d14_3 : decode jdk_42_method_139_code 3 = .ok (.ifCond .eq 23, 3) := by decide +kernel
theorem d14_6 : decode jdk_42_method_139_code 6 = .ok (.iload_n 0, 1) := by decide +kernel
theorem d14_7 : decode jdk_42_method_139_code 7 = .ok (.invokestatic 1015, 3) := by decide +kernel
theorem d14_10 : decode jdk_42_method_139_code 10 = .ok (.ifCond .eq 16, 3) := by decide +kernel
theorem d14_13 : decode jdk_42_method_139_code 13 = .ok (.new 10, 3) := by decide +kernel
theorem d14_16 : decode jdk_42_method_139_code 16 = .ok (.dup, 1) := by decide +kernel
theorem d14_17 : decode jdk_42_method_139_code 17 = .ok (.iload_n 0, 1) := by decide +kernel
theorem d14_18 : decode jdk_42_method_139_code 18 = .ok (.invokestatic 1018, 3) := by decide +kernel
theorem d14_21 : decode jdk_42_method_139_code 21 = .ok (.iconst 0, 1) := by decide +kernel
theorem d14_22 : decode jdk_42_method_139_code 22 = .ok (.invokespecial 209, 3) := by decide +kernel
theorem d14_25 : decode jdk_42_method_139_code 25 = .ok (.areturn, 1) := by decide +kernel
theorem pd_571879 : parseMethodDescriptor "(C)Z" = some ⟨[.char], some .boolean⟩ := by decide +kernel
theorem pd_916124 : parseMethodDescriptor "(C)[B" = some ⟨[.char], some (.array .byte)⟩ := by decide +kernel
theorem pd_758680 : parseMethodDescriptor "([BB)V" = some ⟨[(.array .byte), .byte], none⟩ := by decide +kernel
theorem ef_rmVC (m : MethodId) (x0 : Int32) : entryFrame m #[(.int x0)] 1 = mkF m 0 #[.val (.int x0)] [] := by first | (simp [entryFrame, mkF, argsToLocals, Value.category]; done) | rfl
set_option maxRecDepth 65536 in
set_option maxHeartbeats 400000000 in
theorem rmVC (l : Launch) (Z : State) (a0 : Array Value) (hw : ∀ d ∈ tables_1, d.before a0 Z = true) (ws : List Jvm.Cond) (w_IDENTIFIER : Addr) (w_SYMBOL : Addr) (w_NUMBER : Addr) (w_STRING : Addr) (w_NAMED_PARAMETER : Addr) (w_POSITIONAL_PARAMETER : Addr) (w_END : Addr) (zc : Int32) (hS : SF Z w_IDENTIFIER w_SYMBOL w_NUMBER w_STRING w_NAMED_PARAMETER w_POSITIONAL_PARAMETER w_END zc) (p1 : Int32) (h0 : Heap) (O0 : Ext Z.heap h0) (hc1 : Ch p1) :
    Con l Z h0 (⟨"java/lang/String", "valueOf", "(C)Ljava/lang/String;"⟩ : MethodName) jdk_42_method_139_code 1 (some (.object "java/lang/String")) ws ({ frames := 2, cells := 2, slots := 5, locals := 40 } : Room) #[(.int p1)] (fun v h L => (∃ b vb kb, v = some (.ref b) ∧ h0.size ≤ b ∧ Exa Z h b "java/lang/String" ∧ Fld Z h b "java/lang/String" "coder" "B" (.int 0) ∧ Fld Z h b "java/lang/String" "value" "[B" (.ref vb) ∧ Arv Z h vb kb .byte (1 : Int32) [(.int (bI p1))] (.int (0 : Int32))) ∧ Fr Z.heap.size L ∧ Keep h0 h []) := by
  obtain ⟨S_IDENTIFIER, E_IDENTIFIER, S_SYMBOL, E_SYMBOL, F_IDENTIFIER_ordinal, F_SYMBOL_ordinal, S_NUMBER, E_NUMBER, F_NUMBER_ordinal, S_STRING, E_STRING, F_STRING_ordinal, S_NAMED_PARAMETER, E_NAMED_PARAMETER, F_NAMED_PARAMETER_ordinal, S_POSITIONAL_PARAMETER, E_POSITIONAL_PARAMETER, F_POSITIONAL_PARAMETER_ordinal, S_END, E_END, F_END_ordinal, S_COMPACT_STRINGS, hzc⟩ := id hS
  refine own_con (plainFor_of_name pn_398670) ?_
  intro p e s m below meth c T0 X0 hx hby hml hown hnm hret hlk hZ e0
  have hown : s.vm.findClass "java/lang/String" = some m.cls := hown
  have N0 := Fr.nil Z.heap.size
  have KP0 : Keep h0 h0 [] := Keep.refl h0 _
  refine Go.st (S' := T0.setTop (mkF m 0 #[.val (.int p1)] [])) (fun _ k => castTop (ef_rmVC m p1) k) ?_
  obtain ⟨T30, X30, e30, st30⟩ := getS2 X0 hx hZ hown (host := "") (Or.inl (ww hw 65 rfl)) Via.refl e0 (S_COMPACT_STRINGS.ext O0) (g := (mkF m 0 #[.val (.int p1)] [])) rfl (hb hby d14_0)
  refine Go.st (S' := T30.setTop (mkF m 3 #[.val (.int p1)] [(.int zc)])) st30 ?_
  refine Go.st (S' := T30.setTop (mkF m 6 #[.val (.int p1)] [])) (fun _ k => XS.ifNo X30.here hx rfl (hb hby d14_3) rfl ((if0 _ _).trans (feq hzc).1) k) ?_
  refine Go.st (S' := T30.setTop (mkF m 7 #[.val (.int p1)] [(.int p1)])) (fun _ k => XS.iloadN X30.here hx rfl (hb hby d14_6) rfl k) ?_
  obtain ⟨_, T31, L31, X31, ⟨rfl, Nq31, eq31⟩, st31⟩ := own_callS X30 hx hZ hown (ww hw 85 rfl) (ww hw 86 rfl) (ww hw 68 rfl) (ww hw 87 rfl) (by decide) e30 (rmCE l Z a0 hw [] w_IDENTIFIER w_SYMBOL w_NUMBER w_STRING w_NAMED_PARAMETER w_POSITIONAL_PARAMETER w_END zc hS p1 h0 O0 (own_chl hc1)) 0 (by decide) (by decide) (by decide) (by decide) (g := (mkF m 7 #[.val (.int p1)] [(.int p1)])) rfl (by rw [hml]; rfl) [(.int p1)] [] rfl (lenOf pd_571879 rfl) rfl (by show 2 * 0 + _ ≤ _; exact Nat.le_of_eq rfl) (hb hby d14_7)
  have N31 := Fr.app N0 Nq31
  refine Go.st (S' := T31.setTop (mkF m 10 #[.val (.int p1)] [(.int (1 : Int32))])) st31 ?_
  refine Go.st (S' := T31.setTop (mkF m 13 #[.val (.int p1)] [])) (fun _ k => XS.ifNo X31.here hx rfl (hb hby d14_10) rfl ((if0 _ _).trans (feq (by decide)).1) k) ?_
  obtain ⟨T32, h32, X32, e32, E32, A32, D32, -, st32⟩ := newO X31 hx hZ hown (ww hw 64 rfl) (ww hw 6 rfl) (ww hw 7 rfl) eq31 (g := (mkF m 13 #[.val (.int p1)] [])) rfl (hb hby d14_13) (by decide) (by decide)
  obtain ⟨b32, g32⟩ : ∃ z, z = h0.size := ⟨_, rfl⟩
  rw [← g32] at A32 D32 st32
  have gz32 : Z.heap.size ≤ b32 := Nat.le_trans O0.1 (Nat.le_of_eq g32.symm)
  have sz32 : h0.size ≤ b32 := Nat.le_trans KP0.1 (Nat.le_of_eq g32.symm)
  have O32 : Ext Z.heap h32 := own_Ext.trans O0 E32
  have KP32 : Keep h0 h32 [] := KP0.ext E32
  have F32_value : Fld Z h32 b32 "java/lang/String" "value" "[B" .null := D32 (Or.inr (ww hw 21 rfl)) (ty := (.array .byte)) pf_132114
  have F32_coder : Fld Z h32 b32 "java/lang/String" "coder" "B" (.int (0 : Int32)) := D32 (Or.inr (ww hw 22 rfl)) (ty := .byte) pf_983
  refine Go.st (S' := T32.setTop (mkF m 16 #[.val (.int p1)] [(.ref b32)])) st32 ?_
  refine Go.st (S' := T32.setTop (mkF m 17 #[.val (.int p1)] [(.ref b32), (.ref b32)])) (fun _ k => XS.dup X32.here hx rfl (hb hby d14_16) rfl rfl k) ?_
  refine Go.st (S' := T32.setTop (mkF m 18 #[.val (.int p1)] [(.int p1), (.ref b32), (.ref b32)])) (fun _ k => XS.iloadN X32.here hx rfl (hb hby d14_17) rfl k) ?_
  obtain ⟨_, T33, L33, X33, ⟨⟨cb33, kc33, rfl, sc33, vc33⟩, Nq33, kp33⟩, st33⟩ := own_callS X32 hx hZ hown (ww hw 88 rfl) (ww hw 89 rfl) (ww hw 68 rfl) (ww hw 90 rfl) (by decide) e32 (rmTB l Z a0 hw [] w_IDENTIFIER w_SYMBOL w_NUMBER w_STRING w_NAMED_PARAMETER w_POSITIONAL_PARAMETER w_END zc hS p1 h32 O32) 2 (by decide) (by decide) (by decide) (by decide) (g := (mkF m 18 #[.val (.int p1)] [(.int p1), (.ref b32), (.ref b32)])) rfl (by rw [hml]; rfl) [(.int p1)] [(.ref b32), (.ref b32)] rfl (lenOf pd_916124 rfl) rfl (by show 2 * 0 + _ ≤ _; exact Nat.le_of_eq rfl) (hb hby d14_18)
  have N33 := Fr.app N31 Nq33
  have ne_b32_cb33 : b32 ≠ cb33 := own_lt_ne' A32.lt sc33
  have O33 : Ext Z.heap T33.heap := own_Ext.keep O32 kp33 all0
  have KP33 : Keep h0 T33.heap [] := KP32.trans kp33 all0
  refine Go.st (S' := T33.setTop (mkF m 21 #[.val (.int p1)] [(.ref cb33), (.ref b32), (.ref b32)])) st33 ?_
  refine Go.st (S' := T33.setTop (mkF m 22 #[.val (.int p1)] [(.int (0 : Int32)), (.ref cb33), (.ref b32), (.ref b32)])) (fun _ k => XS.iconst X33.here hx rfl (hb hby d14_21) k) ?_
  obtain ⟨_, T34, L34, X34, ⟨rfl, Nq34, kp34, fc34, fv34⟩, st34⟩ := own_callI X33 hx hZ rfl hown (ww hw 91 rfl) (ww hw 92 rfl) (ww hw 7 rfl) (ww hw 93 rfl) (by decide) rfl (rmSB l Z a0 hw [] w_IDENTIFIER w_SYMBOL w_NUMBER w_STRING w_NAMED_PARAMETER w_POSITIONAL_PARAMETER w_END zc hS b32 cb33 T33.heap O33 gz32 (A32.keep kp33) (F32_value.keep kp33 nin0) (F32_coder.keep kp33 nin0)) 1 (by decide) (by decide) (by decide) (by decide) (g := (mkF m 22 #[.val (.int p1)] [(.int (0 : Int32)), (.ref cb33), (.ref b32), (.ref b32)])) rfl (by rw [hml]; rfl) [(.ref cb33), (.int (0 : Int32))] [(.ref b32)] rfl (lenOf pd_758680 rfl) rfl (by show 2 * 0 + _ ≤ _; exact Nat.le_of_eq rfl) (hb hby d14_22)
  have N34 := Fr.app N33 Nq34
  have O34 : Ext Z.heap T34.heap := own_Ext.keep O33 kp34 (allS gz32 all0)
  have KP34 : Keep h0 T34.heap [] := KP33.trans kp34 (allS (Or.inr sz32) all0)
  refine Go.st (S' := T34.setTop (mkF m 25 #[.val (.int p1)] [(.ref b32)])) st34 ?_
  exact own_retA X34 hx hlk hret rfl rfl rfl (hb hby d14_25) rfl ⟨⟨_, _, _, rfl, sz32, ((A32.keep kp33).keep kp34), fc34, fv34, (vc33.keep kp34 (ninS (Ne.symm ne_b32_cb33) nin0))⟩, N34, KP34⟩ (by decide) (by decide)
theorem d1_0 : decode method_3_code 0 = .ok (.iload_n 0, 1) := by decide +kernel
theorem d1_1 : decode method_3_code 1 = .ok (.ifCond .ne 14, 3) := by decide +kernel
theorem d1_15 : decode method_3_code 15 = .ok (.iload_n 0, 1) := by decide +kernel
theorem d1_16 : decode method_3_code 16 = .ok (.iconst 1, 1) := by decide +kernel
theorem d1_17 : decode method_3_code 17 = .ok (.if_icmp .ne 8, 3) := by decide +kernel
theorem d1_20 : decode method_3_code 20 = .ok (.iload_n 1, 1) := by decide +kernel
theorem d1_21 : decode method_3_code 21 = .ok (.invokestatic 36, 3) := by decide +kernel
theorem d1_24 : decode method_3_code 24 = .ok (.areturn, 1) := by decide +kernel
theorem pd_374177 : parseMethodDescriptor "(C)Ljava/lang/String;" = some ⟨[.char], some (.object "java/lang/String")⟩ := by decide +kernel
theorem pn_328133 : plainName "com/example/instances_to_rows/instancestorows/query/TokenIsSymbolPinLaw" = true := by first | (simp [plainName, overriddenIn]; done) | decide +kernel
theorem ef_rmS1 (m : MethodId) (x0 : Int32) (x1 : Int32) (x2 : Int32) : entryFrame m #[(.int x0), (.int x1), (.int x2)] 4 = mkF m 0 #[.val (.int x0), .val (.int x1), .val (.int x2), .unset] [] := by first | (simp [entryFrame, mkF, argsToLocals, Value.category]; done) | rfl
set_option maxRecDepth 65536 in
set_option maxHeartbeats 400000000 in
theorem rmS1 (l : Launch) (Z : State) (a0 : Array Value) (hw : ∀ d ∈ tables_1, d.before a0 Z = true) (ws : List Jvm.Cond) (w_IDENTIFIER : Addr) (w_SYMBOL : Addr) (w_NUMBER : Addr) (w_STRING : Addr) (w_NAMED_PARAMETER : Addr) (w_POSITIONAL_PARAMETER : Addr) (w_END : Addr) (zc : Int32) (hS : SF Z w_IDENTIFIER w_SYMBOL w_NUMBER w_STRING w_NAMED_PARAMETER w_POSITIONAL_PARAMETER w_END zc) (p2 p3 : Int32) (hc2 : Ch p2) (hc3 : Ch p3) (h0 : Heap) (O0 : Ext Z.heap h0)  :
    Con l Z h0 (⟨"com/example/instances_to_rows/instancestorows/query/TokenIsSymbolPinLaw", "str", "(ICC)Ljava/lang/String;"⟩ : MethodName) method_3_code 4 (some (.object "java/lang/String")) ws ({ frames := 4, cells := 6, slots := 12, locals := 110 } : Room) #[(.int (1 : Int32)), (.int p2), (.int p3)] (fun v h L => (∃ b vb kb, v = some (.ref b) ∧ h0.size ≤ b ∧ Exa Z h b "java/lang/String" ∧ Fld Z h b "java/lang/String" "coder" "B" (.int 0) ∧ Fld Z h b "java/lang/String" "value" "[B" (.ref vb) ∧ Arv Z h vb kb .byte (1 : Int32) [(.int (bI p2))] (.int (0 : Int32))) ∧ Fr Z.heap.size L ∧ Keep h0 h []) := by
  obtain ⟨S_IDENTIFIER, E_IDENTIFIER, S_SYMBOL, E_SYMBOL, F_IDENTIFIER_ordinal, F_SYMBOL_ordinal, S_NUMBER, E_NUMBER, F_NUMBER_ordinal, S_STRING, E_STRING, F_STRING_ordinal, S_NAMED_PARAMETER, E_NAMED_PARAMETER, F_NAMED_PARAMETER_ordinal, S_POSITIONAL_PARAMETER, E_POSITIONAL_PARAMETER, F_POSITIONAL_PARAMETER_ordinal, S_END, E_END, F_END_ordinal, S_COMPACT_STRINGS, hzc⟩ := id hS
  refine own_con (plainFor_of_name pn_328133) ?_
  intro p e s m below meth c T0 X0 hx hby hml hown hnm hret hlk hZ e0
  have hown : s.vm.findClass "com/example/instances_to_rows/instancestorows/query/TokenIsSymbolPinLaw" = some m.cls := hown
  have N0 := Fr.nil Z.heap.size
  have KP0 : Keep h0 h0 [] := Keep.refl h0 _
  refine Go.st (S' := T0.setTop (mkF m 0 #[.val (.int (1 : Int32)), .val (.int p2), .val (.int p3), .unset] [])) (fun _ k => castTop (ef_rmS1 m (1 : Int32) p2 p3) k) ?_
  refine Go.st (S' := T0.setTop (mkF m 1 #[.val (.int (1 : Int32)), .val (.int p2), .val (.int p3), .unset] [(.int (1 : Int32))])) (fun _ k => XS.iloadN X0.here hx rfl (hb hby d1_0) rfl k) ?_
  refine Go.st (S' := T0.setTop (mkF m 15 #[.val (.int (1 : Int32)), .val (.int p2), .val (.int p3), .unset] [])) (fun _ k => XS.ifYes X0.here hx rfl (pc0 := 1) (pc' := 15) rfl (hb hby d1_1) rfl ((if0 _ _).trans (feq (by decide)).2) (by decide) (by decide) k) ?_
  refine Go.st (S' := T0.setTop (mkF m 16 #[.val (.int (1 : Int32)), .val (.int p2), .val (.int p3), .unset] [(.int (1 : Int32))])) (fun _ k => XS.iloadN X0.here hx rfl (hb hby d1_15) rfl k) ?_
  refine Go.st (S' := T0.setTop (mkF m 17 #[.val (.int (1 : Int32)), .val (.int p2), .val (.int p3), .unset] [(.int (1 : Int32)), (.int (1 : Int32))])) (fun _ k => XS.iconst X0.here hx rfl (hb hby d1_16) k) ?_
  refine Go.st (S' := T0.setTop (mkF m 20 #[.val (.int (1 : Int32)), .val (.int p2), .val (.int p3), .unset] [])) (fun _ k => XS.icmpNo X0.here hx rfl (hb hby d1_17) rfl (teq (by decide)).2 k) ?_
  refine Go.st (S' := T0.setTop (mkF m 21 #[.val (.int (1 : Int32)), .val (.int p2), .val (.int p3), .unset] [(.int p2)])) (fun _ k => XS.iloadN X0.here hx rfl (hb hby d1_20) rfl k) ?_
  obtain ⟨_, T35, L35, X35, ⟨⟨sb35, vb35, kv35, rfl, ss35, es35, fc35, fv35, vv35⟩, Nq35, kp35⟩, st35⟩ := own_callS X0 hx hZ hown (ww hw 82 rfl) (ww hw 83 rfl) (ww hw 7 rfl) (ww hw 84 rfl) (by decide) e0 (rmVC l Z a0 hw [] w_IDENTIFIER w_SYMBOL w_NUMBER w_STRING w_NAMED_PARAMETER w_POSITIONAL_PARAMETER w_END zc hS p2 h0 O0 hc2) 0 (by decide) (by decide) (by decide) (by decide) (g := (mkF m 21 #[.val (.int (1 : Int32)), .val (.int p2), .val (.int p3), .unset] [(.int p2)])) rfl (by rw [hml]; rfl) [(.int p2)] [] rfl (lenOf pd_374177 rfl) rfl (by show 2 * 0 + _ ≤ _; exact Nat.le_of_eq rfl) (hb hby d1_21)
  have N35 := Fr.app N0 Nq35
  have O35 : Ext Z.heap T35.heap := own_Ext.keep O0 kp35 all0
  have KP35 : Keep h0 T35.heap [] := KP0.trans kp35 all0
  refine Go.st (S' := T35.setTop (mkF m 24 #[.val (.int (1 : Int32)), .val (.int p2), .val (.int p3), .unset] [(.ref sb35)])) st35 ?_
  exact own_retA X35 hx hlk hret rfl rfl rfl (hb hby d1_24) rfl ⟨⟨_, _, _, rfl, (Nat.le_trans KP0.1 ss35), es35, fc35, fv35, vv35⟩, N35, KP35⟩ (by decide) (by decide)
theorem d1_25 : decode method_3_code 25 = .ok (.iconst 2, 1) := by decide +kernel
theorem d1_26 : decode method_3_code 26 = .ok (.newarray .char, 2) := by decide +kernel
theorem d1_28 : decode method_3_code 28 = .ok (.astore_n 3, 1) := by decide +kernel
theorem d1_29 : decode method_3_code 29 = .ok (.aload_n 3, 1) := by decide +kernel
theorem d1_30 : decode method_3_code 30 = .ok (.iconst 0, 1) := by decide +kernel
theorem d1_31 : decode method_3_code 31 = .ok (.iload_n 1, 1) := by decide +kernel
theorem d1_32 : decode method_3_code 32 = .ok (.castore, 1) := by decide +kernel
theorem d1_33 : decode method_3_code 33 = .ok (.aload_n 3, 1) := by decide +kernel
theorem d1_34 : decode method_3_code 34 = .ok (.iconst 1, 1) := by decide +kernel
theorem d1_35 : decode method_3_code 35 = .ok (.iload_n 2, 1) := by decide +kernel
theorem d1_36 : decode method_3_code 36 = .ok (.castore, 1) := by decide +kernel
theorem d1_37 : decode method_3_code 37 = .ok (.new 31, 3) := by decide +kernel
theorem d1_40 : decode method_3_code 40 = .ok (.dup, 1) := by decide +kernel
theorem d1_41 : decode method_3_code 41 = .ok (.aload_n 3, 1) := by decide +kernel
theorem d1_42 : decode method_3_code 42 = .ok (.invokespecial 33, 3) := by decide +kernel
theorem d1_45 : decode method_3_code 45 = .ok (.areturn, 1) := by decide +kernel
theorem pd_309799 : parseMethodDescriptor "([C)V" = some ⟨[(.array .char)], none⟩ := by decide +kernel
theorem ef_rmS2 (m : MethodId) (x0 : Int32) (x1 : Int32) (x2 : Int32) : entryFrame m #[(.int x0), (.int x1), (.int x2)] 4 = mkF m 0 #[.val (.int x0), .val (.int x1), .val (.int x2), .unset] [] := by first | (simp [entryFrame, mkF, argsToLocals, Value.category]; done) | rfl
set_option maxRecDepth 65536 in
set_option maxHeartbeats 400000000 in
theorem rmS2 (l : Launch) (Z : State) (a0 : Array Value) (hw : ∀ d ∈ tables_1, d.before a0 Z = true) (ws : List Jvm.Cond) (w_IDENTIFIER : Addr) (w_SYMBOL : Addr) (w_NUMBER : Addr) (w_STRING : Addr) (w_NAMED_PARAMETER : Addr) (w_POSITIONAL_PARAMETER : Addr) (w_END : Addr) (zc : Int32) (hS : SF Z w_IDENTIFIER w_SYMBOL w_NUMBER w_STRING w_NAMED_PARAMETER w_POSITIONAL_PARAMETER w_END zc) (p2 p3 : Int32) (hc2 : Ch p2) (hc3 : Ch p3) (h0 : Heap) (O0 : Ext Z.heap h0)  :
    Con l Z h0 (⟨"com/example/instances_to_rows/instancestorows/query/TokenIsSymbolPinLaw", "str", "(ICC)Ljava/lang/String;"⟩ : MethodName) method_3_code 4 (some (.object "java/lang/String")) ws ({ frames := 4, cells := 6, slots := 12, locals := 110 } : Room) #[(.int (2 : Int32)), (.int p2), (.int p3)] (fun v h L => (∃ b vb kb, v = some (.ref b) ∧ h0.size ≤ b ∧ Exa Z h b "java/lang/String" ∧ Fld Z h b "java/lang/String" "coder" "B" (.int 0) ∧ Fld Z h b "java/lang/String" "value" "[B" (.ref vb) ∧ Arv Z h vb kb .byte (2 : Int32) [(.int (bI p2)), (.int (bI p3))] (.int (0 : Int32))) ∧ Fr Z.heap.size L ∧ Keep h0 h []) := by
  obtain ⟨S_IDENTIFIER, E_IDENTIFIER, S_SYMBOL, E_SYMBOL, F_IDENTIFIER_ordinal, F_SYMBOL_ordinal, S_NUMBER, E_NUMBER, F_NUMBER_ordinal, S_STRING, E_STRING, F_STRING_ordinal, S_NAMED_PARAMETER, E_NAMED_PARAMETER, F_NAMED_PARAMETER_ordinal, S_POSITIONAL_PARAMETER, E_POSITIONAL_PARAMETER, F_POSITIONAL_PARAMETER_ordinal, S_END, E_END, F_END_ordinal, S_COMPACT_STRINGS, hzc⟩ := id hS
  refine own_con (plainFor_of_name pn_328133) ?_
  intro p e s m below meth c T0 X0 hx hby hml hown hnm hret hlk hZ e0
  have hown : s.vm.findClass "com/example/instances_to_rows/instancestorows/query/TokenIsSymbolPinLaw" = some m.cls := hown
  have N0 := Fr.nil Z.heap.size
  have KP0 : Keep h0 h0 [] := Keep.refl h0 _
  refine Go.st (S' := T0.setTop (mkF m 0 #[.val (.int (2 : Int32)), .val (.int p2), .val (.int p3), .unset] [])) (fun _ k => castTop (ef_rmS2 m (2 : Int32) p2 p3) k) ?_
  refine Go.st (S' := T0.setTop (mkF m 1 #[.val (.int (2 : Int32)), .val (.int p2), .val (.int p3), .unset] [(.int (2 : Int32))])) (fun _ k => XS.iloadN X0.here hx rfl (hb hby d1_0) rfl k) ?_
  refine Go.st (S' := T0.setTop (mkF m 15 #[.val (.int (2 : Int32)), .val (.int p2), .val (.int p3), .unset] [])) (fun _ k => XS.ifYes X0.here hx rfl (pc0 := 1) (pc' := 15) rfl (hb hby d1_1) rfl ((if0 _ _).trans (feq (by decide)).2) (by decide) (by decide) k) ?_
  refine Go.st (S' := T0.setTop (mkF m 16 #[.val (.int (2 : Int32)), .val (.int p2), .val (.int p3), .unset] [(.int (2 : Int32))])) (fun _ k => XS.iloadN X0.here hx rfl (hb hby d1_15) rfl k) ?_
  refine Go.st (S' := T0.setTop (mkF m 17 #[.val (.int (2 : Int32)), .val (.int p2), .val (.int p3), .unset] [(.int (1 : Int32)), (.int (2 : Int32))])) (fun _ k => XS.iconst X0.here hx rfl (hb hby d1_16) k) ?_
  refine Go.st (S' := T0.setTop (mkF m 25 #[.val (.int (2 : Int32)), .val (.int p2), .val (.int p3), .unset] [])) (fun _ k => XS.icmpYes X0.here hx rfl (pc0 := 17) (pc' := 25) rfl (hb hby d1_17) rfl (feq (by decide)).2 (by decide) (by decide) k) ?_
  refine Go.st (S' := T0.setTop (mkF m 26 #[.val (.int (2 : Int32)), .val (.int p2), .val (.int p3), .unset] [(.int (2 : Int32))])) (fun _ k => XS.iconst X0.here hx rfl (hb hby d1_25) k) ?_
  obtain ⟨T36, h36, k36, X36, e36, E36, A36, Ea36, st36⟩ := newPE X0 hx hZ (ww hw 8 rfl) e0 (g := (mkF m 26 #[.val (.int (2 : Int32)), .val (.int p2), .val (.int p3), .unset] [(.int (2 : Int32))])) rfl (hb hby d1_26) rfl (by decide) (cap := 2) (by decide) (by decide) (by decide) (by decide) (ad := "[C") (by decide)
  obtain ⟨b36, g36⟩ : ∃ z, z = h0.size := ⟨_, rfl⟩
  rw [← g36] at A36 Ea36 st36
  have gz36 : Z.heap.size ≤ b36 := Nat.le_trans O0.1 (Nat.le_of_eq g36.symm)
  have sz36 : h0.size ≤ b36 := Nat.le_trans KP0.1 (Nat.le_of_eq g36.symm)
  have O36 : Ext Z.heap h36 := own_Ext.trans O0 E36
  have KP36 : Keep h0 h36 [] := KP0.ext E36
  have V36 : Arv Z h36 b36 k36 .char (2 : Int32) [(.int (0 : Int32)), (.int (0 : Int32))] (.int (0 : Int32)) := (Arv.new A36 (by decide)).pad (pad_rep [] (.int (0 : Int32)) 2)
  refine Go.st (S' := T36.setTop (mkF m 28 #[.val (.int (2 : Int32)), .val (.int p2), .val (.int p3), .unset] [(.ref b36)])) st36 ?_
  refine Go.st (S' := T36.setTop (mkF m 29 #[.val (.int (2 : Int32)), .val (.int p2), .val (.int p3), .val (.ref b36)] [])) (fun _ k => XS.astoreN X36.here hx rfl (hb hby d1_28) rfl rfl (l' := #[.val (.int (2 : Int32)), .val (.int p2), .val (.int p3), .val (.ref b36)]) rfl k) ?_
  refine Go.st (S' := T36.setTop (mkF m 30 #[.val (.int (2 : Int32)), .val (.int p2), .val (.int p3), .val (.ref b36)] [(.ref b36)])) (fun _ k => XS.aloadN X36.here hx rfl (hb hby d1_29) rfl rfl k) ?_
  refine Go.st (S' := T36.setTop (mkF m 31 #[.val (.int (2 : Int32)), .val (.int p2), .val (.int p3), .val (.ref b36)] [(.int (0 : Int32)), (.ref b36)])) (fun _ k => XS.iconst X36.here hx rfl (hb hby d1_30) k) ?_
  refine Go.st (S' := T36.setTop (mkF m 32 #[.val (.int (2 : Int32)), .val (.int p2), .val (.int p3), .val (.ref b36)] [(.int p2), (.int (0 : Int32)), (.ref b36)])) (fun _ k => XS.iloadN X36.here hx rfl (hb hby d1_31) rfl k) ?_
  obtain ⟨T37, h37, X37, e37, W37, V37, st37⟩ := own_stC X36 hx hZ e36 V36 (j := (0 : Int32)) ⟨by decide, by decide⟩ 0 rfl (Nat.le_of_ble_eq_true rfl) (g := (mkF m 32 #[.val (.int (2 : Int32)), .val (.int p2), .val (.int p3), .val (.ref b36)] [(.int p2), (.int (0 : Int32)), (.ref b36)])) rfl rfl (hb hby d1_32)
  have N37 := Fr.snoc X37 N0 gz36
  have V37 : Arv Z h37 b36 k36 .char (2 : Int32) [(.int (nar .char p2)), (.int (0 : Int32))] (.int (0 : Int32)) := V37
  have O37 : Ext Z.heap h37 := own_Ext.wr O36 W37 gz36
  have KP37 : Keep h0 h37 [] := KP36.wr W37 (Or.inr sz36)
  refine Go.st (S' := T37.setTop (mkF m 33 #[.val (.int (2 : Int32)), .val (.int p2), .val (.int p3), .val (.ref b36)] [])) st37 ?_
  refine Go.st (S' := T37.setTop (mkF m 34 #[.val (.int (2 : Int32)), .val (.int p2), .val (.int p3), .val (.ref b36)] [(.ref b36)])) (fun _ k => XS.aloadN X37.here hx rfl (hb hby d1_33) rfl rfl k) ?_
  refine Go.st (S' := T37.setTop (mkF m 35 #[.val (.int (2 : Int32)), .val (.int p2), .val (.int p3), .val (.ref b36)] [(.int (1 : Int32)), (.ref b36)])) (fun _ k => XS.iconst X37.here hx rfl (hb hby d1_34) k) ?_
  refine Go.st (S' := T37.setTop (mkF m 36 #[.val (.int (2 : Int32)), .val (.int p2), .val (.int p3), .val (.ref b36)] [(.int p3), (.int (1 : Int32)), (.ref b36)])) (fun _ k => XS.iloadN X37.here hx rfl (hb hby d1_35) rfl k) ?_
  obtain ⟨T38, h38, X38, e38, W38, V38, st38⟩ := own_stC X37 hx hZ e37 V37 (j := (1 : Int32)) ⟨by decide, by decide⟩ 1 rfl (Nat.le_of_ble_eq_true rfl) (g := (mkF m 36 #[.val (.int (2 : Int32)), .val (.int p2), .val (.int p3), .val (.ref b36)] [(.int p3), (.int (1 : Int32)), (.ref b36)])) rfl rfl (hb hby d1_36)
  have N38 := Fr.snoc X38 N37 gz36
  have V38 : Arv Z h38 b36 k36 .char (2 : Int32) [(.int (nar .char p2)), (.int (nar .char p3))] (.int (0 : Int32)) := V38
  have O38 : Ext Z.heap h38 := own_Ext.wr O37 W38 gz36
  have KP38 : Keep h0 h38 [] := KP37.wr W38 (Or.inr sz36)
  refine Go.st (S' := T38.setTop (mkF m 37 #[.val (.int (2 : Int32)), .val (.int p2), .val (.int p3), .val (.ref b36)] [])) st38 ?_
  have VN39 : Arv Z h38 b36 k36 .char (2 : Int32) [(.int p2), (.int p3)] (.int (0 : Int32)) := by
    have q_ := V38
    rw [own_chc hc2, own_chc hc3] at q_
    exact q_
  obtain ⟨T40, h40, X40, e40, E40, A40, D40, -, st40⟩ := newO X38 hx hZ hown (ww hw 5 rfl) (ww hw 6 rfl) (ww hw 7 rfl) e38 (g := (mkF m 37 #[.val (.int (2 : Int32)), .val (.int p2), .val (.int p3), .val (.ref b36)] [])) rfl (hb hby d1_37) (by decide) (by decide)
  obtain ⟨b40, g40⟩ : ∃ z, z = h38.size := ⟨_, rfl⟩
  rw [← g40] at A40 D40 st40
  have gz40 : Z.heap.size ≤ b40 := Nat.le_trans O38.1 (Nat.le_of_eq g40.symm)
  have sz40 : h0.size ≤ b40 := Nat.le_trans KP38.1 (Nat.le_of_eq g40.symm)
  have ne_b36_b40 : b36 ≠ b40 := own_lt_ne ((Ea36.wr W37).wr W38).lt g40
  have O40 : Ext Z.heap h40 := own_Ext.trans O38 E40
  have KP40 : Keep h0 h40 [] := KP38.ext E40
  have F40_value : Fld Z h40 b40 "java/lang/String" "value" "[B" .null := D40 (Or.inr (ww hw 21 rfl)) (ty := (.array .byte)) pf_132114
  have F40_coder : Fld Z h40 b40 "java/lang/String" "coder" "B" (.int (0 : Int32)) := D40 (Or.inr (ww hw 22 rfl)) (ty := .byte) pf_983
  refine Go.st (S' := T40.setTop (mkF m 40 #[.val (.int (2 : Int32)), .val (.int p2), .val (.int p3), .val (.ref b36)] [(.ref b40)])) st40 ?_
  refine Go.st (S' := T40.setTop (mkF m 41 #[.val (.int (2 : Int32)), .val (.int p2), .val (.int p3), .val (.ref b36)] [(.ref b40), (.ref b40)])) (fun _ k => XS.dup X40.here hx rfl (hb hby d1_40) rfl rfl k) ?_
  refine Go.st (S' := T40.setTop (mkF m 42 #[.val (.int (2 : Int32)), .val (.int p2), .val (.int p3), .val (.ref b36)] [(.ref b36), (.ref b40), (.ref b40)])) (fun _ k => XS.aloadN X40.here hx rfl (hb hby d1_41) rfl rfl k) ?_
  obtain ⟨_, T41, L41, X41, ⟨rfl, Nq41, kp41, cb41, kc41, sc41, fc41, fv41, vc41⟩, st41⟩ := own_callI X40 hx hZ rfl hown (ww hw 9 rfl) (ww hw 10 rfl) (ww hw 7 rfl) (ww hw 11 rfl) (by decide) e40 (rmC2 l Z a0 hw [] w_IDENTIFIER w_SYMBOL w_NUMBER w_STRING w_NAMED_PARAMETER w_POSITIONAL_PARAMETER w_END zc hS b40 b36 k36 p2 p3 (own_chl hc2) (own_chl hc3) h40 O40 gz40 A40 F40_value F40_coder (VN39.ext E40) (Ne.symm ne_b36_b40)) 1 (by decide) (by decide) (by decide) (by decide) (g := (mkF m 42 #[.val (.int (2 : Int32)), .val (.int p2), .val (.int p3), .val (.ref b36)] [(.ref b36), (.ref b40), (.ref b40)])) rfl (by rw [hml]; rfl) [(.ref b36)] [(.ref b40)] rfl (lenOf pd_309799 rfl) rfl (by show 2 * 0 + _ ≤ _; exact Nat.le_of_eq rfl) (hb hby d1_42)
  have N41 := Fr.app N38 Nq41
  have ne_b36_cb41 : b36 ≠ cb41 := own_lt_ne' (((Ea36.wr W37).wr W38).ext E40).lt sc41
  have ne_b40_cb41 : b40 ≠ cb41 := own_lt_ne' A40.lt sc41
  have O41 : Ext Z.heap T41.heap := own_Ext.keep O40 kp41 (allS gz40 all0)
  have KP41 : Keep h0 T41.heap [] := KP40.trans kp41 (allS (Or.inr sz40) all0)
  refine Go.st (S' := T41.setTop (mkF m 45 #[.val (.int (2 : Int32)), .val (.int p2), .val (.int p3), .val (.ref b36)] [(.ref b40)])) st41 ?_
  exact own_retA X41 hx hlk hret rfl rfl rfl (hb hby d1_45) rfl ⟨⟨_, _, _, rfl, sz40, (A40.keep kp41), fc41, fv41, vc41⟩, N41, KP41⟩ (by decide) (by decide)
theorem d1_4 : decode method_3_code 4 = .ok (.new 31, 3) := by decide +kernel
theorem d1_7 : decode method_3_code 7 = .ok (.dup, 1) := by decide +kernel
theorem d1_8 : decode method_3_code 8 = .ok (.iconst 0, 1) := by decide +kernel
theorem d1_9 : decode method_3_code 9 = .ok (.newarray .char, 2) := by decide +kernel
theorem d1_11 : decode method_3_code 11 = .ok (.invokespecial 33, 3) := by decide +kernel
theorem d1_14 : decode method_3_code 14 = .ok (.areturn, 1) := by decide +kernel
theorem ef_rmS0 (m : MethodId) (x0 : Int32) (x1 : Int32) (x2 : Int32) : entryFrame m #[(.int x0), (.int x1), (.int x2)] 4 = mkF m 0 #[.val (.int x0), .val (.int x1), .val (.int x2), .unset] [] := by first | (simp [entryFrame, mkF, argsToLocals, Value.category]; done) | rfl
set_option maxRecDepth 65536 in
set_option maxHeartbeats 400000000 in
theorem rmS0 (l : Launch) (Z : State) (a0 : Array Value) (hw : ∀ d ∈ tables_1, d.before a0 Z = true) (ws : List Jvm.Cond) (w_IDENTIFIER : Addr) (w_SYMBOL : Addr) (w_NUMBER : Addr) (w_STRING : Addr) (w_NAMED_PARAMETER : Addr) (w_POSITIONAL_PARAMETER : Addr) (w_END : Addr) (zc : Int32) (hS : SF Z w_IDENTIFIER w_SYMBOL w_NUMBER w_STRING w_NAMED_PARAMETER w_POSITIONAL_PARAMETER w_END zc) (p2 p3 : Int32) (h0 : Heap) (O0 : Ext Z.heap h0)  :
    ConH l Z EL1 h0 (⟨"com/example/instances_to_rows/instancestorows/query/TokenIsSymbolPinLaw", "str", "(ICC)Ljava/lang/String;"⟩ : MethodName) method_3_code 4 (some (.object "java/lang/String")) ws ({ frames := 4, cells := 6, slots := 12, locals := 110 } : Room) #[(.int (0 : Int32)), (.int p2), (.int p3)] (fun v h L => (∃ b vb kb, v = some (.ref b) ∧ h0.size ≤ b ∧ Exa Z h b "java/lang/String" ∧ Fld Z h b "java/lang/String" "coder" "B" (.int 0) ∧ Fld Z h b "java/lang/String" "value" "[B" (.ref vb) ∧ Arv Z h vb kb .byte (0 : Int32) [] (.int (0 : Int32))) ∧ Fr Z.heap.size L ∧ Keep h0 h []) := by
  obtain ⟨S_IDENTIFIER, E_IDENTIFIER, S_SYMBOL, E_SYMBOL, F_IDENTIFIER_ordinal, F_SYMBOL_ordinal, S_NUMBER, E_NUMBER, F_NUMBER_ordinal, S_STRING, E_STRING, F_STRING_ordinal, S_NAMED_PARAMETER, E_NAMED_PARAMETER, F_NAMED_PARAMETER_ordinal, S_POSITIONAL_PARAMETER, E_POSITIONAL_PARAMETER, F_POSITIONAL_PARAMETER_ordinal, S_END, E_END, F_END_ordinal, S_COMPACT_STRINGS, hzc⟩ := id hS
  refine own_conH (plainFor_of_name pn_328133) ?_
  intro p e s m below meth c T0 X0 hx hby hml hown hnm hret hlk hZ e0 hS0 C0
  have hown : (s.setVm s.vm).vm.findClass "com/example/instances_to_rows/instancestorows/query/TokenIsSymbolPinLaw" = some m.cls := hown
  have hk0 : h0.size ≤ h0.size := Nat.le_refl _
  have hEL := own_EW hw
  have N0 := Fr.nil Z.heap.size
  have KP0 : Keep h0 h0 [] := Keep.refl h0 _
  refine Go.st (S' := T0.setTop (mkF m 0 #[.val (.int (0 : Int32)), .val (.int p2), .val (.int p3), .unset] [])) (fun _ k => castTop (ef_rmS0 m (0 : Int32) p2 p3) k) ?_
  refine Go.st (S' := T0.setTop (mkF m 1 #[.val (.int (0 : Int32)), .val (.int p2), .val (.int p3), .unset] [(.int (0 : Int32))])) (fun _ k => XS.iloadN X0.here hx rfl (hb hby d1_0) rfl k) ?_
  refine Go.st (S' := T0.setTop (mkF m 4 #[.val (.int (0 : Int32)), .val (.int p2), .val (.int p3), .unset] [])) (fun _ k => XS.ifNo X0.here hx rfl (hb hby d1_1) rfl ((if0 _ _).trans (teq (by decide)).2) k) ?_
  obtain ⟨T42, h42, X42, e42, E42, A42, D42, -, st42⟩ := newO X0 hx hZ hown (ww hw 5 rfl) (ww hw 6 rfl) (ww hw 7 rfl) e0 (g := (mkF m 4 #[.val (.int (0 : Int32)), .val (.int p2), .val (.int p3), .unset] [])) rfl (hb hby d1_4) (by decide) (by decide)
  obtain ⟨b42, g42⟩ : ∃ z, z = h0.size := ⟨_, rfl⟩
  rw [← g42] at A42 D42 st42
  have gz42 : Z.heap.size ≤ b42 := Nat.le_trans O0.1 (Nat.le_of_eq g42.symm)
  have sz42 : h0.size ≤ b42 := Nat.le_trans KP0.1 (Nat.le_of_eq g42.symm)
  have O42 : Ext Z.heap h42 := own_Ext.trans O0 E42
  have KP42 : Keep h0 h42 [] := KP0.ext E42
  have C42 := C0.trans (CHr.ext E42 C0.1)
  have hk42 := Nat.le_trans hk0 E42.1
  have F42_value : Fld Z h42 b42 "java/lang/String" "value" "[B" .null := D42 (Or.inr (ww hw 21 rfl)) (ty := (.array .byte)) pf_132114
  have F42_coder : Fld Z h42 b42 "java/lang/String" "coder" "B" (.int (0 : Int32)) := D42 (Or.inr (ww hw 22 rfl)) (ty := .byte) pf_983
  refine Go.st (S' := T42.setTop (mkF m 7 #[.val (.int (0 : Int32)), .val (.int p2), .val (.int p3), .unset] [(.ref b42)])) st42 ?_
  refine Go.st (S' := T42.setTop (mkF m 8 #[.val (.int (0 : Int32)), .val (.int p2), .val (.int p3), .unset] [(.ref b42), (.ref b42)])) (fun _ k => XS.dup X42.here hx rfl (hb hby d1_7) rfl rfl k) ?_
  refine Go.st (S' := T42.setTop (mkF m 9 #[.val (.int (0 : Int32)), .val (.int p2), .val (.int p3), .unset] [(.int (0 : Int32)), (.ref b42), (.ref b42)])) (fun _ k => XS.iconst X42.here hx rfl (hb hby d1_8) k) ?_
  obtain ⟨T43, h43, k43, X43, e43, E43, A43, Ea43, st43⟩ := newPE X42 hx hZ (ww hw 8 rfl) e42 (g := (mkF m 9 #[.val (.int (0 : Int32)), .val (.int p2), .val (.int p3), .unset] [(.int (0 : Int32)), (.ref b42), (.ref b42)])) rfl (hb hby d1_9) rfl (by decide) (cap := 0) (by decide) (by decide) (by decide) (by decide) (ad := "[C") (by decide)
  obtain ⟨b43, g43⟩ : ∃ z, z = h42.size := ⟨_, rfl⟩
  rw [← g43] at A43 Ea43 st43
  have gz43 : Z.heap.size ≤ b43 := Nat.le_trans O42.1 (Nat.le_of_eq g43.symm)
  have sz43 : h0.size ≤ b43 := Nat.le_trans KP42.1 (Nat.le_of_eq g43.symm)
  have ne_b42_b43 : b42 ≠ b43 := own_lt_ne A42.lt g43
  have O43 : Ext Z.heap h43 := own_Ext.trans O42 E43
  have KP43 : Keep h0 h43 [] := KP42.ext E43
  have C43 := C42.trans (CHr.ext E43 C42.1)
  have hk43 := Nat.le_trans hk42 E43.1
  have V43 : Arv Z h43 b43 k43 .char (0 : Int32) [] (.int (0 : Int32)) := (Arv.new A43 (by decide)).pad (pad_rep [] (.int (0 : Int32)) 0)
  refine Go.st (S' := T43.setTop (mkF m 11 #[.val (.int (0 : Int32)), .val (.int p2), .val (.int p3), .unset] [(.ref b43), (.ref b42), (.ref b42)])) st43 ?_
  obtain ⟨_, T44, L44, X44, ⟨rfl, Nq44, kp44, cb44, kc44, fc44, fv44, vc44⟩, hS44, hZ, hown, C44, st44⟩ := own_callIH X43 hx hZ hS0 hk43 hEL C43 rfl hown (ww hw 9 rfl) (ww hw 10 rfl) (ww hw 7 rfl) (ww hw 11 rfl) (by decide) e43 (rmC0 l Z a0 hw [] w_IDENTIFIER w_SYMBOL w_NUMBER w_STRING w_NAMED_PARAMETER w_POSITIONAL_PARAMETER w_END zc hS b42 b43 k43 h43 O43 gz42 (A42.ext E43) (F42_value.ext E43) (F42_coder.ext E43) V43) 1 (by decide) (by decide) (by decide) (by decide) (g := (mkF m 11 #[.val (.int (0 : Int32)), .val (.int p2), .val (.int p3), .unset] [(.ref b43), (.ref b42), (.ref b42)])) rfl (by rw [hml]; rfl) [(.ref b43)] [(.ref b42)] rfl (lenOf pd_309799 rfl) rfl (by show 2 * 0 + _ ≤ _; exact Nat.le_of_eq rfl) (hb hby d1_11)
  have N44 := Fr.app N0 Nq44
  have O44 : Ext Z.heap T44.heap := own_Ext.keep O43 kp44 (allS gz42 all0)
  have KP44 : Keep h0 T44.heap [] := KP43.trans kp44 (allS (Or.inr sz42) all0)
  have hk44 : T44.heap.size ≤ T44.heap.size := Nat.le_refl _
  refine Go.st (S' := T44.setTop (mkF m 14 #[.val (.int (0 : Int32)), .val (.int p2), .val (.int p3), .unset] [(.ref b42)])) st44 ?_
  exact own_retAH X44 hS44 hk44 hZ hEL C44 hx hlk hret rfl rfl rfl (hb hby d1_14) rfl ⟨⟨_, _, _, rfl, sz42, ((A42.ext E43).keep kp44), fc44, fv44, vc44⟩, N44, KP44⟩ (by decide) (by decide)
theorem rmStr (l : Launch) (Z : State) (a0 : Array Value) (hw : ∀ d ∈ tables_1, d.before a0 Z = true) (ws : List Jvm.Cond) (w_IDENTIFIER : Addr) (w_SYMBOL : Addr) (w_NUMBER : Addr) (w_STRING : Addr) (w_NAMED_PARAMETER : Addr) (w_POSITIONAL_PARAMETER : Addr) (w_END : Addr) (zc : Int32) (hS : SF Z w_IDENTIFIER w_SYMBOL w_NUMBER w_STRING w_NAMED_PARAMETER w_POSITIONAL_PARAMETER w_END zc) (p1 p2 p3 : Int32) (hp : p1 = 0 ∨ p1 = 1 ∨ p1 = 2) (hc2 : Ch p2) (hc3 : Ch p3) (h0 : Heap) (O0 : Ext Z.heap h0) :
    ConH l Z EL1 h0 (⟨"com/example/instances_to_rows/instancestorows/query/TokenIsSymbolPinLaw", "str", "(ICC)Ljava/lang/String;"⟩ : MethodName) method_3_code 4 (some (.object "java/lang/String")) ws ({ frames := 4, cells := 6, slots := 12, locals := 110 } : Room) #[(.int p1), (.int p2), (.int p3)] (fun v h L => (∃ b vb kb, v = some (.ref b) ∧ h0.size ≤ b ∧ Exa Z h b "java/lang/String" ∧ Fld Z h b "java/lang/String" "coder" "B" (.int 0) ∧ Fld Z h b "java/lang/String" "value" "[B" (.ref vb) ∧ Arv Z h vb kb .byte p1 ((strL p1 p2 p3).map Value.int) (.int (0 : Int32))) ∧ Fr Z.heap.size L ∧ Keep h0 h []) := by
  rcases hp with rfl | rfl | rfl
  · rw [own_s0]; exact rmS0 l Z a0 hw ws w_IDENTIFIER w_SYMBOL w_NUMBER w_STRING w_NAMED_PARAMETER w_POSITIONAL_PARAMETER w_END zc hS p2 p3 h0 O0
  · rw [own_s1]; exact own_conHN (own_EW hw) (fun v h L q => q.2.2) (rmS1 l Z a0 hw ws w_IDENTIFIER w_SYMBOL w_NUMBER w_STRING w_NAMED_PARAMETER w_POSITIONAL_PARAMETER w_END zc hS p2 p3 hc2 hc3 h0 O0)
  · rw [own_s2]; exact own_conHN (own_EW hw) (fun v h L q => q.2.2) (rmS2 l Z a0 hw ws w_IDENTIFIER w_SYMBOL w_NUMBER w_STRING w_NAMED_PARAMETER w_POSITIONAL_PARAMETER w_END zc hS p2 p3 hc2 hc3 h0 O0)
theorem d10_0 : decode jdk_43_method_13_code 0 = .ok (.aload_n 0, 1) := by decide +kernel
theorem d10_1 : decode jdk_43_method_13_code 1 = .ok (.arraylength, 1) := by decide +kernel
theorem d10_2 : decode jdk_43_method_13_code 2 = .ok (.aload_n 1, 1) := by decide +kernel
theorem d10_3 : decode jdk_43_method_13_code 3 = .ok (.arraylength, 1) := by decide +kernel
theorem d10_4 : decode jdk_43_method_13_code 4 = .ok (.if_icmp .ne 30, 3) := by decide +kernel
theorem d10_34 : decode jdk_43_method_13_code 34 = .ok (.iconst 0, 1) := by decide +kernel
theorem d10_35 : decode jdk_43_method_13_code 35 = .ok (.ireturn, 1) := by decide +kernel
theorem ef_rmLn (m : MethodId) (x0 : Addr) (x1 : Addr) : entryFrame m #[(.ref x0), (.ref x1)] 3 = mkF m 0 #[.val (.ref x0), .val (.ref x1), .unset] [] := by first | (simp [entryFrame, mkF, argsToLocals, Value.category]; done) | rfl
set_option maxRecDepth 65536 in
set_option maxHeartbeats 400000000 in
theorem rmLn (l : Launch) (Z : State) (a0 : Array Value) (hw : ∀ d ∈ tables_1, d.before a0 Z = true) (ws : List Jvm.Cond) (w_IDENTIFIER : Addr) (w_SYMBOL : Addr) (w_NUMBER : Addr) (w_STRING : Addr) (w_NAMED_PARAMETER : Addr) (w_POSITIONAL_PARAMETER : Addr) (w_END : Addr) (zc : Int32) (hS : SF Z w_IDENTIFIER w_SYMBOL w_NUMBER w_STRING w_NAMED_PARAMETER w_POSITIONAL_PARAMETER w_END zc) (a1 a2 : Addr) (k1 k2 : ClassId) (n1 n2 r : Int32) (us ws_ : List Value) (hne : ¬ n1 = n2) (hr : r = 0) (h0 : Heap) (O0 : Ext Z.heap h0) (VA : Arv Z h0 a1 k1 .byte n1 us (.int (0 : Int32))) (VT : Arv Z h0 a2 k2 .byte n2 ws_ (.int (0 : Int32))) :
    Con l Z h0 (⟨"java/lang/StringLatin1", "equals", "([B[B)Z"⟩ : MethodName) jdk_43_method_13_code 3 (some .boolean) ws ({ frames := 0, cells := 0, slots := 0, locals := 0 } : Room) #[(.ref a1), (.ref a2)] (fun v h L => v = some (.int r) ∧ Fr Z.heap.size L ∧ h = h0) := by
  obtain ⟨S_IDENTIFIER, E_IDENTIFIER, S_SYMBOL, E_SYMBOL, F_IDENTIFIER_ordinal, F_SYMBOL_ordinal, S_NUMBER, E_NUMBER, F_NUMBER_ordinal, S_STRING, E_STRING, F_STRING_ordinal, S_NAMED_PARAMETER, E_NAMED_PARAMETER, F_NAMED_PARAMETER_ordinal, S_POSITIONAL_PARAMETER, E_POSITIONAL_PARAMETER, F_POSITIONAL_PARAMETER_ordinal, S_END, E_END, F_END_ordinal, S_COMPACT_STRINGS, hzc⟩ := id hS
  refine own_con (plainFor_of_name pn_398266) ?_
  intro p e s m below meth c T0 X0 hx hby hml hown hnm hret hlk hZ e0
  have hown : s.vm.findClass "java/lang/StringLatin1" = some m.cls := hown
  have N0 := Fr.nil Z.heap.size
  refine Go.st (S' := T0.setTop (mkF m 0 #[.val (.ref a1), .val (.ref a2), .unset] [])) (fun _ k => castTop (ef_rmLn m a1 a2) k) ?_
  refine Go.st (S' := T0.setTop (mkF m 1 #[.val (.ref a1), .val (.ref a2), .unset] [(.ref a1)])) (fun _ k => XS.aloadN X0.here hx rfl (hb hby d10_0) rfl rfl k) ?_
  refine Go.st (S' := T0.setTop (mkF m 2 #[.val (.ref a1), .val (.ref a2), .unset] [(.int n1)])) (own_alen X0 hx hZ e0 VA (g := (mkF m 1 #[.val (.ref a1), .val (.ref a2), .unset] [(.ref a1)])) rfl rfl (hb hby d10_1)) ?_
  refine Go.st (S' := T0.setTop (mkF m 3 #[.val (.ref a1), .val (.ref a2), .unset] [(.ref a2), (.int n1)])) (fun _ k => XS.aloadN X0.here hx rfl (hb hby d10_2) rfl rfl k) ?_
  refine Go.st (S' := T0.setTop (mkF m 4 #[.val (.ref a1), .val (.ref a2), .unset] [(.int n2), (.int n1)])) (own_alen X0 hx hZ e0 VT (g := (mkF m 3 #[.val (.ref a1), .val (.ref a2), .unset] [(.ref a2), (.int n1)])) rfl rfl (hb hby d10_3)) ?_
  refine Go.st (S' := T0.setTop (mkF m 34 #[.val (.ref a1), .val (.ref a2), .unset] [])) (fun _ k => XS.icmpYes X0.here hx rfl (pc0 := 4) (pc' := 34) rfl (hb hby d10_4) rfl (feq hne).2 (by decide) (by decide) k) ?_
  refine Go.st (S' := T0.setTop (mkF m 35 #[.val (.ref a1), .val (.ref a2), .unset] [(.int (0 : Int32))])) (fun _ k => XS.iconst X0.here hx rfl (hb hby d10_34) k) ?_
  exact own_retN X0 hx hlk hret (by simp) (hb hby d10_35) e0 ⟨congrArg (fun z => some (Value.int z)) (own_bo0.trans hr.symm), N0, rfl⟩ (by decide) (by decide)
theorem d10_7 : decode jdk_43_method_13_code 7 = .ok (.iconst 0, 1) := by decide +kernel
theorem d10_8 : decode jdk_43_method_13_code 8 = .ok (.istore_n 2, 1) := by decide +kernel
theorem d10_9 : decode jdk_43_method_13_code 9 = .ok (.iload_n 2, 1) := by decide +kernel
theorem d10_10 : decode jdk_43_method_13_code 10 = .ok (.aload_n 0, 1) := by decide +kernel
theorem d10_11 : decode jdk_43_method_13_code 11 = .ok (.arraylength, 1) := by decide +kernel
theorem d10_12 : decode jdk_43_method_13_code 12 = .ok (.if_icmp .ge 20, 3) := by decide +kernel
theorem d10_32 : decode jdk_43_method_13_code 32 = .ok (.iconst 1, 1) := by decide +kernel
theorem d10_33 : decode jdk_43_method_13_code 33 = .ok (.ireturn, 1) := by decide +kernel
theorem ef_rmL0 (m : MethodId) (x0 : Addr) (x1 : Addr) : entryFrame m #[(.ref x0), (.ref x1)] 3 = mkF m 0 #[.val (.ref x0), .val (.ref x1), .unset] [] := by first | (simp [entryFrame, mkF, argsToLocals, Value.category]; done) | rfl
set_option maxRecDepth 65536 in
set_option maxHeartbeats 400000000 in
theorem rmL0 (l : Launch) (Z : State) (a0 : Array Value) (hw : ∀ d ∈ tables_1, d.before a0 Z = true) (ws : List Jvm.Cond) (w_IDENTIFIER : Addr) (w_SYMBOL : Addr) (w_NUMBER : Addr) (w_STRING : Addr) (w_NAMED_PARAMETER : Addr) (w_POSITIONAL_PARAMETER : Addr) (w_END : Addr) (zc : Int32) (hS : SF Z w_IDENTIFIER w_SYMBOL w_NUMBER w_STRING w_NAMED_PARAMETER w_POSITIONAL_PARAMETER w_END zc) (a1 a2 : Addr) (k1 k2 : ClassId)  (h0 : Heap) (O0 : Ext Z.heap h0) (VA : Arv Z h0 a1 k1 .byte (0 : Int32) [] (.int (0 : Int32))) (VT : Arv Z h0 a2 k2 .byte (0 : Int32) [] (.int (0 : Int32))) :
    Con l Z h0 (⟨"java/lang/StringLatin1", "equals", "([B[B)Z"⟩ : MethodName) jdk_43_method_13_code 3 (some .boolean) ws ({ frames := 0, cells := 0, slots := 0, locals := 0 } : Room) #[(.ref a1), (.ref a2)] (fun v h L => v = some (.int (eqF [] [])) ∧ Fr Z.heap.size L ∧ h = h0) := by
  obtain ⟨S_IDENTIFIER, E_IDENTIFIER, S_SYMBOL, E_SYMBOL, F_IDENTIFIER_ordinal, F_SYMBOL_ordinal, S_NUMBER, E_NUMBER, F_NUMBER_ordinal, S_STRING, E_STRING, F_STRING_ordinal, S_NAMED_PARAMETER, E_NAMED_PARAMETER, F_NAMED_PARAMETER_ordinal, S_POSITIONAL_PARAMETER, E_POSITIONAL_PARAMETER, F_POSITIONAL_PARAMETER_ordinal, S_END, E_END, F_END_ordinal, S_COMPACT_STRINGS, hzc⟩ := id hS
  refine own_con (plainFor_of_name pn_398266) ?_
  intro p e s m below meth c T0 X0 hx hby hml hown hnm hret hlk hZ e0
  have hown : s.vm.findClass "java/lang/StringLatin1" = some m.cls := hown
  have N0 := Fr.nil Z.heap.size
  refine Go.st (S' := T0.setTop (mkF m 0 #[.val (.ref a1), .val (.ref a2), .unset] [])) (fun _ k => castTop (ef_rmL0 m a1 a2) k) ?_
  refine Go.st (S' := T0.setTop (mkF m 1 #[.val (.ref a1), .val (.ref a2), .unset] [(.ref a1)])) (fun _ k => XS.aloadN X0.here hx rfl (hb hby d10_0) rfl rfl k) ?_
  refine Go.st (S' := T0.setTop (mkF m 2 #[.val (.ref a1), .val (.ref a2), .unset] [(.int (0 : Int32))])) (own_alen X0 hx hZ e0 VA (g := (mkF m 1 #[.val (.ref a1), .val (.ref a2), .unset] [(.ref a1)])) rfl rfl (hb hby d10_1)) ?_
  refine Go.st (S' := T0.setTop (mkF m 3 #[.val (.ref a1), .val (.ref a2), .unset] [(.ref a2), (.int (0 : Int32))])) (fun _ k => XS.aloadN X0.here hx rfl (hb hby d10_2) rfl rfl k) ?_
  refine Go.st (S' := T0.setTop (mkF m 4 #[.val (.ref a1), .val (.ref a2), .unset] [(.int (0 : Int32)), (.int (0 : Int32))])) (own_alen X0 hx hZ e0 VT (g := (mkF m 3 #[.val (.ref a1), .val (.ref a2), .unset] [(.ref a2), (.int (0 : Int32))])) rfl rfl (hb hby d10_3)) ?_
  refine Go.st (S' := T0.setTop (mkF m 7 #[.val (.ref a1), .val (.ref a2), .unset] [])) (fun _ k => XS.icmpNo X0.here hx rfl (hb hby d10_4) rfl (teq (by decide)).2 k) ?_
  refine Go.st (S' := T0.setTop (mkF m 8 #[.val (.ref a1), .val (.ref a2), .unset] [(.int (0 : Int32))])) (fun _ k => XS.iconst X0.here hx rfl (hb hby d10_7) k) ?_
  refine Go.st (S' := T0.setTop (mkF m 9 #[.val (.ref a1), .val (.ref a2), .val (.int (0 : Int32))] [])) (fun _ k => XS.istoreN X0.here hx rfl (hb hby d10_8) rfl (l' := #[.val (.ref a1), .val (.ref a2), .val (.int (0 : Int32))]) rfl k) ?_
  refine Go.st (S' := T0.setTop (mkF m 10 #[.val (.ref a1), .val (.ref a2), .val (.int (0 : Int32))] [(.int (0 : Int32))])) (fun _ k => XS.iloadN X0.here hx rfl (hb hby d10_9) rfl k) ?_
  refine Go.st (S' := T0.setTop (mkF m 11 #[.val (.ref a1), .val (.ref a2), .val (.int (0 : Int32))] [(.ref a1), (.int (0 : Int32))])) (fun _ k => XS.aloadN X0.here hx rfl (hb hby d10_10) rfl rfl k) ?_
  refine Go.st (S' := T0.setTop (mkF m 12 #[.val (.ref a1), .val (.ref a2), .val (.int (0 : Int32))] [(.int (0 : Int32)), (.int (0 : Int32))])) (own_alen X0 hx hZ e0 VA (g := (mkF m 11 #[.val (.ref a1), .val (.ref a2), .val (.int (0 : Int32))] [(.ref a1), (.int (0 : Int32))])) rfl rfl (hb hby d10_11)) ?_
  refine Go.st (S' := T0.setTop (mkF m 32 #[.val (.ref a1), .val (.ref a2), .val (.int (0 : Int32))] [])) (fun _ k => XS.icmpYes X0.here hx rfl (pc0 := 12) (pc' := 32) rfl (hb hby d10_12) rfl (flt (by decide)).2.1 (by decide) (by decide) k) ?_
  refine Go.st (S' := T0.setTop (mkF m 33 #[.val (.ref a1), .val (.ref a2), .val (.int (0 : Int32))] [(.int (1 : Int32))])) (fun _ k => XS.iconst X0.here hx rfl (hb hby d10_32) k) ?_
  exact own_retN X0 hx hlk hret (by simp) (hb hby d10_33) e0 ⟨congrArg (fun z => some (Value.int z)) (by rw [own_bo1]; simp [eqF, ]), N0, rfl⟩ (by decide) (by decide)
theorem d10_15 : decode jdk_43_method_13_code 15 = .ok (.aload_n 0, 1) := by decide +kernel
theorem d10_16 : decode jdk_43_method_13_code 16 = .ok (.iload_n 2, 1) := by decide +kernel
theorem d10_17 : decode jdk_43_method_13_code 17 = .ok (.baload, 1) := by decide +kernel
theorem d10_18 : decode jdk_43_method_13_code 18 = .ok (.aload_n 1, 1) := by decide +kernel
theorem d10_19 : decode jdk_43_method_13_code 19 = .ok (.iload_n 2, 1) := by decide +kernel
theorem d10_20 : decode jdk_43_method_13_code 20 = .ok (.baload, 1) := by decide +kernel
theorem d10_21 : decode jdk_43_method_13_code 21 = .ok (.if_icmp .eq 5, 3) := by decide +kernel
theorem d10_24 : decode jdk_43_method_13_code 24 = .ok (.iconst 0, 1) := by decide +kernel
theorem d10_25 : decode jdk_43_method_13_code 25 = .ok (.ireturn, 1) := by decide +kernel
theorem d10_26 : decode jdk_43_method_13_code 26 = .ok (.iinc 2 1, 3) := by decide +kernel
theorem d10_29 : decode jdk_43_method_13_code 29 = .ok (.goto (-20), 3) := by decide +kernel
theorem ef_rmL1 (m : MethodId) (x0 : Addr) (x1 : Addr) : entryFrame m #[(.ref x0), (.ref x1)] 3 = mkF m 0 #[.val (.ref x0), .val (.ref x1), .unset] [] := by first | (simp [entryFrame, mkF, argsToLocals, Value.category]; done) | rfl
set_option maxRecDepth 65536 in
set_option maxHeartbeats 400000000 in
theorem rmL1 (l : Launch) (Z : State) (a0 : Array Value) (hw : ∀ d ∈ tables_1, d.before a0 Z = true) (ws : List Jvm.Cond) (w_IDENTIFIER : Addr) (w_SYMBOL : Addr) (w_NUMBER : Addr) (w_STRING : Addr) (w_NAMED_PARAMETER : Addr) (w_POSITIONAL_PARAMETER : Addr) (w_END : Addr) (zc : Int32) (hS : SF Z w_IDENTIFIER w_SYMBOL w_NUMBER w_STRING w_NAMED_PARAMETER w_POSITIONAL_PARAMETER w_END zc) (a1 a2 : Addr) (k1 k2 : ClassId) (x0 : Int32) (y0 : Int32) (h0 : Heap) (O0 : Ext Z.heap h0) (VA : Arv Z h0 a1 k1 .byte (1 : Int32) [(.int x0)] (.int (0 : Int32))) (VT : Arv Z h0 a2 k2 .byte (1 : Int32) [(.int y0)] (.int (0 : Int32))) :
    Con l Z h0 (⟨"java/lang/StringLatin1", "equals", "([B[B)Z"⟩ : MethodName) jdk_43_method_13_code 3 (some .boolean) ws ({ frames := 0, cells := 0, slots := 0, locals := 0 } : Room) #[(.ref a1), (.ref a2)] (fun v h L => v = some (.int (eqF [x0] [y0])) ∧ Fr Z.heap.size L ∧ h = h0) := by
  obtain ⟨S_IDENTIFIER, E_IDENTIFIER, S_SYMBOL, E_SYMBOL, F_IDENTIFIER_ordinal, F_SYMBOL_ordinal, S_NUMBER, E_NUMBER, F_NUMBER_ordinal, S_STRING, E_STRING, F_STRING_ordinal, S_NAMED_PARAMETER, E_NAMED_PARAMETER, F_NAMED_PARAMETER_ordinal, S_POSITIONAL_PARAMETER, E_POSITIONAL_PARAMETER, F_POSITIONAL_PARAMETER_ordinal, S_END, E_END, F_END_ordinal, S_COMPACT_STRINGS, hzc⟩ := id hS
  refine own_con (plainFor_of_name pn_398266) ?_
  intro p e s m below meth c T0 X0 hx hby hml hown hnm hret hlk hZ e0
  have hown : s.vm.findClass "java/lang/StringLatin1" = some m.cls := hown
  have N0 := Fr.nil Z.heap.size
  refine Go.st (S' := T0.setTop (mkF m 0 #[.val (.ref a1), .val (.ref a2), .unset] [])) (fun _ k => castTop (ef_rmL1 m a1 a2) k) ?_
  refine Go.st (S' := T0.setTop (mkF m 1 #[.val (.ref a1), .val (.ref a2), .unset] [(.ref a1)])) (fun _ k => XS.aloadN X0.here hx rfl (hb hby d10_0) rfl rfl k) ?_
  refine Go.st (S' := T0.setTop (mkF m 2 #[.val (.ref a1), .val (.ref a2), .unset] [(.int (1 : Int32))])) (own_alen X0 hx hZ e0 VA (g := (mkF m 1 #[.val (.ref a1), .val (.ref a2), .unset] [(.ref a1)])) rfl rfl (hb hby d10_1)) ?_
  refine Go.st (S' := T0.setTop (mkF m 3 #[.val (.ref a1), .val (.ref a2), .unset] [(.ref a2), (.int (1 : Int32))])) (fun _ k => XS.aloadN X0.here hx rfl (hb hby d10_2) rfl rfl k) ?_
  refine Go.st (S' := T0.setTop (mkF m 4 #[.val (.ref a1), .val (.ref a2), .unset] [(.int (1 : Int32)), (.int (1 : Int32))])) (own_alen X0 hx hZ e0 VT (g := (mkF m 3 #[.val (.ref a1), .val (.ref a2), .unset] [(.ref a2), (.int (1 : Int32))])) rfl rfl (hb hby d10_3)) ?_
  refine Go.st (S' := T0.setTop (mkF m 7 #[.val (.ref a1), .val (.ref a2), .unset] [])) (fun _ k => XS.icmpNo X0.here hx rfl (hb hby d10_4) rfl (teq (by decide)).2 k) ?_
  refine Go.st (S' := T0.setTop (mkF m 8 #[.val (.ref a1), .val (.ref a2), .unset] [(.int (0 : Int32))])) (fun _ k => XS.iconst X0.here hx rfl (hb hby d10_7) k) ?_
  refine Go.st (S' := T0.setTop (mkF m 9 #[.val (.ref a1), .val (.ref a2), .val (.int (0 : Int32))] [])) (fun _ k => XS.istoreN X0.here hx rfl (hb hby d10_8) rfl (l' := #[.val (.ref a1), .val (.ref a2), .val (.int (0 : Int32))]) rfl k) ?_
  refine Go.st (S' := T0.setTop (mkF m 10 #[.val (.ref a1), .val (.ref a2), .val (.int (0 : Int32))] [(.int (0 : Int32))])) (fun _ k => XS.iloadN X0.here hx rfl (hb hby d10_9) rfl k) ?_
  refine Go.st (S' := T0.setTop (mkF m 11 #[.val (.ref a1), .val (.ref a2), .val (.int (0 : Int32))] [(.ref a1), (.int (0 : Int32))])) (fun _ k => XS.aloadN X0.here hx rfl (hb hby d10_10) rfl rfl k) ?_
  refine Go.st (S' := T0.setTop (mkF m 12 #[.val (.ref a1), .val (.ref a2), .val (.int (0 : Int32))] [(.int (1 : Int32)), (.int (0 : Int32))])) (own_alen X0 hx hZ e0 VA (g := (mkF m 11 #[.val (.ref a1), .val (.ref a2), .val (.int (0 : Int32))] [(.ref a1), (.int (0 : Int32))])) rfl rfl (hb hby d10_11)) ?_
  refine Go.st (S' := T0.setTop (mkF m 15 #[.val (.ref a1), .val (.ref a2), .val (.int (0 : Int32))] [])) (fun _ k => XS.icmpNo X0.here hx rfl (hb hby d10_12) rfl (tlt (by decide)).2.1 k) ?_
  refine Go.st (S' := T0.setTop (mkF m 16 #[.val (.ref a1), .val (.ref a2), .val (.int (0 : Int32))] [(.ref a1)])) (fun _ k => XS.aloadN X0.here hx rfl (hb hby d10_15) rfl rfl k) ?_
  refine Go.st (S' := T0.setTop (mkF m 17 #[.val (.ref a1), .val (.ref a2), .val (.int (0 : Int32))] [(.int (0 : Int32)), (.ref a1)])) (fun _ k => XS.iloadN X0.here hx rfl (hb hby d10_16) rfl k) ?_
  refine Go.st (S' := T0.setTop (mkF m 18 #[.val (.ref a1), .val (.ref a2), .val (.int (0 : Int32))] [(.int x0)])) (own_ldB X0 hx hZ e0 VA ⟨by decide, by decide⟩ rfl (g := (mkF m 17 #[.val (.ref a1), .val (.ref a2), .val (.int (0 : Int32))] [(.int (0 : Int32)), (.ref a1)])) rfl rfl (hb hby d10_17)) ?_
  refine Go.st (S' := T0.setTop (mkF m 19 #[.val (.ref a1), .val (.ref a2), .val (.int (0 : Int32))] [(.ref a2), (.int x0)])) (fun _ k => XS.aloadN X0.here hx rfl (hb hby d10_18) rfl rfl k) ?_
  refine Go.st (S' := T0.setTop (mkF m 20 #[.val (.ref a1), .val (.ref a2), .val (.int (0 : Int32))] [(.int (0 : Int32)), (.ref a2), (.int x0)])) (fun _ k => XS.iloadN X0.here hx rfl (hb hby d10_19) rfl k) ?_
  refine Go.st (S' := T0.setTop (mkF m 21 #[.val (.ref a1), .val (.ref a2), .val (.int (0 : Int32))] [(.int y0), (.int x0)])) (own_ldB X0 hx hZ e0 VT ⟨by decide, by decide⟩ rfl (g := (mkF m 20 #[.val (.ref a1), .val (.ref a2), .val (.int (0 : Int32))] [(.int (0 : Int32)), (.ref a2), (.int x0)])) rfl rfl (hb hby d10_20)) ?_
  by_cases hc21 : x0 = y0
  · refine Go.st (S' := T0.setTop (mkF m 26 #[.val (.ref a1), .val (.ref a2), .val (.int (0 : Int32))] [])) (fun _ k => XS.icmpYes X0.here hx rfl (pc0 := 21) (pc' := 26) rfl (hb hby d10_21) rfl (teq hc21).1 (by decide) (by decide) k) ?_
    refine Go.st (S' := T0.setTop (mkF m 29 #[.val (.ref a1), .val (.ref a2), .val (.int (1 : Int32))] [])) (fun _ k => XS.iinc X0.here hx rfl (hb hby d10_26) rfl (l' := #[.val (.ref a1), .val (.ref a2), .val (.int (1 : Int32))]) rfl k) ?_
    refine Go.st (S' := T0.setTop (mkF m 9 #[.val (.ref a1), .val (.ref a2), .val (.int (1 : Int32))] [])) (fun _ k => XS.goto X0.here hx rfl (pc0 := 29) (pc' := 9) rfl (hb hby d10_29) (by decide) (by decide) k) ?_
    refine Go.st (S' := T0.setTop (mkF m 10 #[.val (.ref a1), .val (.ref a2), .val (.int (1 : Int32))] [(.int (1 : Int32))])) (fun _ k => XS.iloadN X0.here hx rfl (hb hby d10_9) rfl k) ?_
    refine Go.st (S' := T0.setTop (mkF m 11 #[.val (.ref a1), .val (.ref a2), .val (.int (1 : Int32))] [(.ref a1), (.int (1 : Int32))])) (fun _ k => XS.aloadN X0.here hx rfl (hb hby d10_10) rfl rfl k) ?_
    refine Go.st (S' := T0.setTop (mkF m 12 #[.val (.ref a1), .val (.ref a2), .val (.int (1 : Int32))] [(.int (1 : Int32)), (.int (1 : Int32))])) (own_alen X0 hx hZ e0 VA (g := (mkF m 11 #[.val (.ref a1), .val (.ref a2), .val (.int (1 : Int32))] [(.ref a1), (.int (1 : Int32))])) rfl rfl (hb hby d10_11)) ?_
    refine Go.st (S' := T0.setTop (mkF m 32 #[.val (.ref a1), .val (.ref a2), .val (.int (1 : Int32))] [])) (fun _ k => XS.icmpYes X0.here hx rfl (pc0 := 12) (pc' := 32) rfl (hb hby d10_12) rfl (flt (by decide)).2.1 (by decide) (by decide) k) ?_
    refine Go.st (S' := T0.setTop (mkF m 33 #[.val (.ref a1), .val (.ref a2), .val (.int (1 : Int32))] [(.int (1 : Int32))])) (fun _ k => XS.iconst X0.here hx rfl (hb hby d10_32) k) ?_
    exact own_retN X0 hx hlk hret (by simp) (hb hby d10_33) e0 ⟨congrArg (fun z => some (Value.int z)) (by rw [own_bo1]; simp [eqF, hc21]), N0, rfl⟩ (by decide) (by decide)
  · refine Go.st (S' := T0.setTop (mkF m 24 #[.val (.ref a1), .val (.ref a2), .val (.int (0 : Int32))] [])) (fun _ k => XS.icmpNo X0.here hx rfl (hb hby d10_21) rfl (feq hc21).1 k) ?_
    refine Go.st (S' := T0.setTop (mkF m 25 #[.val (.ref a1), .val (.ref a2), .val (.int (0 : Int32))] [(.int (0 : Int32))])) (fun _ k => XS.iconst X0.here hx rfl (hb hby d10_24) k) ?_
    exact own_retN X0 hx hlk hret (by simp) (hb hby d10_25) e0 ⟨congrArg (fun z => some (Value.int z)) (by rw [own_bo0]; simp [eqF, hc21]), N0, rfl⟩ (by decide) (by decide)
theorem ef_rmL2 (m : MethodId) (x0 : Addr) (x1 : Addr) : entryFrame m #[(.ref x0), (.ref x1)] 3 = mkF m 0 #[.val (.ref x0), .val (.ref x1), .unset] [] := by first | (simp [entryFrame, mkF, argsToLocals, Value.category]; done) | rfl
set_option maxRecDepth 65536 in
set_option maxHeartbeats 400000000 in
theorem rmL2 (l : Launch) (Z : State) (a0 : Array Value) (hw : ∀ d ∈ tables_1, d.before a0 Z = true) (ws : List Jvm.Cond) (w_IDENTIFIER : Addr) (w_SYMBOL : Addr) (w_NUMBER : Addr) (w_STRING : Addr) (w_NAMED_PARAMETER : Addr) (w_POSITIONAL_PARAMETER : Addr) (w_END : Addr) (zc : Int32) (hS : SF Z w_IDENTIFIER w_SYMBOL w_NUMBER w_STRING w_NAMED_PARAMETER w_POSITIONAL_PARAMETER w_END zc) (a1 a2 : Addr) (k1 k2 : ClassId) (x0 : Int32) (x1 : Int32) (y0 : Int32) (y1 : Int32) (h0 : Heap) (O0 : Ext Z.heap h0) (VA : Arv Z h0 a1 k1 .byte (2 : Int32) [(.int x0), (.int x1)] (.int (0 : Int32))) (VT : Arv Z h0 a2 k2 .byte (2 : Int32) [(.int y0), (.int y1)] (.int (0 : Int32))) :
    Con l Z h0 (⟨"java/lang/StringLatin1", "equals", "([B[B)Z"⟩ : MethodName) jdk_43_method_13_code 3 (some .boolean) ws ({ frames := 0, cells := 0, slots := 0, locals := 0 } : Room) #[(.ref a1), (.ref a2)] (fun v h L => v = some (.int (eqF [x0, x1] [y0, y1])) ∧ Fr Z.heap.size L ∧ h = h0) := by
  obtain ⟨S_IDENTIFIER, E_IDENTIFIER, S_SYMBOL, E_SYMBOL, F_IDENTIFIER_ordinal, F_SYMBOL_ordinal, S_NUMBER, E_NUMBER, F_NUMBER_ordinal, S_STRING, E_STRING, F_STRING_ordinal, S_NAMED_PARAMETER, E_NAMED_PARAMETER, F_NAMED_PARAMETER_ordinal, S_POSITIONAL_PARAMETER, E_POSITIONAL_PARAMETER, F_POSITIONAL_PARAMETER_ordinal, S_END, E_END, F_END_ordinal, S_COMPACT_STRINGS, hzc⟩ := id hS
  refine own_con (plainFor_of_name pn_398266) ?_
  intro p e s m below meth c T0 X0 hx hby hml hown hnm hret hlk hZ e0
  have hown : s.vm.findClass "java/lang/StringLatin1" = some m.cls := hown
  have N0 := Fr.nil Z.heap.size
  refine Go.st (S' := T0.setTop (mkF m 0 #[.val (.ref a1), .val (.ref a2), .unset] [])) (fun _ k => castTop (ef_rmL2 m a1 a2) k) ?_
  refine Go.st (S' := T0.setTop (mkF m 1 #[.val (.ref a1), .val (.ref a2), .unset] [(.ref a1)])) (fun _ k => XS.aloadN X0.here hx rfl (hb hby d10_0) rfl rfl k) ?_
  refine Go.st (S' := T0.setTop (mkF m 2 #[.val (.ref a1), .val (.ref a2), .unset] [(.int (2 : Int32))])) (own_alen X0 hx hZ e0 VA (g := (mkF m 1 #[.val (.ref a1), .val (.ref a2), .unset] [(.ref a1)])) rfl rfl (hb hby d10_1)) ?_
  refine Go.st (S' := T0.setTop (mkF m 3 #[.val (.ref a1), .val (.ref a2), .unset] [(.ref a2), (.int (2 : Int32))])) (fun _ k => XS.aloadN X0.here hx rfl (hb hby d10_2) rfl rfl k) ?_
  refine Go.st (S' := T0.setTop (mkF m 4 #[.val (.ref a1), .val (.ref a2), .unset] [(.int (2 : Int32)), (.int (2 : Int32))])) (own_alen X0 hx hZ e0 VT (g := (mkF m 3 #[.val (.ref a1), .val (.ref a2), .unset] [(.ref a2), (.int (2 : Int32))])) rfl rfl (hb hby d10_3)) ?_
  refine Go.st (S' := T0.setTop (mkF m 7 #[.val (.ref a1), .val (.ref a2), .unset] [])) (fun _ k => XS.icmpNo X0.here hx rfl (hb hby d10_4) rfl (teq (by decide)).2 k) ?_
  refine Go.st (S' := T0.setTop (mkF m 8 #[.val (.ref a1), .val (.ref a2), .unset] [(.int (0 : Int32))])) (fun _ k => XS.iconst X0.here hx rfl (hb hby d10_7) k) ?_
  refine Go.st (S' := T0.setTop (mkF m 9 #[.val (.ref a1), .val (.ref a2), .val (.int (0 : Int32))] [])) (fun _ k => XS.istoreN X0.here hx rfl (hb hby d10_8) rfl (l' := #[.val (.ref a1), .val (.ref a2), .val (.int (0 : Int32))]) rfl k) ?_
  refine Go.st (S' := T0.setTop (mkF m 10 #[.val (.ref a1), .val (.ref a2), .val (.int (0 : Int32))] [(.int (0 : Int32))])) (fun _ k => XS.iloadN X0.here hx rfl (hb hby d10_9) rfl k) ?_
  refine Go.st (S' := T0.setTop (mkF m 11 #[.val (.ref a1), .val (.ref a2), .val (.int (0 : Int32))] [(.ref a1), (.int (0 : Int32))])) (fun _ k => XS.aloadN X0.here hx rfl (hb hby d10_10) rfl rfl k) ?_
  refine Go.st (S' := T0.setTop (mkF m 12 #[.val (.ref a1), .val (.ref a2), .val (.int (0 : Int32))] [(.int (2 : Int32)), (.int (0 : Int32))])) (own_alen X0 hx hZ e0 VA (g := (mkF m 11 #[.val (.ref a1), .val (.ref a2), .val (.int (0 : Int32))] [(.ref a1), (.int (0 : Int32))])) rfl rfl (hb hby d10_11)) ?_
  refine Go.st (S' := T0.setTop (mkF m 15 #[.val (.ref a1), .val (.ref a2), .val (.int (0 : Int32))] [])) (fun _ k => XS.icmpNo X0.here hx rfl (hb hby d10_12) rfl (tlt (by decide)).2.1 k) ?_
  refine Go.st (S' := T0.setTop (mkF m 16 #[.val (.ref a1), .val (.ref a2), .val (.int (0 : Int32))] [(.ref a1)])) (fun _ k => XS.aloadN X0.here hx rfl (hb hby d10_15) rfl rfl k) ?_
  refine Go.st (S' := T0.setTop (mkF m 17 #[.val (.ref a1), .val (.ref a2), .val (.int (0 : Int32))] [(.int (0 : Int32)), (.ref a1)])) (fun _ k => XS.iloadN X0.here hx rfl (hb hby d10_16) rfl k) ?_
  refine Go.st (S' := T0.setTop (mkF m 18 #[.val (.ref a1), .val (.ref a2), .val (.int (0 : Int32))] [(.int x0)])) (own_ldB X0 hx hZ e0 VA ⟨by decide, by decide⟩ rfl (g := (mkF m 17 #[.val (.ref a1), .val (.ref a2), .val (.int (0 : Int32))] [(.int (0 : Int32)), (.ref a1)])) rfl rfl (hb hby d10_17)) ?_
  refine Go.st (S' := T0.setTop (mkF m 19 #[.val (.ref a1), .val (.ref a2), .val (.int (0 : Int32))] [(.ref a2), (.int x0)])) (fun _ k => XS.aloadN X0.here hx rfl (hb hby d10_18) rfl rfl k) ?_
  refine Go.st (S' := T0.setTop (mkF m 20 #[.val (.ref a1), .val (.ref a2), .val (.int (0 : Int32))] [(.int (0 : Int32)), (.ref a2), (.int x0)])) (fun _ k => XS.iloadN X0.here hx rfl (hb hby d10_19) rfl k) ?_
  refine Go.st (S' := T0.setTop (mkF m 21 #[.val (.ref a1), .val (.ref a2), .val (.int (0 : Int32))] [(.int y0), (.int x0)])) (own_ldB X0 hx hZ e0 VT ⟨by decide, by decide⟩ rfl (g := (mkF m 20 #[.val (.ref a1), .val (.ref a2), .val (.int (0 : Int32))] [(.int (0 : Int32)), (.ref a2), (.int x0)])) rfl rfl (hb hby d10_20)) ?_
  by_cases hc21 : x0 = y0
  · refine Go.st (S' := T0.setTop (mkF m 26 #[.val (.ref a1), .val (.ref a2), .val (.int (0 : Int32))] [])) (fun _ k => XS.icmpYes X0.here hx rfl (pc0 := 21) (pc' := 26) rfl (hb hby d10_21) rfl (teq hc21).1 (by decide) (by decide) k) ?_
    refine Go.st (S' := T0.setTop (mkF m 29 #[.val (.ref a1), .val (.ref a2), .val (.int (1 : Int32))] [])) (fun _ k => XS.iinc X0.here hx rfl (hb hby d10_26) rfl (l' := #[.val (.ref a1), .val (.ref a2), .val (.int (1 : Int32))]) rfl k) ?_
    refine Go.st (S' := T0.setTop (mkF m 9 #[.val (.ref a1), .val (.ref a2), .val (.int (1 : Int32))] [])) (fun _ k => XS.goto X0.here hx rfl (pc0 := 29) (pc' := 9) rfl (hb hby d10_29) (by decide) (by decide) k) ?_
    refine Go.st (S' := T0.setTop (mkF m 10 #[.val (.ref a1), .val (.ref a2), .val (.int (1 : Int32))] [(.int (1 : Int32))])) (fun _ k => XS.iloadN X0.here hx rfl (hb hby d10_9) rfl k) ?_
    refine Go.st (S' := T0.setTop (mkF m 11 #[.val (.ref a1), .val (.ref a2), .val (.int (1 : Int32))] [(.ref a1), (.int (1 : Int32))])) (fun _ k => XS.aloadN X0.here hx rfl (hb hby d10_10) rfl rfl k) ?_
    refine Go.st (S' := T0.setTop (mkF m 12 #[.val (.ref a1), .val (.ref a2), .val (.int (1 : Int32))] [(.int (2 : Int32)), (.int (1 : Int32))])) (own_alen X0 hx hZ e0 VA (g := (mkF m 11 #[.val (.ref a1), .val (.ref a2), .val (.int (1 : Int32))] [(.ref a1), (.int (1 : Int32))])) rfl rfl (hb hby d10_11)) ?_
    refine Go.st (S' := T0.setTop (mkF m 15 #[.val (.ref a1), .val (.ref a2), .val (.int (1 : Int32))] [])) (fun _ k => XS.icmpNo X0.here hx rfl (hb hby d10_12) rfl (tlt (by decide)).2.1 k) ?_
    refine Go.st (S' := T0.setTop (mkF m 16 #[.val (.ref a1), .val (.ref a2), .val (.int (1 : Int32))] [(.ref a1)])) (fun _ k => XS.aloadN X0.here hx rfl (hb hby d10_15) rfl rfl k) ?_
    refine Go.st (S' := T0.setTop (mkF m 17 #[.val (.ref a1), .val (.ref a2), .val (.int (1 : Int32))] [(.int (1 : Int32)), (.ref a1)])) (fun _ k => XS.iloadN X0.here hx rfl (hb hby d10_16) rfl k) ?_
    refine Go.st (S' := T0.setTop (mkF m 18 #[.val (.ref a1), .val (.ref a2), .val (.int (1 : Int32))] [(.int x1)])) (own_ldB X0 hx hZ e0 VA ⟨by decide, by decide⟩ rfl (g := (mkF m 17 #[.val (.ref a1), .val (.ref a2), .val (.int (1 : Int32))] [(.int (1 : Int32)), (.ref a1)])) rfl rfl (hb hby d10_17)) ?_
    refine Go.st (S' := T0.setTop (mkF m 19 #[.val (.ref a1), .val (.ref a2), .val (.int (1 : Int32))] [(.ref a2), (.int x1)])) (fun _ k => XS.aloadN X0.here hx rfl (hb hby d10_18) rfl rfl k) ?_
    refine Go.st (S' := T0.setTop (mkF m 20 #[.val (.ref a1), .val (.ref a2), .val (.int (1 : Int32))] [(.int (1 : Int32)), (.ref a2), (.int x1)])) (fun _ k => XS.iloadN X0.here hx rfl (hb hby d10_19) rfl k) ?_
    refine Go.st (S' := T0.setTop (mkF m 21 #[.val (.ref a1), .val (.ref a2), .val (.int (1 : Int32))] [(.int y1), (.int x1)])) (own_ldB X0 hx hZ e0 VT ⟨by decide, by decide⟩ rfl (g := (mkF m 20 #[.val (.ref a1), .val (.ref a2), .val (.int (1 : Int32))] [(.int (1 : Int32)), (.ref a2), (.int x1)])) rfl rfl (hb hby d10_20)) ?_
    by_cases hc21_1 : x1 = y1
    · refine Go.st (S' := T0.setTop (mkF m 26 #[.val (.ref a1), .val (.ref a2), .val (.int (1 : Int32))] [])) (fun _ k => XS.icmpYes X0.here hx rfl (pc0 := 21) (pc' := 26) rfl (hb hby d10_21) rfl (teq hc21_1).1 (by decide) (by decide) k) ?_
      refine Go.st (S' := T0.setTop (mkF m 29 #[.val (.ref a1), .val (.ref a2), .val (.int (2 : Int32))] [])) (fun _ k => XS.iinc X0.here hx rfl (hb hby d10_26) rfl (l' := #[.val (.ref a1), .val (.ref a2), .val (.int (2 : Int32))]) rfl k) ?_
      refine Go.st (S' := T0.setTop (mkF m 9 #[.val (.ref a1), .val (.ref a2), .val (.int (2 : Int32))] [])) (fun _ k => XS.goto X0.here hx rfl (pc0 := 29) (pc' := 9) rfl (hb hby d10_29) (by decide) (by decide) k) ?_
      refine Go.st (S' := T0.setTop (mkF m 10 #[.val (.ref a1), .val (.ref a2), .val (.int (2 : Int32))] [(.int (2 : Int32))])) (fun _ k => XS.iloadN X0.here hx rfl (hb hby d10_9) rfl k) ?_
      refine Go.st (S' := T0.setTop (mkF m 11 #[.val (.ref a1), .val (.ref a2), .val (.int (2 : Int32))] [(.ref a1), (.int (2 : Int32))])) (fun _ k => XS.aloadN X0.here hx rfl (hb hby d10_10) rfl rfl k) ?_
      refine Go.st (S' := T0.setTop (mkF m 12 #[.val (.ref a1), .val (.ref a2), .val (.int (2 : Int32))] [(.int (2 : Int32)), (.int (2 : Int32))])) (own_alen X0 hx hZ e0 VA (g := (mkF m 11 #[.val (.ref a1), .val (.ref a2), .val (.int (2 : Int32))] [(.ref a1), (.int (2 : Int32))])) rfl rfl (hb hby d10_11)) ?_
      refine Go.st (S' := T0.setTop (mkF m 32 #[.val (.ref a1), .val (.ref a2), .val (.int (2 : Int32))] [])) (fun _ k => XS.icmpYes X0.here hx rfl (pc0 := 12) (pc' := 32) rfl (hb hby d10_12) rfl (flt (by decide)).2.1 (by decide) (by decide) k) ?_
      refine Go.st (S' := T0.setTop (mkF m 33 #[.val (.ref a1), .val (.ref a2), .val (.int (2 : Int32))] [(.int (1 : Int32))])) (fun _ k => XS.iconst X0.here hx rfl (hb hby d10_32) k) ?_
      exact own_retN X0 hx hlk hret (by simp) (hb hby d10_33) e0 ⟨congrArg (fun z => some (Value.int z)) (by rw [own_bo1]; simp [eqF, hc21, hc21_1]), N0, rfl⟩ (by decide) (by decide)
    · refine Go.st (S' := T0.setTop (mkF m 24 #[.val (.ref a1), .val (.ref a2), .val (.int (1 : Int32))] [])) (fun _ k => XS.icmpNo X0.here hx rfl (hb hby d10_21) rfl (feq hc21_1).1 k) ?_
      refine Go.st (S' := T0.setTop (mkF m 25 #[.val (.ref a1), .val (.ref a2), .val (.int (1 : Int32))] [(.int (0 : Int32))])) (fun _ k => XS.iconst X0.here hx rfl (hb hby d10_24) k) ?_
      exact own_retN X0 hx hlk hret (by simp) (hb hby d10_25) e0 ⟨congrArg (fun z => some (Value.int z)) (by rw [own_bo0]; simp [eqF, hc21, hc21_1]), N0, rfl⟩ (by decide) (by decide)
  · refine Go.st (S' := T0.setTop (mkF m 24 #[.val (.ref a1), .val (.ref a2), .val (.int (0 : Int32))] [])) (fun _ k => XS.icmpNo X0.here hx rfl (hb hby d10_21) rfl (feq hc21).1 k) ?_
    refine Go.st (S' := T0.setTop (mkF m 25 #[.val (.ref a1), .val (.ref a2), .val (.int (0 : Int32))] [(.int (0 : Int32))])) (fun _ k => XS.iconst X0.here hx rfl (hb hby d10_24) k) ?_
    exact own_retN X0 hx hlk hret (by simp) (hb hby d10_25) e0 ⟨congrArg (fun z => some (Value.int z)) (by rw [own_bo0]; simp [eqF, hc21]), N0, rfl⟩ (by decide) (by decide)
theorem rmLE (l : Launch) (Z : State) (a0 : Array Value) (hw : ∀ d ∈ tables_1, d.before a0 Z = true) (ws : List Jvm.Cond) (w_IDENTIFIER : Addr) (w_SYMBOL : Addr) (w_NUMBER : Addr) (w_STRING : Addr) (w_NAMED_PARAMETER : Addr) (w_POSITIONAL_PARAMETER : Addr) (w_END : Addr) (zc : Int32) (hS : SF Z w_IDENTIFIER w_SYMBOL w_NUMBER w_STRING w_NAMED_PARAMETER w_POSITIONAL_PARAMETER w_END zc) (a1 a2 : Addr) (k1 k2 : ClassId) (n1 n2 : Int32) (xs ys : List Int32) (hn1 : n1.toInt = xs.length) (hn2 : n2.toInt = ys.length) (hx2 : xs.length ≤ 2) (h0 : Heap) (O0 : Ext Z.heap h0) (VA : Arv Z h0 a1 k1 .byte n1 (xs.map Value.int) (.int (0 : Int32))) (VT : Arv Z h0 a2 k2 .byte n2 (ys.map Value.int) (.int (0 : Int32))) :
    Con l Z h0 (⟨"java/lang/StringLatin1", "equals", "([B[B)Z"⟩ : MethodName) jdk_43_method_13_code 3 (some .boolean) ws ({ frames := 0, cells := 0, slots := 0, locals := 0 } : Room) #[(.ref a1), (.ref a2)] (fun v h L => v = some (.int (eqF xs ys)) ∧ Fr Z.heap.size L ∧ h = h0) := by
  by_cases hne : n1 = n2
  · subst hne
    have hl : xs.length = ys.length := by omega
    rcases xs with _ | ⟨x0, _ | ⟨x1, _ | ⟨x2, t⟩⟩⟩
    · rcases ys with _ | ⟨y0, _⟩
      · obtain rfl : n1 = (0 : Int32) := own_i32 (k := 0) (by first | exact hn1 | simpa using hn1)
        exact rmL0 l Z a0 hw ws w_IDENTIFIER w_SYMBOL w_NUMBER w_STRING w_NAMED_PARAMETER w_POSITIONAL_PARAMETER w_END zc hS a1 a2 k1 k2  h0 O0 VA VT
      · simp only [List.length_cons, List.length_nil] at hl; omega
    · rcases ys with _ | ⟨y0, _ | ⟨y1, _⟩⟩
      · simp only [List.length_cons, List.length_nil] at hl; omega
      · obtain rfl : n1 = (1 : Int32) := own_i32 (k := 1) (by first | exact hn1 | simpa using hn1)
        exact rmL1 l Z a0 hw ws w_IDENTIFIER w_SYMBOL w_NUMBER w_STRING w_NAMED_PARAMETER w_POSITIONAL_PARAMETER w_END zc hS a1 a2 k1 k2 x0 y0 h0 O0 VA VT
      · simp only [List.length_cons, List.length_nil] at hl; omega
    · rcases ys with _ | ⟨y0, _ | ⟨y1, _ | ⟨y2, _⟩⟩⟩
      · simp only [List.length_cons, List.length_nil] at hl; omega
      · simp only [List.length_cons, List.length_nil] at hl; omega
      · obtain rfl : n1 = (2 : Int32) := own_i32 (k := 2) (by first | exact hn1 | simpa using hn1)
        exact rmL2 l Z a0 hw ws w_IDENTIFIER w_SYMBOL w_NUMBER w_STRING w_NAMED_PARAMETER w_POSITIONAL_PARAMETER w_END zc hS a1 a2 k1 k2 x0 x1 y0 y1 h0 O0 VA VT
      · simp only [List.length_cons, List.length_nil] at hl; omega
    · simp only [List.length_cons] at hx2; omega
  · exact rmLn l Z a0 hw ws w_IDENTIFIER w_SYMBOL w_NUMBER w_STRING w_NAMED_PARAMETER w_POSITIONAL_PARAMETER w_END zc hS a1 a2 k1 k2 n1 n2 (eqF xs ys) _ _ hne (if_neg fun q => hne (Int32.toInt_inj.mp (by rw [hn1, hn2, q]))) h0 O0 VA VT
theorem d9_0 : decode jdk_42_method_66_code 0 = .ok (.aload_n 0, 1) := by decide +kernel
theorem d9_1 : decode jdk_42_method_66_code 1 = .ok (.aload_n 1, 1) := by decide +kernel
theorem d9_2 : decode jdk_42_method_66_code 2 = .ok (.if_acmp .ne 5, 3) := by decide +kernel
theorem d9_7 : decode jdk_42_method_66_code 7 = .ok (.aload_n 1, 1) := by decide +kernel
theorem d9_8 : decode jdk_42_method_66_code 8 = .ok (.instanceof 10, 3) := by decide +kernel
theorem d9_11 : decode jdk_42_method_66_code 11 = .ok (.ifCond .eq 43, 3) := by decide +kernel
theorem d9_14 : decode jdk_42_method_66_code 14 = .ok (.aload_n 1, 1) := by decide +kernel
theorem d9_15 : decode jdk_42_method_66_code 15 = .ok (.checkcast 10, 3) := by decide +kernel
theorem d9_18 : decode jdk_42_method_66_code 18 = .ok (.astore_n 2, 1) := by decide +kernel
theorem d9_19 : decode jdk_42_method_66_code 19 = .ok (.getstatic 38, 3) := by decide +kernel
theorem d9_22 : decode jdk_42_method_66_code 22 = .ok (.ifCond .eq 14, 3) := by decide +kernel
theorem d9_25 : decode jdk_42_method_66_code 25 = .ok (.aload_n 0, 1) := by decide +kernel
theorem d9_26 : decode jdk_42_method_66_code 26 = .ok (.getfield 15, 3) := by decide +kernel
theorem d9_29 : decode jdk_42_method_66_code 29 = .ok (.aload_n 2, 1) := by decide +kernel
theorem d9_30 : decode jdk_42_method_66_code 30 = .ok (.getfield 15, 3) := by decide +kernel
theorem d9_33 : decode jdk_42_method_66_code 33 = .ok (.if_icmp .ne 21, 3) := by decide +kernel
theorem d9_36 : decode jdk_42_method_66_code 36 = .ok (.aload_n 0, 1) := by decide +kernel
theorem d9_37 : decode jdk_42_method_66_code 37 = .ok (.getfield 9, 3) := by decide +kernel
theorem d9_40 : decode jdk_42_method_66_code 40 = .ok (.aload_n 2, 1) := by decide +kernel
theorem d9_41 : decode jdk_42_method_66_code 41 = .ok (.getfield 9, 3) := by decide +kernel
theorem d9_44 : decode jdk_42_method_66_code 44 = .ok (.invokestatic 541, 3) := by decide +kernel
theorem d9_47 : decode jdk_42_method_66_code 47 = .ok (.ifCond .eq 7, 3) := by decide +kernel
theorem d9_50 : decode jdk_42_method_66_code 50 = .ok (.iconst 1, 1) := by decide +kernel
theorem d9_51 : decode jdk_42_method_66_code 51 = .ok (.goto 4, 3) := by decide +kernel
theorem d9_54 : decode jdk_42_method_66_code 54 = .ok (.iconst 0, 1) := by decide +kernel
theorem d9_55 : decode jdk_42_method_66_code 55 = .ok (.ireturn, 1) := by decide +kernel
theorem pd_12107 : parseMethodDescriptor "([B[B)Z" = some ⟨[(.array .byte), (.array .byte)], some .boolean⟩ := by decide +kernel
theorem ef_rmEq (m : MethodId) (x0 : Addr) (x1 : Addr) : entryFrame m #[(.ref x0), (.ref x1)] 3 = mkF m 0 #[.val (.ref x0), .val (.ref x1), .unset] [] := by first | (simp [entryFrame, mkF, argsToLocals, Value.category]; done) | rfl
set_option maxRecDepth 65536 in
set_option maxHeartbeats 400000000 in
theorem rmEq (l : Launch) (Z : State) (a0 : Array Value) (hw : ∀ d ∈ tables_1, d.before a0 Z = true) (ws : List Jvm.Cond) (w_IDENTIFIER : Addr) (w_SYMBOL : Addr) (w_NUMBER : Addr) (w_STRING : Addr) (w_NAMED_PARAMETER : Addr) (w_POSITIONAL_PARAMETER : Addr) (w_END : Addr) (zc : Int32) (hS : SF Z w_IDENTIFIER w_SYMBOL w_NUMBER w_STRING w_NAMED_PARAMETER w_POSITIONAL_PARAMETER w_END zc) (a1 a2 b1 b2 : Addr) (k1 k2 : ClassId) (n1 n2 : Int32) (xs ys : List Int32) (hn1 : n1.toInt = xs.length) (hn2 : n2.toInt = ys.length) (hx2 : xs.length ≤ 2) (h0 : Heap) (O0 : Ext Z.heap h0) (n12 : a1 ≠ a2) (E1 : Exa Z h0 a1 "java/lang/String") (C1 : Fld Z h0 a1 "java/lang/String" "coder" "B" (.int 0)) (V1 : Fld Z h0 a1 "java/lang/String" "value" "[B" (.ref b1)) (A1 : Arv Z h0 b1 k1 .byte n1 (xs.map Value.int) (.int (0 : Int32))) (E2 : Exa Z h0 a2 "java/lang/String") (C2 : Fld Z h0 a2 "java/lang/String" "coder" "B" (.int 0)) (V2 : Fld Z h0 a2 "java/lang/String" "value" "[B" (.ref b2)) (A2 : Arv Z h0 b2 k2 .byte n2 (ys.map Value.int) (.int (0 : Int32))) :
    Con l Z h0 (⟨"java/lang/String", "equals", "(Ljava/lang/Object;)Z"⟩ : MethodName) jdk_42_method_66_code 3 (some .boolean) ws ({ frames := 1, cells := 0, slots := 0, locals := 20 } : Room) #[(.ref a1), (.ref a2)] (fun v h L => v = some (.int (eqF xs ys)) ∧ Fr Z.heap.size L ∧ h = h0) := by
  obtain ⟨S_IDENTIFIER, E_IDENTIFIER, S_SYMBOL, E_SYMBOL, F_IDENTIFIER_ordinal, F_SYMBOL_ordinal, S_NUMBER, E_NUMBER, F_NUMBER_ordinal, S_STRING, E_STRING, F_STRING_ordinal, S_NAMED_PARAMETER, E_NAMED_PARAMETER, F_NAMED_PARAMETER_ordinal, S_POSITIONAL_PARAMETER, E_POSITIONAL_PARAMETER, F_POSITIONAL_PARAMETER_ordinal, S_END, E_END, F_END_ordinal, S_COMPACT_STRINGS, hzc⟩ := id hS
  refine own_con (plainFor_of_name pn_398670) ?_
  intro p e s m below meth c T0 X0 hx hby hml hown hnm hret hlk hZ e0
  have hown : s.vm.findClass "java/lang/String" = some m.cls := hown
  have N0 := Fr.nil Z.heap.size
  refine Go.st (S' := T0.setTop (mkF m 0 #[.val (.ref a1), .val (.ref a2), .unset] [])) (fun _ k => castTop (ef_rmEq m a1 a2) k) ?_
  refine Go.st (S' := T0.setTop (mkF m 1 #[.val (.ref a1), .val (.ref a2), .unset] [(.ref a1)])) (fun _ k => XS.aloadN X0.here hx rfl (hb hby d9_0) rfl rfl k) ?_
  refine Go.st (S' := T0.setTop (mkF m 2 #[.val (.ref a1), .val (.ref a2), .unset] [(.ref a2), (.ref a1)])) (fun _ k => XS.aloadN X0.here hx rfl (hb hby d9_1) rfl rfl k) ?_
  refine Go.st (S' := T0.setTop (mkF m 7 #[.val (.ref a1), .val (.ref a2), .unset] [])) (fun _ k => Jvm.RoadKit.acmp (g := (mkF m 2 #[.val (.ref a1), .val (.ref a2), .unset] [(.ref a2), (.ref a1)])) X0 hx rfl rfl rfl (pc0 := 2) (pc' := 7) (same := false) rfl (hb hby d9_2) rfl (decide_eq_false fun q => n12 (Value.ref.inj q)) (by decide) (by decide) k) ?_
  refine Go.st (S' := T0.setTop (mkF m 8 #[.val (.ref a1), .val (.ref a2), .unset] [(.ref a2)])) (fun _ k => XS.aloadN X0.here hx rfl (hb hby d9_7) rfl rfl k) ?_
  obtain ⟨T65, X65, e65, st65⟩ := instY X0 hx hZ hown (ww hw 64 rfl) e0 (Ins.self E2) (g := (mkF m 8 #[.val (.ref a1), .val (.ref a2), .unset] [(.ref a2)])) rfl rfl (hb hby d9_8)
  refine Go.st (S' := T65.setTop (mkF m 11 #[.val (.ref a1), .val (.ref a2), .unset] [(.int (1 : Int32))])) st65 ?_
  refine Go.st (S' := T65.setTop (mkF m 14 #[.val (.ref a1), .val (.ref a2), .unset] [])) (fun _ k => XS.ifNo X65.here hx rfl (hb hby d9_11) rfl ((if0 _ _).trans (feq (by decide)).1) k) ?_
  refine Go.st (S' := T65.setTop (mkF m 15 #[.val (.ref a1), .val (.ref a2), .unset] [(.ref a2)])) (fun _ k => XS.aloadN X65.here hx rfl (hb hby d9_14) rfl rfl k) ?_
  obtain ⟨T66, X66, e66, st66⟩ := castY X65 hx hZ hown (ww hw 64 rfl) e65 (Ins.self E2) (g := (mkF m 15 #[.val (.ref a1), .val (.ref a2), .unset] [(.ref a2)])) rfl rfl (hb hby d9_15)
  refine Go.st (S' := T66.setTop (mkF m 18 #[.val (.ref a1), .val (.ref a2), .unset] [(.ref a2)])) st66 ?_
  refine Go.st (S' := T66.setTop (mkF m 19 #[.val (.ref a1), .val (.ref a2), .val (.ref a2)] [])) (fun _ k => XS.astoreN X66.here hx rfl (hb hby d9_18) rfl rfl (l' := #[.val (.ref a1), .val (.ref a2), .val (.ref a2)]) rfl k) ?_
  obtain ⟨T67, X67, e67, st67⟩ := getS2 X66 hx hZ hown (host := "") (Or.inl (ww hw 65 rfl)) Via.refl e66 (S_COMPACT_STRINGS.ext O0) (g := (mkF m 19 #[.val (.ref a1), .val (.ref a2), .val (.ref a2)] [])) rfl (hb hby d9_19)
  refine Go.st (S' := T67.setTop (mkF m 22 #[.val (.ref a1), .val (.ref a2), .val (.ref a2)] [(.int zc)])) st67 ?_
  refine Go.st (S' := T67.setTop (mkF m 25 #[.val (.ref a1), .val (.ref a2), .val (.ref a2)] [])) (fun _ k => XS.ifNo X67.here hx rfl (hb hby d9_22) rfl ((if0 _ _).trans (feq hzc).1) k) ?_
  refine Go.st (S' := T67.setTop (mkF m 26 #[.val (.ref a1), .val (.ref a2), .val (.ref a2)] [(.ref a1)])) (fun _ k => XS.aloadN X67.here hx rfl (hb hby d9_25) rfl rfl k) ?_
  obtain ⟨T68, X68, e68, st68⟩ := getF X67 hx hZ hown (host := "") (Or.inl (ww hw 26 rfl)) Via.refl e67 C1 (g := (mkF m 26 #[.val (.ref a1), .val (.ref a2), .val (.ref a2)] [(.ref a1)])) rfl rfl (hb hby d9_26)
  refine Go.st (S' := T68.setTop (mkF m 29 #[.val (.ref a1), .val (.ref a2), .val (.ref a2)] [(.int (0 : Int32))])) st68 ?_
  refine Go.st (S' := T68.setTop (mkF m 30 #[.val (.ref a1), .val (.ref a2), .val (.ref a2)] [(.ref a2), (.int (0 : Int32))])) (fun _ k => XS.aloadN X68.here hx rfl (hb hby d9_29) rfl rfl k) ?_
  obtain ⟨T69, X69, e69, st69⟩ := getF X68 hx hZ hown (host := "") (Or.inl (ww hw 26 rfl)) Via.refl e68 C2 (g := (mkF m 30 #[.val (.ref a1), .val (.ref a2), .val (.ref a2)] [(.ref a2), (.int (0 : Int32))])) rfl rfl (hb hby d9_30)
  refine Go.st (S' := T69.setTop (mkF m 33 #[.val (.ref a1), .val (.ref a2), .val (.ref a2)] [(.int (0 : Int32)), (.int (0 : Int32))])) st69 ?_
  refine Go.st (S' := T69.setTop (mkF m 36 #[.val (.ref a1), .val (.ref a2), .val (.ref a2)] [])) (fun _ k => XS.icmpNo X69.here hx rfl (hb hby d9_33) rfl (teq (by decide)).2 k) ?_
  refine Go.st (S' := T69.setTop (mkF m 37 #[.val (.ref a1), .val (.ref a2), .val (.ref a2)] [(.ref a1)])) (fun _ k => XS.aloadN X69.here hx rfl (hb hby d9_36) rfl rfl k) ?_
  obtain ⟨T70, X70, e70, st70⟩ := getF X69 hx hZ hown (host := "") (Or.inl (ww hw 25 rfl)) Via.refl e69 V1 (g := (mkF m 37 #[.val (.ref a1), .val (.ref a2), .val (.ref a2)] [(.ref a1)])) rfl rfl (hb hby d9_37)
  refine Go.st (S' := T70.setTop (mkF m 40 #[.val (.ref a1), .val (.ref a2), .val (.ref a2)] [(.ref b1)])) st70 ?_
  refine Go.st (S' := T70.setTop (mkF m 41 #[.val (.ref a1), .val (.ref a2), .val (.ref a2)] [(.ref a2), (.ref b1)])) (fun _ k => XS.aloadN X70.here hx rfl (hb hby d9_40) rfl rfl k) ?_
  obtain ⟨T71, X71, e71, st71⟩ := getF X70 hx hZ hown (host := "") (Or.inl (ww hw 25 rfl)) Via.refl e70 V2 (g := (mkF m 41 #[.val (.ref a1), .val (.ref a2), .val (.ref a2)] [(.ref a2), (.ref b1)])) rfl rfl (hb hby d9_41)
  refine Go.st (S' := T71.setTop (mkF m 44 #[.val (.ref a1), .val (.ref a2), .val (.ref a2)] [(.ref b2), (.ref b1)])) st71 ?_
  obtain ⟨_, T72, L72, X72, ⟨rfl, Nq72, eq72⟩, st72⟩ := own_callS X71 hx hZ hown (ww hw 66 rfl) (ww hw 67 rfl) (ww hw 68 rfl) (ww hw 69 rfl) (by decide) e71 (rmLE l Z a0 hw [] w_IDENTIFIER w_SYMBOL w_NUMBER w_STRING w_NAMED_PARAMETER w_POSITIONAL_PARAMETER w_END zc hS b1 b2 k1 k2 n1 n2 xs ys hn1 hn2 hx2 h0 O0 A1 A2) 0 (by decide) (by decide) (by decide) (by decide) (g := (mkF m 44 #[.val (.ref a1), .val (.ref a2), .val (.ref a2)] [(.ref b2), (.ref b1)])) rfl (by rw [hml]; rfl) [(.ref b1), (.ref b2)] [] rfl (lenOf pd_12107 rfl) rfl (by show 2 * 0 + _ ≤ _; exact Nat.le_of_eq rfl) (hb hby d9_44)
  have N72 := Fr.app N0 Nq72
  refine Go.st (S' := T72.setTop (mkF m 47 #[.val (.ref a1), .val (.ref a2), .val (.ref a2)] [(.int (eqF xs ys))])) st72 ?_
  by_cases hc47 : (eqF xs ys) = (0 : Int32)
  · refine Go.st (S' := T72.setTop (mkF m 54 #[.val (.ref a1), .val (.ref a2), .val (.ref a2)] [])) (fun _ k => XS.ifYes X72.here hx rfl (pc0 := 47) (pc' := 54) rfl (hb hby d9_47) rfl ((if0 _ _).trans (teq hc47).1) (by decide) (by decide) k) ?_
    refine Go.st (S' := T72.setTop (mkF m 55 #[.val (.ref a1), .val (.ref a2), .val (.ref a2)] [(.int (0 : Int32))])) (fun _ k => XS.iconst X72.here hx rfl (hb hby d9_54) k) ?_
    exact own_retN X72 hx hlk hret (by simp) (hb hby d9_55) eq72 ⟨congrArg (fun z => some (Value.int z)) (own_bo0.trans hc47.symm), N72, rfl⟩ (by decide) (by decide)
  · refine Go.st (S' := T72.setTop (mkF m 50 #[.val (.ref a1), .val (.ref a2), .val (.ref a2)] [])) (fun _ k => XS.ifNo X72.here hx rfl (hb hby d9_47) rfl ((if0 _ _).trans (feq hc47).1) k) ?_
    refine Go.st (S' := T72.setTop (mkF m 51 #[.val (.ref a1), .val (.ref a2), .val (.ref a2)] [(.int (1 : Int32))])) (fun _ k => XS.iconst X72.here hx rfl (hb hby d9_50) k) ?_
    refine Go.st (S' := T72.setTop (mkF m 55 #[.val (.ref a1), .val (.ref a2), .val (.ref a2)] [(.int (1 : Int32))])) (fun _ k => XS.goto X72.here hx rfl (pc0 := 51) (pc' := 55) rfl (hb hby d9_51) (by decide) (by decide) k) ?_
    exact own_retN X72 hx hlk hret (by simp) (hb hby d9_55) eq72 ⟨congrArg (fun z => some (Value.int z)) (own_bo1.trans (own_eq1' hc47).symm), N72, rfl⟩ (by decide) (by decide)
theorem d7_0 : decode jdk_30_method_1_code 0 = .ok (.aload_n 0, 1) := by decide +kernel
theorem d7_1 : decode jdk_30_method_1_code 1 = .ok (.invokespecial 1, 3) := by decide +kernel
theorem d7_4 : decode jdk_30_method_1_code 4 = .ok (.return_, 1) := by decide +kernel
theorem pn_921419 : plainName "java/lang/Record" = true := by first | (simp [plainName, overriddenIn]; done) | decide +kernel
theorem ef_rmRec (m : MethodId) (x0 : Addr) : entryFrame m #[(.ref x0)] 1 = mkF m 0 #[.val (.ref x0)] [] := by first | (simp [entryFrame, mkF, argsToLocals, Value.category]; done) | rfl
set_option maxRecDepth 65536 in
set_option maxHeartbeats 400000000 in
theorem rmRec (l : Launch) (Z : State) (a0 : Array Value) (hw : ∀ d ∈ tables_1, d.before a0 Z = true) (ws : List Jvm.Cond) (w_IDENTIFIER : Addr) (w_SYMBOL : Addr) (w_NUMBER : Addr) (w_STRING : Addr) (w_NAMED_PARAMETER : Addr) (w_POSITIONAL_PARAMETER : Addr) (w_END : Addr) (zc : Int32) (hS : SF Z w_IDENTIFIER w_SYMBOL w_NUMBER w_STRING w_NAMED_PARAMETER w_POSITIONAL_PARAMETER w_END zc) (a1 : Addr) (h0 : Heap) (O0 : Ext Z.heap h0)  :
    Con l Z h0 (⟨"java/lang/Record", "<init>", "()V"⟩ : MethodName) jdk_30_method_1_code 1 none ws ({ frames := 1, cells := 0, slots := 0, locals := 12 } : Room) #[(.ref a1)] (fun v h L => v = none ∧ Fr Z.heap.size L ∧ h = h0) := by
  obtain ⟨S_IDENTIFIER, E_IDENTIFIER, S_SYMBOL, E_SYMBOL, F_IDENTIFIER_ordinal, F_SYMBOL_ordinal, S_NUMBER, E_NUMBER, F_NUMBER_ordinal, S_STRING, E_STRING, F_STRING_ordinal, S_NAMED_PARAMETER, E_NAMED_PARAMETER, F_NAMED_PARAMETER_ordinal, S_POSITIONAL_PARAMETER, E_POSITIONAL_PARAMETER, F_POSITIONAL_PARAMETER_ordinal, S_END, E_END, F_END_ordinal, S_COMPACT_STRINGS, hzc⟩ := id hS
  refine own_con (plainFor_of_name pn_921419) ?_
  intro p e s m below meth c T0 X0 hx hby hml hown hnm hret hlk hZ e0
  have hown : s.vm.findClass "java/lang/Record" = some m.cls := hown
  have N0 := Fr.nil Z.heap.size
  refine Go.st (S' := T0.setTop (mkF m 0 #[.val (.ref a1)] [])) (fun _ k => castTop (ef_rmRec m a1) k) ?_
  refine Go.st (S' := T0.setTop (mkF m 1 #[.val (.ref a1)] [(.ref a1)])) (fun _ k => XS.aloadN X0.here hx rfl (hb hby d7_0) rfl rfl k) ?_
  obtain ⟨T73, X73, e73, st73⟩ := initO X0 hx hZ hown (ww hw 44 rfl) (ww hw 17 rfl) (ww hw 18 rfl) e0 (g := (mkF m 1 #[.val (.ref a1)] [(.ref a1)])) rfl (by rw [hml]; rfl) rfl (hb hby d7_1) (by decide) (W := 0) (by show 2 * 0 + _ ≤ _; exact Nat.le_of_eq rfl) (by decide)
  refine Go.st (S' := T73.setTop (mkF m 4 #[.val (.ref a1)] [])) st73 ?_
  exact own_retV X73 hx hlk hret (hb hby d7_4) e73 ⟨rfl, N0, rfl⟩ (by decide) (by decide)
theorem d6_0 : decode prog_20_method_1_code 0 = .ok (.aload_n 0, 1) := by decide +kernel
theorem d6_1 : decode prog_20_method_1_code 1 = .ok (.invokespecial 1, 3) := by decide +kernel
theorem d6_4 : decode prog_20_method_1_code 4 = .ok (.aload_n 0, 1) := by decide +kernel
theorem d6_5 : decode prog_20_method_1_code 5 = .ok (.aload_n 1, 1) := by decide +kernel
theorem d6_6 : decode prog_20_method_1_code 6 = .ok (.putfield 7, 3) := by decide +kernel
theorem d6_9 : decode prog_20_method_1_code 9 = .ok (.aload_n 0, 1) := by decide +kernel
theorem d6_10 : decode prog_20_method_1_code 10 = .ok (.aload_n 2, 1) := by decide +kernel
theorem d6_11 : decode prog_20_method_1_code 11 = .ok (.putfield 13, 3) := by decide +kernel
theorem d6_14 : decode prog_20_method_1_code 14 = .ok (.aload_n 0, 1) := by decide +kernel
theorem d6_15 : decode prog_20_method_1_code 15 = .ok (.iload_n 3, 1) := by decide +kernel
theorem d6_16 : decode prog_20_method_1_code 16 = .ok (.putfield 17, 3) := by decide +kernel
theorem d6_19 : decode prog_20_method_1_code 19 = .ok (.return_, 1) := by decide +kernel
theorem pd_428486 : parseMethodDescriptor "()V" = some ⟨[], none⟩ := by decide +kernel
theorem pf_451606 : parseFieldDescriptor "Lcom/example/instances_to_rows/instancestorows/query/Lexer$Kind;" = some (.object "com/example/instances_to_rows/instancestorows/query/Lexer$Kind") := by decide +kernel
theorem sn_196659_text_kind {Z : State} {a0 : Array Value} (hw : ∀ d ∈ tables_1, d.before a0 Z = true) : Jvm.RoadKit.slotOf Z "com/example/instances_to_rows/instancestorows/query/Lexer$Token" "text" "Ljava/lang/String;" ≠ Jvm.RoadKit.slotOf Z "com/example/instances_to_rows/instancestorows/query/Lexer$Token" "kind" "Lcom/example/instances_to_rows/instancestorows/query/Lexer$Kind;" := slot_ne (Or.inr (ww hw 48 rfl)) (Or.inr (ww hw 46 rfl)) (by decide +kernel) (t := (.object "java/lang/String")) (t' := (.object "com/example/instances_to_rows/instancestorows/query/Lexer$Kind")) (by decide +kernel) (by decide +kernel)
theorem pf_441095 : parseFieldDescriptor "Ljava/lang/String;" = some (.object "java/lang/String") := by decide +kernel
theorem sn_196659_position_kind {Z : State} {a0 : Array Value} (hw : ∀ d ∈ tables_1, d.before a0 Z = true) : Jvm.RoadKit.slotOf Z "com/example/instances_to_rows/instancestorows/query/Lexer$Token" "position" "I" ≠ Jvm.RoadKit.slotOf Z "com/example/instances_to_rows/instancestorows/query/Lexer$Token" "kind" "Lcom/example/instances_to_rows/instancestorows/query/Lexer$Kind;" := slot_ne (Or.inr (ww hw 50 rfl)) (Or.inr (ww hw 46 rfl)) (by decide +kernel) (t := .int) (t' := (.object "com/example/instances_to_rows/instancestorows/query/Lexer$Kind")) (by decide +kernel) (by decide +kernel)
theorem sn_196659_position_text {Z : State} {a0 : Array Value} (hw : ∀ d ∈ tables_1, d.before a0 Z = true) : Jvm.RoadKit.slotOf Z "com/example/instances_to_rows/instancestorows/query/Lexer$Token" "position" "I" ≠ Jvm.RoadKit.slotOf Z "com/example/instances_to_rows/instancestorows/query/Lexer$Token" "text" "Ljava/lang/String;" := slot_ne (Or.inr (ww hw 50 rfl)) (Or.inr (ww hw 48 rfl)) (by decide +kernel) (t := .int) (t' := (.object "java/lang/String")) (by decide +kernel) (by decide +kernel)
theorem pf_990 : parseFieldDescriptor "I" = some .int := by decide +kernel
theorem sn_196659_kind_text {Z : State} {a0 : Array Value} (hw : ∀ d ∈ tables_1, d.before a0 Z = true) : Jvm.RoadKit.slotOf Z "com/example/instances_to_rows/instancestorows/query/Lexer$Token" "kind" "Lcom/example/instances_to_rows/instancestorows/query/Lexer$Kind;" ≠ Jvm.RoadKit.slotOf Z "com/example/instances_to_rows/instancestorows/query/Lexer$Token" "text" "Ljava/lang/String;" := slot_ne (Or.inr (ww hw 46 rfl)) (Or.inr (ww hw 48 rfl)) (by decide +kernel) (t := (.object "com/example/instances_to_rows/instancestorows/query/Lexer$Kind")) (t' := (.object "java/lang/String")) (by decide +kernel) (by decide +kernel)
theorem sn_196659_kind_position {Z : State} {a0 : Array Value} (hw : ∀ d ∈ tables_1, d.before a0 Z = true) : Jvm.RoadKit.slotOf Z "com/example/instances_to_rows/instancestorows/query/Lexer$Token" "kind" "Lcom/example/instances_to_rows/instancestorows/query/Lexer$Kind;" ≠ Jvm.RoadKit.slotOf Z "com/example/instances_to_rows/instancestorows/query/Lexer$Token" "position" "I" := slot_ne (Or.inr (ww hw 46 rfl)) (Or.inr (ww hw 50 rfl)) (by decide +kernel) (t := (.object "com/example/instances_to_rows/instancestorows/query/Lexer$Kind")) (t' := .int) (by decide +kernel) (by decide +kernel)
theorem sn_196659_text_position {Z : State} {a0 : Array Value} (hw : ∀ d ∈ tables_1, d.before a0 Z = true) : Jvm.RoadKit.slotOf Z "com/example/instances_to_rows/instancestorows/query/Lexer$Token" "text" "Ljava/lang/String;" ≠ Jvm.RoadKit.slotOf Z "com/example/instances_to_rows/instancestorows/query/Lexer$Token" "position" "I" := slot_ne (Or.inr (ww hw 48 rfl)) (Or.inr (ww hw 50 rfl)) (by decide +kernel) (t := (.object "java/lang/String")) (t' := .int) (by decide +kernel) (by decide +kernel)
theorem pn_58139 : plainName "com/example/instances_to_rows/instancestorows/query/Lexer$Token" = true := by first | (simp [plainName, overriddenIn]; done) | decide +kernel
theorem ef_rmTk (m : MethodId) (x0 : Addr) (x1 : Addr) (x2 : Addr) (x3 : Int32) : entryFrame m #[(.ref x0), (.ref x1), (.ref x2), (.int x3)] 4 = mkF m 0 #[.val (.ref x0), .val (.ref x1), .val (.ref x2), .val (.int x3)] [] := by first | (simp [entryFrame, mkF, argsToLocals, Value.category]; done) | rfl
set_option maxRecDepth 65536 in
set_option maxHeartbeats 400000000 in
theorem rmTk (l : Launch) (Z : State) (a0 : Array Value) (hw : ∀ d ∈ tables_1, d.before a0 Z = true) (ws : List Jvm.Cond) (w_IDENTIFIER : Addr) (w_SYMBOL : Addr) (w_NUMBER : Addr) (w_STRING : Addr) (w_NAMED_PARAMETER : Addr) (w_POSITIONAL_PARAMETER : Addr) (w_END : Addr) (zc : Int32) (hS : SF Z w_IDENTIFIER w_SYMBOL w_NUMBER w_STRING w_NAMED_PARAMETER w_POSITIONAL_PARAMETER w_END zc) (a1 : Addr) (a2 : Addr) (a3 : Addr) (p4 : Int32) (h0 : Heap) (O0 : Ext Z.heap h0) (ga : Z.heap.size ≤ a1) (EA : Exa Z h0 a1 "com/example/instances_to_rows/instancestorows/query/Lexer$Token") (F_kind : Fld Z h0 a1 "com/example/instances_to_rows/instancestorows/query/Lexer$Token" "kind" "Lcom/example/instances_to_rows/instancestorows/query/Lexer$Kind;" .null) (F_text : Fld Z h0 a1 "com/example/instances_to_rows/instancestorows/query/Lexer$Token" "text" "Ljava/lang/String;" .null) (F_position : Fld Z h0 a1 "com/example/instances_to_rows/instancestorows/query/Lexer$Token" "position" "I" (.int (0 : Int32))) :
    Con l Z h0 (⟨"com/example/instances_to_rows/instancestorows/query/Lexer$Token", "<init>", "(Lcom/example/instances_to_rows/instancestorows/query/Lexer$Kind;Ljava/lang/String;I)V"⟩ : MethodName) prog_20_method_1_code 4 none ws ({ frames := 2, cells := 0, slots := 0, locals := 25 } : Room) #[(.ref a1), (.ref a2), (.ref a3), (.int p4)] (fun v h L => v = none ∧ Fr Z.heap.size L ∧ Keep h0 h [a1] ∧ Fld Z h a1 "com/example/instances_to_rows/instancestorows/query/Lexer$Token" "kind" "Lcom/example/instances_to_rows/instancestorows/query/Lexer$Kind;" (.ref a2) ∧ Fld Z h a1 "com/example/instances_to_rows/instancestorows/query/Lexer$Token" "text" "Ljava/lang/String;" (.ref a3)) := by
  obtain ⟨S_IDENTIFIER, E_IDENTIFIER, S_SYMBOL, E_SYMBOL, F_IDENTIFIER_ordinal, F_SYMBOL_ordinal, S_NUMBER, E_NUMBER, F_NUMBER_ordinal, S_STRING, E_STRING, F_STRING_ordinal, S_NAMED_PARAMETER, E_NAMED_PARAMETER, F_NAMED_PARAMETER_ordinal, S_POSITIONAL_PARAMETER, E_POSITIONAL_PARAMETER, F_POSITIONAL_PARAMETER_ordinal, S_END, E_END, F_END_ordinal, S_COMPACT_STRINGS, hzc⟩ := id hS
  refine own_con (plainFor_of_name pn_58139) ?_
  intro p e s m below meth c T0 X0 hx hby hml hown hnm hret hlk hZ e0
  have hown : s.vm.findClass "com/example/instances_to_rows/instancestorows/query/Lexer$Token" = some m.cls := hown
  have N0 := Fr.nil Z.heap.size
  have KP0 : Keep h0 h0 [a1] := Keep.refl h0 _
  refine Go.st (S' := T0.setTop (mkF m 0 #[.val (.ref a1), .val (.ref a2), .val (.ref a3), .val (.int p4)] [])) (fun _ k => castTop (ef_rmTk m a1 a2 a3 p4) k) ?_
  refine Go.st (S' := T0.setTop (mkF m 1 #[.val (.ref a1), .val (.ref a2), .val (.ref a3), .val (.int p4)] [(.ref a1)])) (fun _ k => XS.aloadN X0.here hx rfl (hb hby d6_0) rfl rfl k) ?_
  obtain ⟨_, T74, L74, X74, ⟨rfl, Nq74, eq74⟩, st74⟩ := own_callI X0 hx hZ rfl hown (ww hw 39 rfl) (ww hw 40 rfl) (ww hw 42 rfl) (ww hw 43 rfl) (by decide) e0 (rmRec l Z a0 hw [] w_IDENTIFIER w_SYMBOL w_NUMBER w_STRING w_NAMED_PARAMETER w_POSITIONAL_PARAMETER w_END zc hS a1 h0 O0) 0 (by decide) (by decide) (by decide) (by decide) (g := (mkF m 1 #[.val (.ref a1), .val (.ref a2), .val (.ref a3), .val (.int p4)] [(.ref a1)])) rfl (by rw [hml]; rfl) [] [] rfl (lenOf pd_428486 rfl) rfl (by show 2 * 0 + _ ≤ _; exact Nat.le_of_eq rfl) (hb hby d6_1)
  have N74 := Fr.app N0 Nq74
  refine Go.st (S' := T74.setTop (mkF m 4 #[.val (.ref a1), .val (.ref a2), .val (.ref a3), .val (.int p4)] [])) st74 ?_
  refine Go.st (S' := T74.setTop (mkF m 5 #[.val (.ref a1), .val (.ref a2), .val (.ref a3), .val (.int p4)] [(.ref a1)])) (fun _ k => XS.aloadN X74.here hx rfl (hb hby d6_4) rfl rfl k) ?_
  refine Go.st (S' := T74.setTop (mkF m 6 #[.val (.ref a1), .val (.ref a2), .val (.ref a3), .val (.int p4)] [(.ref a2), (.ref a1)])) (fun _ k => XS.aloadN X74.here hx rfl (hb hby d6_5) rfl rfl k) ?_
  obtain ⟨T75, h75, X75, e75, W75, st75⟩ := putF X74 hx hZ hown (host := "") (Or.inl (ww hw 45 rfl)) Via.refl eq74 F_kind EA (Or.inr ⟨(ww hw 46 rfl), rfl, hnm⟩) (ww hw 28 rfl) (ty := (.object "com/example/instances_to_rows/instancestorows/query/Lexer$Kind")) pf_451606 rfl rfl (g := (mkF m 6 #[.val (.ref a1), .val (.ref a2), .val (.ref a3), .val (.int p4)] [(.ref a2), (.ref a1)])) rfl rfl (hb hby d6_6)
  have N75 := Fr.snoc X75 N74 ga
  have Fw75 := F_kind.same W75
  have O75 : Ext Z.heap h75 := own_Ext.wr O0 W75 ga
  have KP75 : Keep h0 h75 [a1] := KP0.wr W75 (Or.inl (List.mem_of_getElem? (i := 0) rfl))
  refine Go.st (S' := T75.setTop (mkF m 9 #[.val (.ref a1), .val (.ref a2), .val (.ref a3), .val (.int p4)] [])) st75 ?_
  refine Go.st (S' := T75.setTop (mkF m 10 #[.val (.ref a1), .val (.ref a2), .val (.ref a3), .val (.int p4)] [(.ref a1)])) (fun _ k => XS.aloadN X75.here hx rfl (hb hby d6_9) rfl rfl k) ?_
  refine Go.st (S' := T75.setTop (mkF m 11 #[.val (.ref a1), .val (.ref a2), .val (.ref a3), .val (.int p4)] [(.ref a3), (.ref a1)])) (fun _ k => XS.aloadN X75.here hx rfl (hb hby d6_10) rfl rfl k) ?_
  obtain ⟨T76, h76, X76, e76, W76, st76⟩ := putF X75 hx hZ hown (host := "") (Or.inl (ww hw 47 rfl)) Via.refl e75 (F_text.other W75 (Or.inr (sn_196659_text_kind hw))) (EA.wr W75) (Or.inr ⟨(ww hw 48 rfl), rfl, hnm⟩) (ww hw 28 rfl) (ty := (.object "java/lang/String")) pf_441095 rfl rfl (g := (mkF m 11 #[.val (.ref a1), .val (.ref a2), .val (.ref a3), .val (.int p4)] [(.ref a3), (.ref a1)])) rfl rfl (hb hby d6_11)
  have N76 := Fr.snoc X76 N75 ga
  have Fw76 := (F_text.other W75 (Or.inr (sn_196659_text_kind hw))).same W76
  have O76 : Ext Z.heap h76 := own_Ext.wr O75 W76 ga
  have KP76 : Keep h0 h76 [a1] := KP75.wr W76 (Or.inl (List.mem_of_getElem? (i := 0) rfl))
  refine Go.st (S' := T76.setTop (mkF m 14 #[.val (.ref a1), .val (.ref a2), .val (.ref a3), .val (.int p4)] [])) st76 ?_
  refine Go.st (S' := T76.setTop (mkF m 15 #[.val (.ref a1), .val (.ref a2), .val (.ref a3), .val (.int p4)] [(.ref a1)])) (fun _ k => XS.aloadN X76.here hx rfl (hb hby d6_14) rfl rfl k) ?_
  refine Go.st (S' := T76.setTop (mkF m 16 #[.val (.ref a1), .val (.ref a2), .val (.ref a3), .val (.int p4)] [(.int p4), (.ref a1)])) (fun _ k => XS.iloadN X76.here hx rfl (hb hby d6_15) rfl k) ?_
  obtain ⟨T77, h77, X77, e77, W77, st77⟩ := putF X76 hx hZ hown (host := "") (Or.inl (ww hw 49 rfl)) Via.refl e76 ((F_position.other W75 (Or.inr (sn_196659_position_kind hw))).other W76 (Or.inr (sn_196659_position_text hw))) ((EA.wr W75).wr W76) (Or.inr ⟨(ww hw 50 rfl), rfl, hnm⟩) (ww hw 28 rfl) (ty := .int) pf_990 rfl rfl (g := (mkF m 16 #[.val (.ref a1), .val (.ref a2), .val (.ref a3), .val (.int p4)] [(.int p4), (.ref a1)])) rfl rfl (hb hby d6_16)
  have N77 := Fr.snoc X77 N76 ga
  have Fw77 := ((F_position.other W75 (Or.inr (sn_196659_position_kind hw))).other W76 (Or.inr (sn_196659_position_text hw))).same W77
  have O77 : Ext Z.heap h77 := own_Ext.wr O76 W77 ga
  have KP77 : Keep h0 h77 [a1] := KP76.wr W77 (Or.inl (List.mem_of_getElem? (i := 0) rfl))
  refine Go.st (S' := T77.setTop (mkF m 19 #[.val (.ref a1), .val (.ref a2), .val (.ref a3), .val (.int p4)] [])) st77 ?_
  exact own_retV X77 hx hlk hret (hb hby d6_19) e77 ⟨rfl, N77, KP77, ((Fw75.other W76 (Or.inr (sn_196659_kind_text hw))).other W77 (Or.inr (sn_196659_kind_position hw))), (Fw76.other W77 (Or.inr (sn_196659_text_position hw)))⟩ (by decide) (by decide)
theorem d5_0 : decode method_2_code 0 = .ok (.iload_n 0, 1) := by decide +kernel
theorem d5_1 : decode method_2_code 1 = .ok (.ifCond .ne 7, 3) := by decide +kernel
theorem d5_4 : decode method_2_code 4 = .ok (.getstatic 7, 3) := by decide +kernel
theorem d5_7 : decode method_2_code 7 = .ok (.areturn, 1) := by decide +kernel
theorem d5_8 : decode method_2_code 8 = .ok (.iload_n 0, 1) := by decide +kernel
theorem d5_9 : decode method_2_code 9 = .ok (.iconst 1, 1) := by decide +kernel
theorem d5_10 : decode method_2_code 10 = .ok (.if_icmp .ne 7, 3) := by decide +kernel
theorem d5_13 : decode method_2_code 13 = .ok (.getstatic 13, 3) := by decide +kernel
theorem d5_16 : decode method_2_code 16 = .ok (.areturn, 1) := by decide +kernel
theorem d5_17 : decode method_2_code 17 = .ok (.iload_n 0, 1) := by decide +kernel
theorem d5_18 : decode method_2_code 18 = .ok (.iconst 2, 1) := by decide +kernel
theorem d5_19 : decode method_2_code 19 = .ok (.if_icmp .ne 7, 3) := by decide +kernel
theorem d5_22 : decode method_2_code 22 = .ok (.getstatic 16, 3) := by decide +kernel
theorem d5_25 : decode method_2_code 25 = .ok (.areturn, 1) := by decide +kernel
theorem d5_26 : decode method_2_code 26 = .ok (.iload_n 0, 1) := by decide +kernel
theorem d5_27 : decode method_2_code 27 = .ok (.iconst 3, 1) := by decide +kernel
theorem d5_28 : decode method_2_code 28 = .ok (.if_icmp .ne 7, 3) := by decide +kernel
theorem d5_31 : decode method_2_code 31 = .ok (.getstatic 19, 3) := by decide +kernel
theorem d5_34 : decode method_2_code 34 = .ok (.areturn, 1) := by decide +kernel
theorem d5_35 : decode method_2_code 35 = .ok (.iload_n 0, 1) := by decide +kernel
theorem d5_36 : decode method_2_code 36 = .ok (.iconst 4, 1) := by decide +kernel
theorem d5_37 : decode method_2_code 37 = .ok (.if_icmp .ne 7, 3) := by decide +kernel
theorem d5_40 : decode method_2_code 40 = .ok (.getstatic 22, 3) := by decide +kernel
theorem d5_43 : decode method_2_code 43 = .ok (.areturn, 1) := by decide +kernel
theorem d5_44 : decode method_2_code 44 = .ok (.iload_n 0, 1) := by decide +kernel
theorem d5_45 : decode method_2_code 45 = .ok (.iconst 5, 1) := by decide +kernel
theorem d5_46 : decode method_2_code 46 = .ok (.if_icmp .ne 7, 3) := by decide +kernel
theorem d5_49 : decode method_2_code 49 = .ok (.getstatic 25, 3) := by decide +kernel
theorem d5_52 : decode method_2_code 52 = .ok (.areturn, 1) := by decide +kernel
theorem d5_53 : decode method_2_code 53 = .ok (.getstatic 28, 3) := by decide +kernel
theorem d5_56 : decode method_2_code 56 = .ok (.areturn, 1) := by decide +kernel
theorem ef_rmKo (m : MethodId) (x0 : Int32) : entryFrame m #[(.int x0)] 1 = mkF m 0 #[.val (.int x0)] [] := by first | (simp [entryFrame, mkF, argsToLocals, Value.category]; done) | rfl
set_option maxRecDepth 65536 in
set_option maxHeartbeats 400000000 in
theorem rmKo (l : Launch) (Z : State) (a0 : Array Value) (hw : ∀ d ∈ tables_1, d.before a0 Z = true) (ws : List Jvm.Cond) (w_IDENTIFIER : Addr) (w_SYMBOL : Addr) (w_NUMBER : Addr) (w_STRING : Addr) (w_NAMED_PARAMETER : Addr) (w_POSITIONAL_PARAMETER : Addr) (w_END : Addr) (zc : Int32) (hS : SF Z w_IDENTIFIER w_SYMBOL w_NUMBER w_STRING w_NAMED_PARAMETER w_POSITIONAL_PARAMETER w_END zc) (p1 : Int32) (h0 : Heap) (O0 : Ext Z.heap h0)  :
    Con l Z h0 (⟨"com/example/instances_to_rows/instancestorows/query/TokenIsSymbolPinLaw", "kindOf", "(I)Lcom/example/instances_to_rows/instancestorows/query/Lexer$Kind;"⟩ : MethodName) method_2_code 1 (some (.object "com/example/instances_to_rows/instancestorows/query/Lexer$Kind")) ws ({ frames := 0, cells := 0, slots := 0, locals := 0 } : Room) #[(.int p1)] (fun v h L => (∃ w, v = some (.ref w) ∧ (w = w_SYMBOL ↔ p1 = 5)) ∧ Fr Z.heap.size L ∧ h = h0) := by
  obtain ⟨S_IDENTIFIER, E_IDENTIFIER, S_SYMBOL, E_SYMBOL, F_IDENTIFIER_ordinal, F_SYMBOL_ordinal, S_NUMBER, E_NUMBER, F_NUMBER_ordinal, S_STRING, E_STRING, F_STRING_ordinal, S_NAMED_PARAMETER, E_NAMED_PARAMETER, F_NAMED_PARAMETER_ordinal, S_POSITIONAL_PARAMETER, E_POSITIONAL_PARAMETER, F_POSITIONAL_PARAMETER_ordinal, S_END, E_END, F_END_ordinal, S_COMPACT_STRINGS, hzc⟩ := id hS
  refine own_con (plainFor_of_name pn_328133) ?_
  intro p e s m below meth c T0 X0 hx hby hml hown hnm hret hlk hZ e0
  have hown : s.vm.findClass "com/example/instances_to_rows/instancestorows/query/TokenIsSymbolPinLaw" = some m.cls := hown
  have N0 := Fr.nil Z.heap.size
  refine Go.st (S' := T0.setTop (mkF m 0 #[.val (.int p1)] [])) (fun _ k => castTop (ef_rmKo m p1) k) ?_
  refine Go.st (S' := T0.setTop (mkF m 1 #[.val (.int p1)] [(.int p1)])) (fun _ k => XS.iloadN X0.here hx rfl (hb hby d5_0) rfl k) ?_
  by_cases hc1 : p1 = (0 : Int32)
  · refine Go.st (S' := T0.setTop (mkF m 4 #[.val (.int p1)] [])) (fun _ k => XS.ifNo X0.here hx rfl (hb hby d5_1) rfl ((if0 _ _).trans (teq hc1).2) k) ?_
    obtain ⟨T78, X78, e78, st78⟩ := getS2 X0 hx hZ hown (host := "") (Or.inl (ww hw 33 rfl)) Via.refl e0 (S_IDENTIFIER.ext O0) (g := (mkF m 4 #[.val (.int p1)] [])) rfl (hb hby d5_4)
    refine Go.st (S' := T78.setTop (mkF m 7 #[.val (.int p1)] [(.ref w_IDENTIFIER)])) st78 ?_
    exact own_retA X78 hx hlk hret rfl rfl rfl (hb hby d5_7) e78 ⟨⟨_, rfl, ⟨fun q => absurd q (Fld.ne F_IDENTIFIER_ordinal F_SYMBOL_ordinal (fun q_ => absurd (Value.int.inj q_) (by decide))), fun q => absurd (hc1.symm.trans q) (by decide)⟩⟩, N0, rfl⟩ (by decide) (by decide)
  · refine Go.st (S' := T0.setTop (mkF m 8 #[.val (.int p1)] [])) (fun _ k => XS.ifYes X0.here hx rfl (pc0 := 1) (pc' := 8) rfl (hb hby d5_1) rfl ((if0 _ _).trans (feq hc1).2) (by decide) (by decide) k) ?_
    refine Go.st (S' := T0.setTop (mkF m 9 #[.val (.int p1)] [(.int p1)])) (fun _ k => XS.iloadN X0.here hx rfl (hb hby d5_8) rfl k) ?_
    refine Go.st (S' := T0.setTop (mkF m 10 #[.val (.int p1)] [(.int (1 : Int32)), (.int p1)])) (fun _ k => XS.iconst X0.here hx rfl (hb hby d5_9) k) ?_
    by_cases hc10 : p1 = (1 : Int32)
    · refine Go.st (S' := T0.setTop (mkF m 13 #[.val (.int p1)] [])) (fun _ k => XS.icmpNo X0.here hx rfl (hb hby d5_10) rfl (teq hc10).2 k) ?_
      obtain ⟨T79, X79, e79, st79⟩ := getS2 X0 hx hZ hown (host := "") (Or.inl (ww hw 94 rfl)) Via.refl e0 (S_STRING.ext O0) (g := (mkF m 13 #[.val (.int p1)] [])) rfl (hb hby d5_13)
      refine Go.st (S' := T79.setTop (mkF m 16 #[.val (.int p1)] [(.ref w_STRING)])) st79 ?_
      exact own_retA X79 hx hlk hret rfl rfl rfl (hb hby d5_16) e79 ⟨⟨_, rfl, ⟨fun q => absurd q (Fld.ne F_STRING_ordinal F_SYMBOL_ordinal (fun q_ => absurd (Value.int.inj q_) (by decide))), fun q => absurd (hc10.symm.trans q) (by decide)⟩⟩, N0, rfl⟩ (by decide) (by decide)
    · refine Go.st (S' := T0.setTop (mkF m 17 #[.val (.int p1)] [])) (fun _ k => XS.icmpYes X0.here hx rfl (pc0 := 10) (pc' := 17) rfl (hb hby d5_10) rfl (feq hc10).2 (by decide) (by decide) k) ?_
      refine Go.st (S' := T0.setTop (mkF m 18 #[.val (.int p1)] [(.int p1)])) (fun _ k => XS.iloadN X0.here hx rfl (hb hby d5_17) rfl k) ?_
      refine Go.st (S' := T0.setTop (mkF m 19 #[.val (.int p1)] [(.int (2 : Int32)), (.int p1)])) (fun _ k => XS.iconst X0.here hx rfl (hb hby d5_18) k) ?_
      by_cases hc19 : p1 = (2 : Int32)
      · refine Go.st (S' := T0.setTop (mkF m 22 #[.val (.int p1)] [])) (fun _ k => XS.icmpNo X0.here hx rfl (hb hby d5_19) rfl (teq hc19).2 k) ?_
        obtain ⟨T80, X80, e80, st80⟩ := getS2 X0 hx hZ hown (host := "") (Or.inl (ww hw 70 rfl)) Via.refl e0 (S_NUMBER.ext O0) (g := (mkF m 22 #[.val (.int p1)] [])) rfl (hb hby d5_22)
        refine Go.st (S' := T80.setTop (mkF m 25 #[.val (.int p1)] [(.ref w_NUMBER)])) st80 ?_
        exact own_retA X80 hx hlk hret rfl rfl rfl (hb hby d5_25) e80 ⟨⟨_, rfl, ⟨fun q => absurd q (Fld.ne F_NUMBER_ordinal F_SYMBOL_ordinal (fun q_ => absurd (Value.int.inj q_) (by decide))), fun q => absurd (hc19.symm.trans q) (by decide)⟩⟩, N0, rfl⟩ (by decide) (by decide)
      · refine Go.st (S' := T0.setTop (mkF m 26 #[.val (.int p1)] [])) (fun _ k => XS.icmpYes X0.here hx rfl (pc0 := 19) (pc' := 26) rfl (hb hby d5_19) rfl (feq hc19).2 (by decide) (by decide) k) ?_
        refine Go.st (S' := T0.setTop (mkF m 27 #[.val (.int p1)] [(.int p1)])) (fun _ k => XS.iloadN X0.here hx rfl (hb hby d5_26) rfl k) ?_
        refine Go.st (S' := T0.setTop (mkF m 28 #[.val (.int p1)] [(.int (3 : Int32)), (.int p1)])) (fun _ k => XS.iconst X0.here hx rfl (hb hby d5_27) k) ?_
        by_cases hc28 : p1 = (3 : Int32)
        · refine Go.st (S' := T0.setTop (mkF m 31 #[.val (.int p1)] [])) (fun _ k => XS.icmpNo X0.here hx rfl (hb hby d5_28) rfl (teq hc28).2 k) ?_
          obtain ⟨T81, X81, e81, st81⟩ := getS2 X0 hx hZ hown (host := "") (Or.inl (ww hw 96 rfl)) Via.refl e0 (S_NAMED_PARAMETER.ext O0) (g := (mkF m 31 #[.val (.int p1)] [])) rfl (hb hby d5_31)
          refine Go.st (S' := T81.setTop (mkF m 34 #[.val (.int p1)] [(.ref w_NAMED_PARAMETER)])) st81 ?_
          exact own_retA X81 hx hlk hret rfl rfl rfl (hb hby d5_34) e81 ⟨⟨_, rfl, ⟨fun q => absurd q (Fld.ne F_NAMED_PARAMETER_ordinal F_SYMBOL_ordinal (fun q_ => absurd (Value.int.inj q_) (by decide))), fun q => absurd (hc28.symm.trans q) (by decide)⟩⟩, N0, rfl⟩ (by decide) (by decide)
        · refine Go.st (S' := T0.setTop (mkF m 35 #[.val (.int p1)] [])) (fun _ k => XS.icmpYes X0.here hx rfl (pc0 := 28) (pc' := 35) rfl (hb hby d5_28) rfl (feq hc28).2 (by decide) (by decide) k) ?_
          refine Go.st (S' := T0.setTop (mkF m 36 #[.val (.int p1)] [(.int p1)])) (fun _ k => XS.iloadN X0.here hx rfl (hb hby d5_35) rfl k) ?_
          refine Go.st (S' := T0.setTop (mkF m 37 #[.val (.int p1)] [(.int (4 : Int32)), (.int p1)])) (fun _ k => XS.iconst X0.here hx rfl (hb hby d5_36) k) ?_
          by_cases hc37 : p1 = (4 : Int32)
          · refine Go.st (S' := T0.setTop (mkF m 40 #[.val (.int p1)] [])) (fun _ k => XS.icmpNo X0.here hx rfl (hb hby d5_37) rfl (teq hc37).2 k) ?_
            obtain ⟨T82, X82, e82, st82⟩ := getS2 X0 hx hZ hown (host := "") (Or.inl (ww hw 98 rfl)) Via.refl e0 (S_POSITIONAL_PARAMETER.ext O0) (g := (mkF m 40 #[.val (.int p1)] [])) rfl (hb hby d5_40)
            refine Go.st (S' := T82.setTop (mkF m 43 #[.val (.int p1)] [(.ref w_POSITIONAL_PARAMETER)])) st82 ?_
            exact own_retA X82 hx hlk hret rfl rfl rfl (hb hby d5_43) e82 ⟨⟨_, rfl, ⟨fun q => absurd q (Fld.ne F_POSITIONAL_PARAMETER_ordinal F_SYMBOL_ordinal (fun q_ => absurd (Value.int.inj q_) (by decide))), fun q => absurd (hc37.symm.trans q) (by decide)⟩⟩, N0, rfl⟩ (by decide) (by decide)
          · refine Go.st (S' := T0.setTop (mkF m 44 #[.val (.int p1)] [])) (fun _ k => XS.icmpYes X0.here hx rfl (pc0 := 37) (pc' := 44) rfl (hb hby d5_37) rfl (feq hc37).2 (by decide) (by decide) k) ?_
            refine Go.st (S' := T0.setTop (mkF m 45 #[.val (.int p1)] [(.int p1)])) (fun _ k => XS.iloadN X0.here hx rfl (hb hby d5_44) rfl k) ?_
            refine Go.st (S' := T0.setTop (mkF m 46 #[.val (.int p1)] [(.int (5 : Int32)), (.int p1)])) (fun _ k => XS.iconst X0.here hx rfl (hb hby d5_45) k) ?_
            by_cases hc46 : p1 = (5 : Int32)
            · refine Go.st (S' := T0.setTop (mkF m 49 #[.val (.int p1)] [])) (fun _ k => XS.icmpNo X0.here hx rfl (hb hby d5_46) rfl (teq hc46).2 k) ?_
              obtain ⟨T83, X83, e83, st83⟩ := getS2 X0 hx hZ hown (host := "") (Or.inl (ww hw 58 rfl)) Via.refl e0 (S_SYMBOL.ext O0) (g := (mkF m 49 #[.val (.int p1)] [])) rfl (hb hby d5_49)
              refine Go.st (S' := T83.setTop (mkF m 52 #[.val (.int p1)] [(.ref w_SYMBOL)])) st83 ?_
              exact own_retA X83 hx hlk hret rfl rfl rfl (hb hby d5_52) e83 ⟨⟨_, rfl, ⟨fun _ => hc46, fun _ => rfl⟩⟩, N0, rfl⟩ (by decide) (by decide)
            · refine Go.st (S' := T0.setTop (mkF m 53 #[.val (.int p1)] [])) (fun _ k => XS.icmpYes X0.here hx rfl (pc0 := 46) (pc' := 53) rfl (hb hby d5_46) rfl (feq hc46).2 (by decide) (by decide) k) ?_
              obtain ⟨T84, X84, e84, st84⟩ := getS2 X0 hx hZ hown (host := "") (Or.inl (ww hw 100 rfl)) Via.refl e0 (S_END.ext O0) (g := (mkF m 53 #[.val (.int p1)] [])) rfl (hb hby d5_53)
              refine Go.st (S' := T84.setTop (mkF m 56 #[.val (.int p1)] [(.ref w_END)])) st84 ?_
              exact own_retA X84 hx hlk hret rfl rfl rfl (hb hby d5_56) e84 ⟨⟨_, rfl, ⟨fun q => absurd q (Fld.ne F_END_ordinal F_SYMBOL_ordinal (fun q_ => absurd (Value.int.inj q_) (by decide))), fun q => absurd q hc46⟩⟩, N0, rfl⟩ (by decide) (by decide)
theorem d8_0 : decode prog_20_method_3_code 0 = .ok (.aload_n 0, 1) := by decide +kernel
theorem d8_1 : decode prog_20_method_3_code 1 = .ok (.getfield 7, 3) := by decide +kernel
theorem d8_4 : decode prog_20_method_3_code 4 = .ok (.getstatic 32, 3) := by decide +kernel
theorem d8_7 : decode prog_20_method_3_code 7 = .ok (.if_acmp .ne 18, 3) := by decide +kernel
theorem d8_10 : decode prog_20_method_3_code 10 = .ok (.aload_n 0, 1) := by decide +kernel
theorem d8_11 : decode prog_20_method_3_code 11 = .ok (.getfield 13, 3) := by decide +kernel
theorem d8_14 : decode prog_20_method_3_code 14 = .ok (.aload_n 1, 1) := by decide +kernel
theorem d8_15 : decode prog_20_method_3_code 15 = .ok (.invokevirtual 35, 3) := by decide +kernel
theorem d8_18 : decode prog_20_method_3_code 18 = .ok (.ifCond .eq 7, 3) := by decide +kernel
theorem d8_21 : decode prog_20_method_3_code 21 = .ok (.iconst 1, 1) := by decide +kernel
theorem d8_22 : decode prog_20_method_3_code 22 = .ok (.goto 4, 3) := by decide +kernel
theorem d8_25 : decode prog_20_method_3_code 25 = .ok (.iconst 0, 1) := by decide +kernel
theorem d8_26 : decode prog_20_method_3_code 26 = .ok (.ireturn, 1) := by decide +kernel
theorem pd_43457 : parseMethodDescriptor "(Ljava/lang/Object;)Z" = some ⟨[(.object "java/lang/Object")], some .boolean⟩ := by decide +kernel
theorem ef_rmIs (m : MethodId) (x0 : Addr) (x1 : Addr) : entryFrame m #[(.ref x0), (.ref x1)] 2 = mkF m 0 #[.val (.ref x0), .val (.ref x1)] [] := by first | (simp [entryFrame, mkF, argsToLocals, Value.category]; done) | rfl
set_option maxRecDepth 65536 in
set_option maxHeartbeats 400000000 in
theorem rmIs (l : Launch) (Z : State) (a0 : Array Value) (hw : ∀ d ∈ tables_1, d.before a0 Z = true) (ws : List Jvm.Cond) (w_IDENTIFIER : Addr) (w_SYMBOL : Addr) (w_NUMBER : Addr) (w_STRING : Addr) (w_NAMED_PARAMETER : Addr) (w_POSITIONAL_PARAMETER : Addr) (w_END : Addr) (zc : Int32) (hS : SF Z w_IDENTIFIER w_SYMBOL w_NUMBER w_STRING w_NAMED_PARAMETER w_POSITIONAL_PARAMETER w_END zc) (a1 a2 a3 b1 b2 w : Addr) (k : Int32) (hk : w = w_SYMBOL ↔ k = 5) (k1 k2 : ClassId) (n1 n2 : Int32) (xs ys : List Int32) (hn1 : n1.toInt = xs.length) (hn2 : n2.toInt = ys.length) (hx2 : xs.length ≤ 2) (h0 : Heap) (O0 : Ext Z.heap h0) (n32 : a3 ≠ a2) (EA : Exa Z h0 a1 "com/example/instances_to_rows/instancestorows/query/Lexer$Token") (FK : Fld Z h0 a1 "com/example/instances_to_rows/instancestorows/query/Lexer$Token" "kind" "Lcom/example/instances_to_rows/instancestorows/query/Lexer$Kind;" (.ref w)) (FT : Fld Z h0 a1 "com/example/instances_to_rows/instancestorows/query/Lexer$Token" "text" "Ljava/lang/String;" (.ref a3)) (E1 : Exa Z h0 a3 "java/lang/String") (C1 : Fld Z h0 a3 "java/lang/String" "coder" "B" (.int 0)) (V1 : Fld Z h0 a3 "java/lang/String" "value" "[B" (.ref b1)) (A1 : Arv Z h0 b1 k1 .byte n1 (xs.map Value.int) (.int (0 : Int32))) (E2 : Exa Z h0 a2 "java/lang/String") (C2 : Fld Z h0 a2 "java/lang/String" "coder" "B" (.int 0)) (V2 : Fld Z h0 a2 "java/lang/String" "value" "[B" (.ref b2)) (A2 : Arv Z h0 b2 k2 .byte n2 (ys.map Value.int) (.int (0 : Int32))) :
    Con l Z h0 (⟨"com/example/instances_to_rows/instancestorows/query/Lexer$Token", "isSymbol", "(Ljava/lang/String;)Z"⟩ : MethodName) prog_20_method_3_code 2 (some .boolean) ws ({ frames := 2, cells := 0, slots := 0, locals := 40 } : Room) #[(.ref a1), (.ref a2)] (fun v h L => v = some (.int (isF k xs ys)) ∧ Fr Z.heap.size L ∧ h = h0) := by
  obtain ⟨S_IDENTIFIER, E_IDENTIFIER, S_SYMBOL, E_SYMBOL, F_IDENTIFIER_ordinal, F_SYMBOL_ordinal, S_NUMBER, E_NUMBER, F_NUMBER_ordinal, S_STRING, E_STRING, F_STRING_ordinal, S_NAMED_PARAMETER, E_NAMED_PARAMETER, F_NAMED_PARAMETER_ordinal, S_POSITIONAL_PARAMETER, E_POSITIONAL_PARAMETER, F_POSITIONAL_PARAMETER_ordinal, S_END, E_END, F_END_ordinal, S_COMPACT_STRINGS, hzc⟩ := id hS
  refine own_con (plainFor_of_name pn_58139) ?_
  intro p e s m below meth c T0 X0 hx hby hml hown hnm hret hlk hZ e0
  have hown : s.vm.findClass "com/example/instances_to_rows/instancestorows/query/Lexer$Token" = some m.cls := hown
  have N0 := Fr.nil Z.heap.size
  refine Go.st (S' := T0.setTop (mkF m 0 #[.val (.ref a1), .val (.ref a2)] [])) (fun _ k => castTop (ef_rmIs m a1 a2) k) ?_
  refine Go.st (S' := T0.setTop (mkF m 1 #[.val (.ref a1), .val (.ref a2)] [(.ref a1)])) (fun _ k => XS.aloadN X0.here hx rfl (hb hby d8_0) rfl rfl k) ?_
  obtain ⟨T85, X85, e85, st85⟩ := getF X0 hx hZ hown (host := "") (Or.inl (ww hw 45 rfl)) Via.refl e0 FK (g := (mkF m 1 #[.val (.ref a1), .val (.ref a2)] [(.ref a1)])) rfl rfl (hb hby d8_1)
  refine Go.st (S' := T85.setTop (mkF m 4 #[.val (.ref a1), .val (.ref a2)] [(.ref w)])) st85 ?_
  obtain ⟨T86, X86, e86, st86⟩ := getS2 X85 hx hZ hown (host := "") (Or.inl (ww hw 56 rfl)) Via.refl e85 (S_SYMBOL.ext O0) (g := (mkF m 4 #[.val (.ref a1), .val (.ref a2)] [(.ref w)])) rfl (hb hby d8_4)
  refine Go.st (S' := T86.setTop (mkF m 7 #[.val (.ref a1), .val (.ref a2)] [(.ref w_SYMBOL), (.ref w)])) st86 ?_
  by_cases hc7 : w = w_SYMBOL
  · refine Go.st (S' := T86.setTop (mkF m 10 #[.val (.ref a1), .val (.ref a2)] [])) (fun _ k => Jvm.RoadKit.acmp (g := (mkF m 7 #[.val (.ref a1), .val (.ref a2)] [(.ref w_SYMBOL), (.ref w)])) X86 hx rfl rfl rfl (pc0 := 7) (pc' := 10) (same := true) rfl (hb hby d8_7) rfl (decide_eq_true (congrArg Value.ref hc7)) (by decide) (by decide) k) ?_
    refine Go.st (S' := T86.setTop (mkF m 11 #[.val (.ref a1), .val (.ref a2)] [(.ref a1)])) (fun _ k => XS.aloadN X86.here hx rfl (hb hby d8_10) rfl rfl k) ?_
    obtain ⟨T87, X87, e87, st87⟩ := getF X86 hx hZ hown (host := "") (Or.inl (ww hw 47 rfl)) Via.refl e86 FT (g := (mkF m 11 #[.val (.ref a1), .val (.ref a2)] [(.ref a1)])) rfl rfl (hb hby d8_11)
    refine Go.st (S' := T87.setTop (mkF m 14 #[.val (.ref a1), .val (.ref a2)] [(.ref a3)])) st87 ?_
    refine Go.st (S' := T87.setTop (mkF m 15 #[.val (.ref a1), .val (.ref a2)] [(.ref a2), (.ref a3)])) (fun _ k => XS.aloadN X87.here hx rfl (hb hby d8_14) rfl rfl k) ?_
    obtain ⟨_, T88, L88, X88, ⟨rfl, Nq88, eq88⟩, st88⟩ := own_callV X87 hx hZ hown (ww hw 59 rfl) (ww hw 60 rfl) (notFace_of_selects (args := #[]) (mvT hZ (ww hw 62 rfl))) (ww hw 62 rfl) (ww hw 61 rfl) (ww hw 7 rfl) (ww hw 63 rfl) (by decide) e87 E1 (rmEq l Z a0 hw [] w_IDENTIFIER w_SYMBOL w_NUMBER w_STRING w_NAMED_PARAMETER w_POSITIONAL_PARAMETER w_END zc hS a3 a2 b1 b2 k1 k2 n1 n2 xs ys hn1 hn2 hx2 h0 O0 n32 E1 C1 V1 A1 E2 C2 V2 A2) 0 (by decide) (by decide) (by decide) (by decide) (g := (mkF m 15 #[.val (.ref a1), .val (.ref a2)] [(.ref a2), (.ref a3)])) rfl (by rw [hml]; rfl) [(.ref a2)] [] rfl (lenOf pd_43457 rfl) rfl (by show 2 * 0 + _ ≤ _; exact Nat.le_of_eq rfl) (hb hby d8_15)
    have N88 := Fr.app N0 Nq88
    refine Go.st (S' := T88.setTop (mkF m 18 #[.val (.ref a1), .val (.ref a2)] [(.int (eqF xs ys))])) st88 ?_
    by_cases hc18 : (eqF xs ys) = (0 : Int32)
    · refine Go.st (S' := T88.setTop (mkF m 25 #[.val (.ref a1), .val (.ref a2)] [])) (fun _ k => XS.ifYes X88.here hx rfl (pc0 := 18) (pc' := 25) rfl (hb hby d8_18) rfl ((if0 _ _).trans (teq hc18).1) (by decide) (by decide) k) ?_
      refine Go.st (S' := T88.setTop (mkF m 26 #[.val (.ref a1), .val (.ref a2)] [(.int (0 : Int32))])) (fun _ k => XS.iconst X88.here hx rfl (hb hby d8_25) k) ?_
      exact own_retN X88 hx hlk hret (by simp) (hb hby d8_26) eq88 ⟨congrArg (fun z => some (Value.int z)) (own_bo0.trans (if_neg fun q => own_eq0 hc18 q.2).symm), N88, rfl⟩ (by decide) (by decide)
    · refine Go.st (S' := T88.setTop (mkF m 21 #[.val (.ref a1), .val (.ref a2)] [])) (fun _ k => XS.ifNo X88.here hx rfl (hb hby d8_18) rfl ((if0 _ _).trans (feq hc18).1) k) ?_
      refine Go.st (S' := T88.setTop (mkF m 22 #[.val (.ref a1), .val (.ref a2)] [(.int (1 : Int32))])) (fun _ k => XS.iconst X88.here hx rfl (hb hby d8_21) k) ?_
      refine Go.st (S' := T88.setTop (mkF m 26 #[.val (.ref a1), .val (.ref a2)] [(.int (1 : Int32))])) (fun _ k => XS.goto X88.here hx rfl (pc0 := 22) (pc' := 26) rfl (hb hby d8_22) (by decide) (by decide) k) ?_
      exact own_retN X88 hx hlk hret (by simp) (hb hby d8_26) eq88 ⟨congrArg (fun z => some (Value.int z)) (own_bo1.trans (if_pos ⟨hk.mp hc7, own_eq1 hc18⟩).symm), N88, rfl⟩ (by decide) (by decide)
  · refine Go.st (S' := T86.setTop (mkF m 25 #[.val (.ref a1), .val (.ref a2)] [])) (fun _ k => Jvm.RoadKit.acmp (g := (mkF m 7 #[.val (.ref a1), .val (.ref a2)] [(.ref w_SYMBOL), (.ref w)])) X86 hx rfl rfl rfl (pc0 := 7) (pc' := 25) (same := false) rfl (hb hby d8_7) rfl (decide_eq_false fun q => hc7 (Value.ref.inj q)) (by decide) (by decide) k) ?_
    refine Go.st (S' := T86.setTop (mkF m 26 #[.val (.ref a1), .val (.ref a2)] [(.int (0 : Int32))])) (fun _ k => XS.iconst X86.here hx rfl (hb hby d8_25) k) ?_
    exact own_retN X86 hx hlk hret (by simp) (hb hby d8_26) e86 ⟨congrArg (fun z => some (Value.int z)) (own_bo0.trans (if_neg fun q => hc7 (hk.mpr q.1)).symm), N0, rfl⟩ (by decide) (by decide)
theorem own_sl {n c0 c1 : Int32} (h : n = 0 ∨ n = 1 ∨ n = 2) : n.toInt = (strL n c0 c1).length ∧ (strL n c0 c1).length ≤ 2 := by
  rcases h with rfl | rfl | rfl
  · rw [own_s0]; exact ⟨by decide, by decide⟩
  · rw [own_s1]; exact ⟨rfl, by simp⟩
  · rw [own_s2]; exact ⟨rfl, by simp⟩
theorem pd_907255 : parseMethodDescriptor "(ICC)Ljava/lang/String;" = some ⟨[.int, .char, .char], some (.object "java/lang/String")⟩ := by decide +kernel
theorem pd_39079 : parseMethodDescriptor "(I)Lcom/example/instances_to_rows/instancestorows/query/Lexer$Kind;" = some ⟨[.int], some (.object "com/example/instances_to_rows/instancestorows/query/Lexer$Kind")⟩ := by decide +kernel
theorem pd_22229 : parseMethodDescriptor "(Lcom/example/instances_to_rows/instancestorows/query/Lexer$Kind;Ljava/lang/String;I)V" = some ⟨[(.object "com/example/instances_to_rows/instancestorows/query/Lexer$Kind"), (.object "java/lang/String"), .int], none⟩ := by decide +kernel
theorem pd_310006 : parseMethodDescriptor "(Ljava/lang/String;)Z" = some ⟨[(.object "java/lang/String")], some .boolean⟩ := by decide +kernel
theorem ef_rm0 (m : MethodId) (x0 : Int32) (x1 : Int32) (x2 : Int32) (x3 : Int32) : entryFrame m #[(.int x0), (.int x1), (.int x2), (.int x3)] maxLocals = mkF m 0 #[.val (.int x0), .val (.int x1), .val (.int x2), .val (.int x3), .unset, .unset, .unset, .unset, .unset, .unset, .unset, .unset, .unset, .unset, .unset, .unset, .unset, .unset, .unset] [] := by first | (simp [entryFrame, mkF, argsToLocals, Value.category, maxLocals]; done) | rfl
set_option maxRecDepth 65536 in
set_option maxHeartbeats 400000000 in
theorem rm0 (l : Launch) (Z : State) (a0 : Array Value) (hw : ∀ d ∈ tables_1, d.before a0 Z = true) (ws : List Jvm.Cond) (w_IDENTIFIER : Addr) (w_SYMBOL : Addr) (w_NUMBER : Addr) (w_STRING : Addr) (w_NAMED_PARAMETER : Addr) (w_POSITIONAL_PARAMETER : Addr) (w_END : Addr) (zc : Int32) (hS : SF Z w_IDENTIFIER w_SYMBOL w_NUMBER w_STRING w_NAMED_PARAMETER w_POSITIONAL_PARAMETER w_END zc) (p1 : Int32) (p2 : Int32) (p3 : Int32) (p4 : Int32) (h0 : Heap) (O0 : Ext Z.heap h0)  :
    ConJ l Z EL1 h0 x code maxLocals ret ws room_1 #[(.int p1), (.int p2), (.int p3), (.int p4)] (fun v h L => v = some (.int 1) ∧ Fr Z.heap.size L) := by
  obtain ⟨S_IDENTIFIER, E_IDENTIFIER, S_SYMBOL, E_SYMBOL, F_IDENTIFIER_ordinal, F_SYMBOL_ordinal, S_NUMBER, E_NUMBER, F_NUMBER_ordinal, S_STRING, E_STRING, F_STRING_ordinal, S_NAMED_PARAMETER, E_NAMED_PARAMETER, F_NAMED_PARAMETER_ordinal, S_POSITIONAL_PARAMETER, E_POSITIONAL_PARAMETER, F_POSITIONAL_PARAMETER_ordinal, S_END, E_END, F_END_ordinal, S_COMPACT_STRINGS, hzc⟩ := id hS
  refine own_conJ (plainFor_of_name pn_328133) ?_
  intro p e s m below meth c T0 X0 hx hby hml hown hnm hret hlk hZ e0 hS0 C0
  have hown : (s.setVm s.vm).vm.findClass "com/example/instances_to_rows/instancestorows/query/TokenIsSymbolPinLaw" = some m.cls := hown
  have hk0 : h0.size ≤ h0.size := Nat.le_refl _
  have hEL := own_EW hw
  have N0 := Fr.nil Z.heap.size
  refine Go.st (S' := T0.setTop (mkF m 0 #[.val (.int p1), .val (.int p2), .val (.int p3), .val (.int p4), .unset, .unset, .unset, .unset, .unset, .unset, .unset, .unset, .unset, .unset, .unset, .unset, .unset, .unset, .unset] [])) (fun _ k => castTop (ef_rm0 m p1 p2 p3 p4) k) ?_
  refine Go.st (S' := T0.setTop (mkF m 1 #[.val (.int p1), .val (.int p2), .val (.int p3), .val (.int p4), .unset, .unset, .unset, .unset, .unset, .unset, .unset, .unset, .unset, .unset, .unset, .unset, .unset, .unset, .unset] [(.int p1)])) (fun _ k => XS.iloadN X0.here hx rfl (hb hby at_0) rfl k) ?_
  refine Go.st (S' := T0.setTop (mkF m 3 #[.val (.int p1), .val (.int p2), .val (.int p3), .val (.int p4), .unset, .unset, .unset, .unset, .unset, .unset, .unset, .unset, .unset, .unset, .unset, .unset, .unset, .unset, .unset] [(.int (2147483647 : Int32)), (.int p1)])) (X0.ldcInt hx hown (mvT hZ (ww hw 0 rfl)) (g := (mkF m 1 #[.val (.int p1), .val (.int p2), .val (.int p3), .val (.int p4), .unset, .unset, .unset, .unset, .unset, .unset, .unset, .unset, .unset, .unset, .unset, .unset, .unset, .unset, .unset] [(.int p1)])) rfl (hb hby at_1)) ?_
  refine Go.st (S' := T0.setTop (mkF m 4 #[.val (.int p1), .val (.int p2), .val (.int p3), .val (.int p4), .unset, .unset, .unset, .unset, .unset, .unset, .unset, .unset, .unset, .unset, .unset, .unset, .unset, .unset, .unset] [(.int (p1 &&& (2147483647 : Int32)))])) (fun _ k => XS.iand X0.here hx rfl (hb hby at_3) rfl k) ?_
  refine Go.st (S' := T0.setTop (mkF m 6 #[.val (.int p1), .val (.int p2), .val (.int p3), .val (.int p4), .unset, .unset, .unset, .unset, .unset, .unset, .unset, .unset, .unset, .unset, .unset, .unset, .unset, .unset, .unset] [(.int (7 : Int32)), (.int (p1 &&& (2147483647 : Int32)))])) (fun _ k => XS.bipush X0.here hx rfl (hb hby at_4) k) ?_
  refine Go.st (S' := T0.setTop (mkF m 7 #[.val (.int p1), .val (.int p2), .val (.int p3), .val (.int p4), .unset, .unset, .unset, .unset, .unset, .unset, .unset, .unset, .unset, .unset, .unset, .unset, .unset, .unset, .unset] [(.int ((p1 &&& (2147483647 : Int32)) % (7 : Int32)))])) (fun _ k => iremM X0 hx rfl (hb hby at_6) rfl (by decide) k) ?_
  obtain ⟨kk, hd_kk⟩ : ∃ z : Int32, z = ((p1 &&& (2147483647 : Int32)) % (7 : Int32)) := ⟨_, rfl⟩
  refine Go.st (S' := T0.setTop (mkF m 7 #[.val (.int p1), .val (.int p2), .val (.int p3), .val (.int p4), .unset, .unset, .unset, .unset, .unset, .unset, .unset, .unset, .unset, .unset, .unset, .unset, .unset, .unset, .unset] [(.int kk)])) (fun _ k => by rw [hd_kk] at k; exact k) ?_
  refine Go.st (S' := T0.setTop (mkF m 9 #[.val (.int p1), .val (.int p2), .val (.int p3), .val (.int p4), .val (.int kk), .unset, .unset, .unset, .unset, .unset, .unset, .unset, .unset, .unset, .unset, .unset, .unset, .unset, .unset] [])) (fun _ k => XS.istore X0.here hx rfl (hb hby at_7) rfl (l' := #[.val (.int p1), .val (.int p2), .val (.int p3), .val (.int p4), .val (.int kk), .unset, .unset, .unset, .unset, .unset, .unset, .unset, .unset, .unset, .unset, .unset, .unset, .unset, .unset]) rfl k) ?_
  refine Go.st (S' := T0.setTop (mkF m 10 #[.val (.int p1), .val (.int p2), .val (.int p3), .val (.int p4), .val (.int kk), .unset, .unset, .unset, .unset, .unset, .unset, .unset, .unset, .unset, .unset, .unset, .unset, .unset, .unset] [(.int p2)])) (fun _ k => XS.iloadN X0.here hx rfl (hb hby at_9) rfl k) ?_
  refine Go.st (S' := T0.setTop (mkF m 11 #[.val (.int p1), .val (.int p2), .val (.int p3), .val (.int p4), .val (.int kk), .unset, .unset, .unset, .unset, .unset, .unset, .unset, .unset, .unset, .unset, .unset, .unset, .unset, .unset] [(.int (3 : Int32)), (.int p2)])) (fun _ k => XS.iconst X0.here hx rfl (hb hby at_10) k) ?_
  refine Go.st (S' := T0.setTop (mkF m 12 #[.val (.int p1), .val (.int p2), .val (.int p3), .val (.int p4), .val (.int kk), .unset, .unset, .unset, .unset, .unset, .unset, .unset, .unset, .unset, .unset, .unset, .unset, .unset, .unset] [(.int (p2 &&& (3 : Int32)))])) (fun _ k => XS.iand X0.here hx rfl (hb hby at_11) rfl k) ?_
  refine Go.st (S' := T0.setTop (mkF m 13 #[.val (.int p1), .val (.int p2), .val (.int p3), .val (.int p4), .val (.int kk), .unset, .unset, .unset, .unset, .unset, .unset, .unset, .unset, .unset, .unset, .unset, .unset, .unset, .unset] [(.int (3 : Int32)), (.int (p2 &&& (3 : Int32)))])) (fun _ k => XS.iconst X0.here hx rfl (hb hby at_12) k) ?_
  refine Go.st (S' := T0.setTop (mkF m 14 #[.val (.int p1), .val (.int p2), .val (.int p3), .val (.int p4), .val (.int kk), .unset, .unset, .unset, .unset, .unset, .unset, .unset, .unset, .unset, .unset, .unset, .unset, .unset, .unset] [(.int ((p2 &&& (3 : Int32)) % (3 : Int32)))])) (fun _ k => iremM X0 hx rfl (hb hby at_13) rfl (by decide) k) ?_
  obtain ⟨lt, hd_lt⟩ : ∃ z : Int32, z = ((p2 &&& (3 : Int32)) % (3 : Int32)) := ⟨_, rfl⟩
  refine Go.st (S' := T0.setTop (mkF m 14 #[.val (.int p1), .val (.int p2), .val (.int p3), .val (.int p4), .val (.int kk), .unset, .unset, .unset, .unset, .unset, .unset, .unset, .unset, .unset, .unset, .unset, .unset, .unset, .unset] [(.int lt)])) (fun _ k => by rw [hd_lt] at k; exact k) ?_
  have hlt := own_m3 p2
  rw [← hd_lt] at hlt
  refine Go.st (S' := T0.setTop (mkF m 16 #[.val (.int p1), .val (.int p2), .val (.int p3), .val (.int p4), .val (.int kk), .val (.int lt), .unset, .unset, .unset, .unset, .unset, .unset, .unset, .unset, .unset, .unset, .unset, .unset, .unset] [])) (fun _ k => XS.istore X0.here hx rfl (hb hby at_14) rfl (l' := #[.val (.int p1), .val (.int p2), .val (.int p3), .val (.int p4), .val (.int kk), .val (.int lt), .unset, .unset, .unset, .unset, .unset, .unset, .unset, .unset, .unset, .unset, .unset, .unset, .unset]) rfl k) ?_
  refine Go.st (S' := T0.setTop (mkF m 17 #[.val (.int p1), .val (.int p2), .val (.int p3), .val (.int p4), .val (.int kk), .val (.int lt), .unset, .unset, .unset, .unset, .unset, .unset, .unset, .unset, .unset, .unset, .unset, .unset, .unset] [(.int p2)])) (fun _ k => XS.iloadN X0.here hx rfl (hb hby at_16) rfl k) ?_
  refine Go.st (S' := T0.setTop (mkF m 18 #[.val (.int p1), .val (.int p2), .val (.int p3), .val (.int p4), .val (.int kk), .val (.int lt), .unset, .unset, .unset, .unset, .unset, .unset, .unset, .unset, .unset, .unset, .unset, .unset, .unset] [(.int (2 : Int32)), (.int p2)])) (fun _ k => XS.iconst X0.here hx rfl (hb hby at_17) k) ?_
  refine Go.st (S' := T0.setTop (mkF m 19 #[.val (.int p1), .val (.int p2), .val (.int p3), .val (.int p4), .val (.int kk), .val (.int lt), .unset, .unset, .unset, .unset, .unset, .unset, .unset, .unset, .unset, .unset, .unset, .unset, .unset] [(.int ((p2.toUInt32 >>> ((2 : Int32) &&& 31).toUInt32).toInt32))])) (fun _ k => XS.iushr X0.here hx rfl (hb hby at_18) rfl k) ?_
  refine Go.st (S' := T0.setTop (mkF m 22 #[.val (.int p1), .val (.int p2), .val (.int p3), .val (.int p4), .val (.int kk), .val (.int lt), .unset, .unset, .unset, .unset, .unset, .unset, .unset, .unset, .unset, .unset, .unset, .unset, .unset] [(.int (255 : Int32)), (.int ((p2.toUInt32 >>> ((2 : Int32) &&& 31).toUInt32).toInt32))])) (fun _ k => XS.sipush X0.here hx rfl (hb hby at_19) k) ?_
  refine Go.st (S' := T0.setTop (mkF m 23 #[.val (.int p1), .val (.int p2), .val (.int p3), .val (.int p4), .val (.int kk), .val (.int lt), .unset, .unset, .unset, .unset, .unset, .unset, .unset, .unset, .unset, .unset, .unset, .unset, .unset] [(.int (((p2.toUInt32 >>> ((2 : Int32) &&& 31).toUInt32).toInt32) &&& (255 : Int32)))])) (fun _ k => XS.iand X0.here hx rfl (hb hby at_22) rfl k) ?_
  refine Go.st (S' := T0.setTop (mkF m 24 #[.val (.int p1), .val (.int p2), .val (.int p3), .val (.int p4), .val (.int kk), .val (.int lt), .unset, .unset, .unset, .unset, .unset, .unset, .unset, .unset, .unset, .unset, .unset, .unset, .unset] [(.int ((((p2.toUInt32 >>> ((2 : Int32) &&& 31).toUInt32).toInt32) &&& (255 : Int32)).toUInt32.toUInt16.toUInt32.toInt32))])) (fun _ k => XS.i2c X0.here hx rfl (hb hby at_23) rfl k) ?_
  obtain ⟨c0, hd_c0⟩ : ∃ z : Int32, z = ((((p2.toUInt32 >>> ((2 : Int32) &&& 31).toUInt32).toInt32) &&& (255 : Int32)).toUInt32.toUInt16.toUInt32.toInt32) := ⟨_, rfl⟩
  refine Go.st (S' := T0.setTop (mkF m 24 #[.val (.int p1), .val (.int p2), .val (.int p3), .val (.int p4), .val (.int kk), .val (.int lt), .unset, .unset, .unset, .unset, .unset, .unset, .unset, .unset, .unset, .unset, .unset, .unset, .unset] [(.int c0)])) (fun _ k => by rw [hd_c0] at k; exact k) ?_
  have hc0 : Ch c0 := ⟨_, hd_c0.trans (i2c_mask _)⟩
  refine Go.st (S' := T0.setTop (mkF m 26 #[.val (.int p1), .val (.int p2), .val (.int p3), .val (.int p4), .val (.int kk), .val (.int lt), .val (.int c0), .unset, .unset, .unset, .unset, .unset, .unset, .unset, .unset, .unset, .unset, .unset, .unset] [])) (fun _ k => XS.istore X0.here hx rfl (hb hby at_24) rfl (l' := #[.val (.int p1), .val (.int p2), .val (.int p3), .val (.int p4), .val (.int kk), .val (.int lt), .val (.int c0), .unset, .unset, .unset, .unset, .unset, .unset, .unset, .unset, .unset, .unset, .unset, .unset]) rfl k) ?_
  refine Go.st (S' := T0.setTop (mkF m 27 #[.val (.int p1), .val (.int p2), .val (.int p3), .val (.int p4), .val (.int kk), .val (.int lt), .val (.int c0), .unset, .unset, .unset, .unset, .unset, .unset, .unset, .unset, .unset, .unset, .unset, .unset] [(.int p2)])) (fun _ k => XS.iloadN X0.here hx rfl (hb hby at_26) rfl k) ?_
  refine Go.st (S' := T0.setTop (mkF m 29 #[.val (.int p1), .val (.int p2), .val (.int p3), .val (.int p4), .val (.int kk), .val (.int lt), .val (.int c0), .unset, .unset, .unset, .unset, .unset, .unset, .unset, .unset, .unset, .unset, .unset, .unset] [(.int (10 : Int32)), (.int p2)])) (fun _ k => XS.bipush X0.here hx rfl (hb hby at_27) k) ?_
  refine Go.st (S' := T0.setTop (mkF m 30 #[.val (.int p1), .val (.int p2), .val (.int p3), .val (.int p4), .val (.int kk), .val (.int lt), .val (.int c0), .unset, .unset, .unset, .unset, .unset, .unset, .unset, .unset, .unset, .unset, .unset, .unset] [(.int ((p2.toUInt32 >>> ((10 : Int32) &&& 31).toUInt32).toInt32))])) (fun _ k => XS.iushr X0.here hx rfl (hb hby at_29) rfl k) ?_
  refine Go.st (S' := T0.setTop (mkF m 33 #[.val (.int p1), .val (.int p2), .val (.int p3), .val (.int p4), .val (.int kk), .val (.int lt), .val (.int c0), .unset, .unset, .unset, .unset, .unset, .unset, .unset, .unset, .unset, .unset, .unset, .unset] [(.int (255 : Int32)), (.int ((p2.toUInt32 >>> ((10 : Int32) &&& 31).toUInt32).toInt32))])) (fun _ k => XS.sipush X0.here hx rfl (hb hby at_30) k) ?_
  refine Go.st (S' := T0.setTop (mkF m 34 #[.val (.int p1), .val (.int p2), .val (.int p3), .val (.int p4), .val (.int kk), .val (.int lt), .val (.int c0), .unset, .unset, .unset, .unset, .unset, .unset, .unset, .unset, .unset, .unset, .unset, .unset] [(.int (((p2.toUInt32 >>> ((10 : Int32) &&& 31).toUInt32).toInt32) &&& (255 : Int32)))])) (fun _ k => XS.iand X0.here hx rfl (hb hby at_33) rfl k) ?_
  refine Go.st (S' := T0.setTop (mkF m 35 #[.val (.int p1), .val (.int p2), .val (.int p3), .val (.int p4), .val (.int kk), .val (.int lt), .val (.int c0), .unset, .unset, .unset, .unset, .unset, .unset, .unset, .unset, .unset, .unset, .unset, .unset] [(.int ((((p2.toUInt32 >>> ((10 : Int32) &&& 31).toUInt32).toInt32) &&& (255 : Int32)).toUInt32.toUInt16.toUInt32.toInt32))])) (fun _ k => XS.i2c X0.here hx rfl (hb hby at_34) rfl k) ?_
  obtain ⟨c1, hd_c1⟩ : ∃ z : Int32, z = ((((p2.toUInt32 >>> ((10 : Int32) &&& 31).toUInt32).toInt32) &&& (255 : Int32)).toUInt32.toUInt16.toUInt32.toInt32) := ⟨_, rfl⟩
  refine Go.st (S' := T0.setTop (mkF m 35 #[.val (.int p1), .val (.int p2), .val (.int p3), .val (.int p4), .val (.int kk), .val (.int lt), .val (.int c0), .unset, .unset, .unset, .unset, .unset, .unset, .unset, .unset, .unset, .unset, .unset, .unset] [(.int c1)])) (fun _ k => by rw [hd_c1] at k; exact k) ?_
  have hc1 : Ch c1 := ⟨_, hd_c1.trans (i2c_mask _)⟩
  refine Go.st (S' := T0.setTop (mkF m 37 #[.val (.int p1), .val (.int p2), .val (.int p3), .val (.int p4), .val (.int kk), .val (.int lt), .val (.int c0), .val (.int c1), .unset, .unset, .unset, .unset, .unset, .unset, .unset, .unset, .unset, .unset, .unset] [])) (fun _ k => XS.istore X0.here hx rfl (hb hby at_35) rfl (l' := #[.val (.int p1), .val (.int p2), .val (.int p3), .val (.int p4), .val (.int kk), .val (.int lt), .val (.int c0), .val (.int c1), .unset, .unset, .unset, .unset, .unset, .unset, .unset, .unset, .unset, .unset, .unset]) rfl k) ?_
  have kq : ∀ (sm d0 d1 ls : Int32) (hd0 : Ch d0) (hd1 : Ch d1) (hls : ls = 0 ∨ ls = 1 ∨ ls = 2), Go p e below (RetW s (fun v h L => v = some (.int 1) ∧ Fr Z.heap.size L) room_1.cells room_1.slots) (T0.setTop (mkF m 107 #[.val (.int p1), .val (.int p2), .val (.int p3), .val (.int p4), .val (.int kk), .val (.int lt), .val (.int c0), .val (.int c1), .val (.int sm), .val (.int d0), .val (.int d1), .val (.int ls), .unset, .unset, .unset, .unset, .unset, .unset, .unset] [])) := by
    intro sm d0 d1 ls hd0 hd1 hls
    refine Go.st (S' := T0.setTop (mkF m 109 #[.val (.int p1), .val (.int p2), .val (.int p3), .val (.int p4), .val (.int kk), .val (.int lt), .val (.int c0), .val (.int c1), .val (.int sm), .val (.int d0), .val (.int d1), .val (.int ls), .unset, .unset, .unset, .unset, .unset, .unset, .unset] [(.int c0)])) (fun _ k => XS.iload X0.here hx rfl (hb hby at_107) rfl k) ?_
    refine Go.st (S' := T0.setTop (mkF m 111 #[.val (.int p1), .val (.int p2), .val (.int p3), .val (.int p4), .val (.int kk), .val (.int lt), .val (.int c0), .val (.int c1), .val (.int sm), .val (.int d0), .val (.int d1), .val (.int ls), .unset, .unset, .unset, .unset, .unset, .unset, .unset] [(.int d0), (.int c0)])) (fun _ k => XS.iload X0.here hx rfl (hb hby at_109) rfl k) ?_
    refine Go.st (S' := T0.setTop (mkF m 112 #[.val (.int p1), .val (.int p2), .val (.int p3), .val (.int p4), .val (.int kk), .val (.int lt), .val (.int c0), .val (.int c1), .val (.int sm), .val (.int d0), .val (.int d1), .val (.int ls), .unset, .unset, .unset, .unset, .unset, .unset, .unset] [(.int (c0 ^^^ d0))])) (fun _ k => XS.ixor X0.here hx rfl (hb hby at_111) rfl k) ?_
    refine Go.st (S' := T0.setTop (mkF m 113 #[.val (.int p1), .val (.int p2), .val (.int p3), .val (.int p4), .val (.int kk), .val (.int lt), .val (.int c0), .val (.int c1), .val (.int sm), .val (.int d0), .val (.int d1), .val (.int ls), .unset, .unset, .unset, .unset, .unset, .unset, .unset] [(.int ((c0 ^^^ d0).toUInt32.toUInt16.toUInt32.toInt32))])) (fun _ k => XS.i2c X0.here hx rfl (hb hby at_112) rfl k) ?_
    obtain ⟨s0, hd_s0⟩ : ∃ z : Int32, z = ((c0 ^^^ d0).toUInt32.toUInt16.toUInt32.toInt32) := ⟨_, rfl⟩
    refine Go.st (S' := T0.setTop (mkF m 113 #[.val (.int p1), .val (.int p2), .val (.int p3), .val (.int p4), .val (.int kk), .val (.int lt), .val (.int c0), .val (.int c1), .val (.int sm), .val (.int d0), .val (.int d1), .val (.int ls), .unset, .unset, .unset, .unset, .unset, .unset, .unset] [(.int s0)])) (fun _ k => by rw [hd_s0] at k; exact k) ?_
    have hs0 : Ch s0 := by rw [hd_s0]; exact own_chx hc0 hd0
    refine Go.st (S' := T0.setTop (mkF m 115 #[.val (.int p1), .val (.int p2), .val (.int p3), .val (.int p4), .val (.int kk), .val (.int lt), .val (.int c0), .val (.int c1), .val (.int sm), .val (.int d0), .val (.int d1), .val (.int ls), .val (.int s0), .unset, .unset, .unset, .unset, .unset, .unset] [])) (fun _ k => XS.istore X0.here hx rfl (hb hby at_113) rfl (l' := #[.val (.int p1), .val (.int p2), .val (.int p3), .val (.int p4), .val (.int kk), .val (.int lt), .val (.int c0), .val (.int c1), .val (.int sm), .val (.int d0), .val (.int d1), .val (.int ls), .val (.int s0), .unset, .unset, .unset, .unset, .unset, .unset]) rfl k) ?_
    refine Go.st (S' := T0.setTop (mkF m 117 #[.val (.int p1), .val (.int p2), .val (.int p3), .val (.int p4), .val (.int kk), .val (.int lt), .val (.int c0), .val (.int c1), .val (.int sm), .val (.int d0), .val (.int d1), .val (.int ls), .val (.int s0), .unset, .unset, .unset, .unset, .unset, .unset] [(.int c1)])) (fun _ k => XS.iload X0.here hx rfl (hb hby at_115) rfl k) ?_
    refine Go.st (S' := T0.setTop (mkF m 119 #[.val (.int p1), .val (.int p2), .val (.int p3), .val (.int p4), .val (.int kk), .val (.int lt), .val (.int c0), .val (.int c1), .val (.int sm), .val (.int d0), .val (.int d1), .val (.int ls), .val (.int s0), .unset, .unset, .unset, .unset, .unset, .unset] [(.int d1), (.int c1)])) (fun _ k => XS.iload X0.here hx rfl (hb hby at_117) rfl k) ?_
    refine Go.st (S' := T0.setTop (mkF m 120 #[.val (.int p1), .val (.int p2), .val (.int p3), .val (.int p4), .val (.int kk), .val (.int lt), .val (.int c0), .val (.int c1), .val (.int sm), .val (.int d0), .val (.int d1), .val (.int ls), .val (.int s0), .unset, .unset, .unset, .unset, .unset, .unset] [(.int (c1 ^^^ d1))])) (fun _ k => XS.ixor X0.here hx rfl (hb hby at_119) rfl k) ?_
    refine Go.st (S' := T0.setTop (mkF m 121 #[.val (.int p1), .val (.int p2), .val (.int p3), .val (.int p4), .val (.int kk), .val (.int lt), .val (.int c0), .val (.int c1), .val (.int sm), .val (.int d0), .val (.int d1), .val (.int ls), .val (.int s0), .unset, .unset, .unset, .unset, .unset, .unset] [(.int ((c1 ^^^ d1).toUInt32.toUInt16.toUInt32.toInt32))])) (fun _ k => XS.i2c X0.here hx rfl (hb hby at_120) rfl k) ?_
    obtain ⟨s1, hd_s1⟩ : ∃ z : Int32, z = ((c1 ^^^ d1).toUInt32.toUInt16.toUInt32.toInt32) := ⟨_, rfl⟩
    refine Go.st (S' := T0.setTop (mkF m 121 #[.val (.int p1), .val (.int p2), .val (.int p3), .val (.int p4), .val (.int kk), .val (.int lt), .val (.int c0), .val (.int c1), .val (.int sm), .val (.int d0), .val (.int d1), .val (.int ls), .val (.int s0), .unset, .unset, .unset, .unset, .unset, .unset] [(.int s1)])) (fun _ k => by rw [hd_s1] at k; exact k) ?_
    have hs1 : Ch s1 := by rw [hd_s1]; exact own_chx hc1 hd1
    refine Go.st (S' := T0.setTop (mkF m 123 #[.val (.int p1), .val (.int p2), .val (.int p3), .val (.int p4), .val (.int kk), .val (.int lt), .val (.int c0), .val (.int c1), .val (.int sm), .val (.int d0), .val (.int d1), .val (.int ls), .val (.int s0), .val (.int s1), .unset, .unset, .unset, .unset, .unset] [])) (fun _ k => XS.istore X0.here hx rfl (hb hby at_121) rfl (l' := #[.val (.int p1), .val (.int p2), .val (.int p3), .val (.int p4), .val (.int kk), .val (.int lt), .val (.int c0), .val (.int c1), .val (.int sm), .val (.int d0), .val (.int d1), .val (.int ls), .val (.int s0), .val (.int s1), .unset, .unset, .unset, .unset, .unset]) rfl k) ?_
    refine Go.st (S' := T0.setTop (mkF m 125 #[.val (.int p1), .val (.int p2), .val (.int p3), .val (.int p4), .val (.int kk), .val (.int lt), .val (.int c0), .val (.int c1), .val (.int sm), .val (.int d0), .val (.int d1), .val (.int ls), .val (.int s0), .val (.int s1), .unset, .unset, .unset, .unset, .unset] [(.int lt)])) (fun _ k => XS.iload X0.here hx rfl (hb hby at_123) rfl k) ?_
    refine Go.st (S' := T0.setTop (mkF m 127 #[.val (.int p1), .val (.int p2), .val (.int p3), .val (.int p4), .val (.int kk), .val (.int lt), .val (.int c0), .val (.int c1), .val (.int sm), .val (.int d0), .val (.int d1), .val (.int ls), .val (.int s0), .val (.int s1), .unset, .unset, .unset, .unset, .unset] [(.int c0), (.int lt)])) (fun _ k => XS.iload X0.here hx rfl (hb hby at_125) rfl k) ?_
    refine Go.st (S' := T0.setTop (mkF m 129 #[.val (.int p1), .val (.int p2), .val (.int p3), .val (.int p4), .val (.int kk), .val (.int lt), .val (.int c0), .val (.int c1), .val (.int sm), .val (.int d0), .val (.int d1), .val (.int ls), .val (.int s0), .val (.int s1), .unset, .unset, .unset, .unset, .unset] [(.int c1), (.int c0), (.int lt)])) (fun _ k => XS.iload X0.here hx rfl (hb hby at_127) rfl k) ?_
    obtain ⟨_, T89, L89, X89, ⟨⟨sb89, vb89, kv89, rfl, ss89, es89, fc89, fv89, vv89⟩, Nq89, kp89⟩, hS89, hZ, hown, C89, st89⟩ := own_callSH X0 hx hZ hS0 hk0 hEL C0 hown (ww hw 1 rfl) (ww hw 2 rfl) (ww hw 3 rfl) (ww hw 4 rfl) (by decide) e0 (rmStr l Z a0 hw [] w_IDENTIFIER w_SYMBOL w_NUMBER w_STRING w_NAMED_PARAMETER w_POSITIONAL_PARAMETER w_END zc hS lt c0 c1 hlt hc0 hc1 h0 O0) 0 (by decide) (by decide) (by decide) (by decide) (g := (mkF m 129 #[.val (.int p1), .val (.int p2), .val (.int p3), .val (.int p4), .val (.int kk), .val (.int lt), .val (.int c0), .val (.int c1), .val (.int sm), .val (.int d0), .val (.int d1), .val (.int ls), .val (.int s0), .val (.int s1), .unset, .unset, .unset, .unset, .unset] [(.int c1), (.int c0), (.int lt)])) rfl (by rw [hml]; rfl) [(.int lt), (.int c0), (.int c1)] [] rfl (lenOf pd_907255 rfl) rfl (by show 2 * 0 + _ ≤ _; exact Nat.le_of_eq rfl) (hb hby at_129)
    have N89 := Fr.app N0 Nq89
    have O89 : Ext Z.heap T89.heap := own_Ext.keep O0 kp89 all0
    have hk89 : T89.heap.size ≤ T89.heap.size := Nat.le_refl _
    refine Go.st (S' := T89.setTop (mkF m 132 #[.val (.int p1), .val (.int p2), .val (.int p3), .val (.int p4), .val (.int kk), .val (.int lt), .val (.int c0), .val (.int c1), .val (.int sm), .val (.int d0), .val (.int d1), .val (.int ls), .val (.int s0), .val (.int s1), .unset, .unset, .unset, .unset, .unset] [(.ref sb89)])) st89 ?_
    refine Go.st (S' := T89.setTop (mkF m 134 #[.val (.int p1), .val (.int p2), .val (.int p3), .val (.int p4), .val (.int kk), .val (.int lt), .val (.int c0), .val (.int c1), .val (.int sm), .val (.int d0), .val (.int d1), .val (.int ls), .val (.int s0), .val (.int s1), .val (.ref sb89), .unset, .unset, .unset, .unset] [])) (fun _ k => XS.astore X89.here hx rfl (hb hby at_132) rfl rfl (l' := #[.val (.int p1), .val (.int p2), .val (.int p3), .val (.int p4), .val (.int kk), .val (.int lt), .val (.int c0), .val (.int c1), .val (.int sm), .val (.int d0), .val (.int d1), .val (.int ls), .val (.int s0), .val (.int s1), .val (.ref sb89), .unset, .unset, .unset, .unset]) rfl k) ?_
    refine Go.st (S' := T89.setTop (mkF m 136 #[.val (.int p1), .val (.int p2), .val (.int p3), .val (.int p4), .val (.int kk), .val (.int lt), .val (.int c0), .val (.int c1), .val (.int sm), .val (.int d0), .val (.int d1), .val (.int ls), .val (.int s0), .val (.int s1), .val (.ref sb89), .unset, .unset, .unset, .unset] [(.int ls)])) (fun _ k => XS.iload X89.here hx rfl (hb hby at_134) rfl k) ?_
    refine Go.st (S' := T89.setTop (mkF m 138 #[.val (.int p1), .val (.int p2), .val (.int p3), .val (.int p4), .val (.int kk), .val (.int lt), .val (.int c0), .val (.int c1), .val (.int sm), .val (.int d0), .val (.int d1), .val (.int ls), .val (.int s0), .val (.int s1), .val (.ref sb89), .unset, .unset, .unset, .unset] [(.int s0), (.int ls)])) (fun _ k => XS.iload X89.here hx rfl (hb hby at_136) rfl k) ?_
    refine Go.st (S' := T89.setTop (mkF m 140 #[.val (.int p1), .val (.int p2), .val (.int p3), .val (.int p4), .val (.int kk), .val (.int lt), .val (.int c0), .val (.int c1), .val (.int sm), .val (.int d0), .val (.int d1), .val (.int ls), .val (.int s0), .val (.int s1), .val (.ref sb89), .unset, .unset, .unset, .unset] [(.int s1), (.int s0), (.int ls)])) (fun _ k => XS.iload X89.here hx rfl (hb hby at_138) rfl k) ?_
    obtain ⟨_, T90, L90, X90, ⟨⟨sb90, vb90, kv90, rfl, ss90, es90, fc90, fv90, vv90⟩, Nq90, kp90⟩, hS90, hZ, hown, C90, st90⟩ := own_callSH X89 hx hZ hS89 hk89 hEL C89 hown (ww hw 1 rfl) (ww hw 2 rfl) (ww hw 3 rfl) (ww hw 4 rfl) (by decide) rfl (rmStr l Z a0 hw [] w_IDENTIFIER w_SYMBOL w_NUMBER w_STRING w_NAMED_PARAMETER w_POSITIONAL_PARAMETER w_END zc hS ls s0 s1 hls hs0 hs1 T89.heap O89) 0 (by decide) (by decide) (by decide) (by decide) (g := (mkF m 140 #[.val (.int p1), .val (.int p2), .val (.int p3), .val (.int p4), .val (.int kk), .val (.int lt), .val (.int c0), .val (.int c1), .val (.int sm), .val (.int d0), .val (.int d1), .val (.int ls), .val (.int s0), .val (.int s1), .val (.ref sb89), .unset, .unset, .unset, .unset] [(.int s1), (.int s0), (.int ls)])) rfl (by rw [hml]; rfl) [(.int ls), (.int s0), (.int s1)] [] rfl (lenOf pd_907255 rfl) rfl (by show 2 * 0 + _ ≤ _; exact Nat.le_of_eq rfl) (hb hby at_140)
    have N90 := Fr.app N89 Nq90
    have ne_sb89_sb90 : sb89 ≠ sb90 := own_lt_ne' es89.lt ss90
    have ne_vb89_sb90 : vb89 ≠ sb90 := own_lt_ne' vv89.lt ss90
    have O90 : Ext Z.heap T90.heap := own_Ext.keep O89 kp90 all0
    have hk90 : T90.heap.size ≤ T90.heap.size := Nat.le_refl _
    refine Go.st (S' := T90.setTop (mkF m 143 #[.val (.int p1), .val (.int p2), .val (.int p3), .val (.int p4), .val (.int kk), .val (.int lt), .val (.int c0), .val (.int c1), .val (.int sm), .val (.int d0), .val (.int d1), .val (.int ls), .val (.int s0), .val (.int s1), .val (.ref sb89), .unset, .unset, .unset, .unset] [(.ref sb90)])) st90 ?_
    refine Go.st (S' := T90.setTop (mkF m 145 #[.val (.int p1), .val (.int p2), .val (.int p3), .val (.int p4), .val (.int kk), .val (.int lt), .val (.int c0), .val (.int c1), .val (.int sm), .val (.int d0), .val (.int d1), .val (.int ls), .val (.int s0), .val (.int s1), .val (.ref sb89), .val (.ref sb90), .unset, .unset, .unset] [])) (fun _ k => XS.astore X90.here hx rfl (hb hby at_143) rfl rfl (l' := #[.val (.int p1), .val (.int p2), .val (.int p3), .val (.int p4), .val (.int kk), .val (.int lt), .val (.int c0), .val (.int c1), .val (.int sm), .val (.int d0), .val (.int d1), .val (.int ls), .val (.int s0), .val (.int s1), .val (.ref sb89), .val (.ref sb90), .unset, .unset, .unset]) rfl k) ?_
    obtain ⟨T91, h91, X91, e91, E91, A91, D91, -, st91⟩ := newO X90 hx hZ hown (ww hw 27 rfl) (ww hw 28 rfl) (ww hw 29 rfl) rfl (g := (mkF m 145 #[.val (.int p1), .val (.int p2), .val (.int p3), .val (.int p4), .val (.int kk), .val (.int lt), .val (.int c0), .val (.int c1), .val (.int sm), .val (.int d0), .val (.int d1), .val (.int ls), .val (.int s0), .val (.int s1), .val (.ref sb89), .val (.ref sb90), .unset, .unset, .unset] [])) rfl (hb hby at_145) (by decide) (by decide)
    obtain ⟨b91, g91⟩ : ∃ z, z = T90.heap.size := ⟨_, rfl⟩
    rw [← g91] at A91 D91 st91
    have gz91 : Z.heap.size ≤ b91 := Nat.le_trans O90.1 (Nat.le_of_eq g91.symm)
    have ne_sb89_b91 : sb89 ≠ b91 := own_lt_ne (es89.keep kp90).lt g91
    have ne_vb89_b91 : vb89 ≠ b91 := own_lt_ne (vv89.keep kp90 nin0).lt g91
    have ne_sb90_b91 : sb90 ≠ b91 := own_lt_ne es90.lt g91
    have ne_vb90_b91 : vb90 ≠ b91 := own_lt_ne vv90.lt g91
    have O91 : Ext Z.heap h91 := own_Ext.trans O90 E91
    have hk91 := Nat.le_trans hk90 E91.1
    have F91_kind : Fld Z h91 b91 "com/example/instances_to_rows/instancestorows/query/Lexer$Token" "kind" "Lcom/example/instances_to_rows/instancestorows/query/Lexer$Kind;" .null := D91 (Or.inr (ww hw 46 rfl)) (ty := (.object "com/example/instances_to_rows/instancestorows/query/Lexer$Kind")) pf_451606
    have F91_text : Fld Z h91 b91 "com/example/instances_to_rows/instancestorows/query/Lexer$Token" "text" "Ljava/lang/String;" .null := D91 (Or.inr (ww hw 48 rfl)) (ty := (.object "java/lang/String")) pf_441095
    have F91_position : Fld Z h91 b91 "com/example/instances_to_rows/instancestorows/query/Lexer$Token" "position" "I" (.int (0 : Int32)) := D91 (Or.inr (ww hw 50 rfl)) (ty := .int) pf_990
    refine Go.st (S' := T91.setTop (mkF m 148 #[.val (.int p1), .val (.int p2), .val (.int p3), .val (.int p4), .val (.int kk), .val (.int lt), .val (.int c0), .val (.int c1), .val (.int sm), .val (.int d0), .val (.int d1), .val (.int ls), .val (.int s0), .val (.int s1), .val (.ref sb89), .val (.ref sb90), .unset, .unset, .unset] [(.ref b91)])) st91 ?_
    refine Go.st (S' := T91.setTop (mkF m 149 #[.val (.int p1), .val (.int p2), .val (.int p3), .val (.int p4), .val (.int kk), .val (.int lt), .val (.int c0), .val (.int c1), .val (.int sm), .val (.int d0), .val (.int d1), .val (.int ls), .val (.int s0), .val (.int s1), .val (.ref sb89), .val (.ref sb90), .unset, .unset, .unset] [(.ref b91), (.ref b91)])) (fun _ k => XS.dup X91.here hx rfl (hb hby at_148) rfl rfl k) ?_
    refine Go.st (S' := T91.setTop (mkF m 151 #[.val (.int p1), .val (.int p2), .val (.int p3), .val (.int p4), .val (.int kk), .val (.int lt), .val (.int c0), .val (.int c1), .val (.int sm), .val (.int d0), .val (.int d1), .val (.int ls), .val (.int s0), .val (.int s1), .val (.ref sb89), .val (.ref sb90), .unset, .unset, .unset] [(.int kk), (.ref b91), (.ref b91)])) (fun _ k => XS.iload X91.here hx rfl (hb hby at_149) rfl k) ?_
    obtain ⟨_, T92, L92, X92, ⟨⟨w92, rfl, hk92⟩, Nq92, eq92⟩, st92⟩ := own_callS X91 hx hZ hown (ww hw 30 rfl) (ww hw 31 rfl) (ww hw 3 rfl) (ww hw 32 rfl) (by decide) e91 (rmKo l Z a0 hw [] w_IDENTIFIER w_SYMBOL w_NUMBER w_STRING w_NAMED_PARAMETER w_POSITIONAL_PARAMETER w_END zc hS kk h91 O91) 2 (by decide) (by decide) (by decide) (by decide) (g := (mkF m 151 #[.val (.int p1), .val (.int p2), .val (.int p3), .val (.int p4), .val (.int kk), .val (.int lt), .val (.int c0), .val (.int c1), .val (.int sm), .val (.int d0), .val (.int d1), .val (.int ls), .val (.int s0), .val (.int s1), .val (.ref sb89), .val (.ref sb90), .unset, .unset, .unset] [(.int kk), (.ref b91), (.ref b91)])) rfl (by rw [hml]; rfl) [(.int kk)] [(.ref b91), (.ref b91)] rfl (lenOf pd_39079 rfl) rfl (by show 2 * 0 + _ ≤ _; exact Nat.le_of_eq rfl) (hb hby at_151)
    have N92 := Fr.app N90 Nq92
    refine Go.st (S' := T92.setTop (mkF m 154 #[.val (.int p1), .val (.int p2), .val (.int p3), .val (.int p4), .val (.int kk), .val (.int lt), .val (.int c0), .val (.int c1), .val (.int sm), .val (.int d0), .val (.int d1), .val (.int ls), .val (.int s0), .val (.int s1), .val (.ref sb89), .val (.ref sb90), .unset, .unset, .unset] [(.ref w92), (.ref b91), (.ref b91)])) st92 ?_
    refine Go.st (S' := T92.setTop (mkF m 156 #[.val (.int p1), .val (.int p2), .val (.int p3), .val (.int p4), .val (.int kk), .val (.int lt), .val (.int c0), .val (.int c1), .val (.int sm), .val (.int d0), .val (.int d1), .val (.int ls), .val (.int s0), .val (.int s1), .val (.ref sb89), .val (.ref sb90), .unset, .unset, .unset] [(.ref sb89), (.ref w92), (.ref b91), (.ref b91)])) (fun _ k => XS.aload X92.here hx rfl (hb hby at_154) rfl rfl k) ?_
    refine Go.st (S' := T92.setTop (mkF m 157 #[.val (.int p1), .val (.int p2), .val (.int p3), .val (.int p4), .val (.int kk), .val (.int lt), .val (.int c0), .val (.int c1), .val (.int sm), .val (.int d0), .val (.int d1), .val (.int ls), .val (.int s0), .val (.int s1), .val (.ref sb89), .val (.ref sb90), .unset, .unset, .unset] [(.int p4), (.ref sb89), (.ref w92), (.ref b91), (.ref b91)])) (fun _ k => XS.iloadN X92.here hx rfl (hb hby at_156) rfl k) ?_
    obtain ⟨_, T93, L93, X93, ⟨rfl, Nq93, kp93, fk93, ft93⟩, st93⟩ := own_callI X92 hx hZ rfl hown (ww hw 36 rfl) (ww hw 37 rfl) (ww hw 29 rfl) (ww hw 38 rfl) (by decide) eq92 (rmTk l Z a0 hw [] w_IDENTIFIER w_SYMBOL w_NUMBER w_STRING w_NAMED_PARAMETER w_POSITIONAL_PARAMETER w_END zc hS b91 w92 sb89 p4 h91 O91 gz91 A91 F91_kind F91_text F91_position ) 1 (by decide) (by decide) (by decide) (by decide) (g := (mkF m 157 #[.val (.int p1), .val (.int p2), .val (.int p3), .val (.int p4), .val (.int kk), .val (.int lt), .val (.int c0), .val (.int c1), .val (.int sm), .val (.int d0), .val (.int d1), .val (.int ls), .val (.int s0), .val (.int s1), .val (.ref sb89), .val (.ref sb90), .unset, .unset, .unset] [(.int p4), (.ref sb89), (.ref w92), (.ref b91), (.ref b91)])) rfl (by rw [hml]; rfl) [(.ref w92), (.ref sb89), (.int p4)] [(.ref b91)] rfl (lenOf pd_22229 rfl) rfl (by show 2 * 0 + _ ≤ _; exact Nat.le_of_eq rfl) (hb hby at_157)
    have N93 := Fr.app N92 Nq93
    have O93 : Ext Z.heap T93.heap := own_Ext.keep O91 kp93 (allS gz91 all0)
    have hk93 := Nat.le_trans hk91 kp93.1
    refine Go.st (S' := T93.setTop (mkF m 160 #[.val (.int p1), .val (.int p2), .val (.int p3), .val (.int p4), .val (.int kk), .val (.int lt), .val (.int c0), .val (.int c1), .val (.int sm), .val (.int d0), .val (.int d1), .val (.int ls), .val (.int s0), .val (.int s1), .val (.ref sb89), .val (.ref sb90), .unset, .unset, .unset] [(.ref b91)])) st93 ?_
    refine Go.st (S' := T93.setTop (mkF m 162 #[.val (.int p1), .val (.int p2), .val (.int p3), .val (.int p4), .val (.int kk), .val (.int lt), .val (.int c0), .val (.int c1), .val (.int sm), .val (.int d0), .val (.int d1), .val (.int ls), .val (.int s0), .val (.int s1), .val (.ref sb89), .val (.ref sb90), .val (.ref b91), .unset, .unset] [])) (fun _ k => XS.astore X93.here hx rfl (hb hby at_160) rfl rfl (l' := #[.val (.int p1), .val (.int p2), .val (.int p3), .val (.int p4), .val (.int kk), .val (.int lt), .val (.int c0), .val (.int c1), .val (.int sm), .val (.int d0), .val (.int d1), .val (.int ls), .val (.int s0), .val (.int s1), .val (.ref sb89), .val (.ref sb90), .val (.ref b91), .unset, .unset]) rfl k) ?_
    refine Go.st (S' := T93.setTop (mkF m 164 #[.val (.int p1), .val (.int p2), .val (.int p3), .val (.int p4), .val (.int kk), .val (.int lt), .val (.int c0), .val (.int c1), .val (.int sm), .val (.int d0), .val (.int d1), .val (.int ls), .val (.int s0), .val (.int s1), .val (.ref sb89), .val (.ref sb90), .val (.ref b91), .unset, .unset] [(.ref b91)])) (fun _ k => XS.aload X93.here hx rfl (hb hby at_162) rfl rfl k) ?_
    refine Go.st (S' := T93.setTop (mkF m 166 #[.val (.int p1), .val (.int p2), .val (.int p3), .val (.int p4), .val (.int kk), .val (.int lt), .val (.int c0), .val (.int c1), .val (.int sm), .val (.int d0), .val (.int d1), .val (.int ls), .val (.int s0), .val (.int s1), .val (.ref sb89), .val (.ref sb90), .val (.ref b91), .unset, .unset] [(.ref sb90), (.ref b91)])) (fun _ k => XS.aload X93.here hx rfl (hb hby at_164) rfl rfl k) ?_
    obtain ⟨_, T94, L94, X94, ⟨rfl, Nq94, eq94⟩, st94⟩ := own_callV X93 hx hZ hown (ww hw 51 rfl) (ww hw 52 rfl) (notFace_of_selects (args := #[]) (mvT hZ (ww hw 54 rfl))) (ww hw 54 rfl) (ww hw 53 rfl) (ww hw 29 rfl) (ww hw 55 rfl) (by decide) rfl (A91.keep kp93) (rmIs l Z a0 hw [] w_IDENTIFIER w_SYMBOL w_NUMBER w_STRING w_NAMED_PARAMETER w_POSITIONAL_PARAMETER w_END zc hS b91 sb90 sb89 vb89 vb90 w92 kk hk92 kv89 kv90 lt ls (strL lt c0 c1) (strL ls s0 s1) (own_sl hlt).1 (own_sl hls).1 (own_sl hlt).2 T93.heap O93 ne_sb89_sb90 (A91.keep kp93) fk93 ft93 (((es89.keep kp90).ext E91).keep kp93) (((fc89.keep kp90 nin0).ext E91).keep kp93 (ninS ne_sb89_b91 nin0)) (((fv89.keep kp90 nin0).ext E91).keep kp93 (ninS ne_sb89_b91 nin0)) (((vv89.keep kp90 nin0).ext E91).keep kp93 (ninS ne_vb89_b91 nin0)) ((es90.ext E91).keep kp93) ((fc90.ext E91).keep kp93 (ninS ne_sb90_b91 nin0)) ((fv90.ext E91).keep kp93 (ninS ne_sb90_b91 nin0)) ((vv90.ext E91).keep kp93 (ninS ne_vb90_b91 nin0))) 0 (by decide) (by decide) (by decide) (by decide) (g := (mkF m 166 #[.val (.int p1), .val (.int p2), .val (.int p3), .val (.int p4), .val (.int kk), .val (.int lt), .val (.int c0), .val (.int c1), .val (.int sm), .val (.int d0), .val (.int d1), .val (.int ls), .val (.int s0), .val (.int s1), .val (.ref sb89), .val (.ref sb90), .val (.ref b91), .unset, .unset] [(.ref sb90), (.ref b91)])) rfl (by rw [hml]; rfl) [(.ref sb90)] [] rfl (lenOf pd_310006 rfl) rfl (by show 2 * 0 + _ ≤ _; exact Nat.le_of_eq rfl) (hb hby at_166)
    have N94 := Fr.app N93 Nq94
    refine Go.st (S' := T94.setTop (mkF m 169 #[.val (.int p1), .val (.int p2), .val (.int p3), .val (.int p4), .val (.int kk), .val (.int lt), .val (.int c0), .val (.int c1), .val (.int sm), .val (.int d0), .val (.int d1), .val (.int ls), .val (.int s0), .val (.int s1), .val (.ref sb89), .val (.ref sb90), .val (.ref b91), .unset, .unset] [(.int (isF kk (strL lt c0 c1) (strL ls s0 s1)))])) st94 ?_
    refine Go.st (S' := T94.setTop (mkF m 171 #[.val (.int p1), .val (.int p2), .val (.int p3), .val (.int p4), .val (.int kk), .val (.int lt), .val (.int c0), .val (.int c1), .val (.int sm), .val (.int d0), .val (.int d1), .val (.int ls), .val (.int s0), .val (.int s1), .val (.ref sb89), .val (.ref sb90), .val (.ref b91), .val (.int (isF kk (strL lt c0 c1) (strL ls s0 s1))), .unset] [])) (fun _ k => XS.istore X94.here hx rfl (hb hby at_169) rfl (l' := #[.val (.int p1), .val (.int p2), .val (.int p3), .val (.int p4), .val (.int kk), .val (.int lt), .val (.int c0), .val (.int c1), .val (.int sm), .val (.int d0), .val (.int d1), .val (.int ls), .val (.int s0), .val (.int s1), .val (.ref sb89), .val (.ref sb90), .val (.ref b91), .val (.int (isF kk (strL lt c0 c1) (strL ls s0 s1))), .unset]) rfl k) ?_
    refine Go.st (S' := T94.setTop (mkF m 173 #[.val (.int p1), .val (.int p2), .val (.int p3), .val (.int p4), .val (.int kk), .val (.int lt), .val (.int c0), .val (.int c1), .val (.int sm), .val (.int d0), .val (.int d1), .val (.int ls), .val (.int s0), .val (.int s1), .val (.ref sb89), .val (.ref sb90), .val (.ref b91), .val (.int (isF kk (strL lt c0 c1) (strL ls s0 s1))), .unset] [(.int kk)])) (fun _ k => XS.iload X94.here hx rfl (hb hby at_171) rfl k) ?_
    refine Go.st (S' := T94.setTop (mkF m 174 #[.val (.int p1), .val (.int p2), .val (.int p3), .val (.int p4), .val (.int kk), .val (.int lt), .val (.int c0), .val (.int c1), .val (.int sm), .val (.int d0), .val (.int d1), .val (.int ls), .val (.int s0), .val (.int s1), .val (.ref sb89), .val (.ref sb90), .val (.ref b91), .val (.int (isF kk (strL lt c0 c1) (strL ls s0 s1))), .unset] [(.int (5 : Int32)), (.int kk)])) (fun _ k => XS.iconst X94.here hx rfl (hb hby at_173) k) ?_
    by_cases hc174 : kk = (5 : Int32)
    · refine Go.st (S' := T94.setTop (mkF m 177 #[.val (.int p1), .val (.int p2), .val (.int p3), .val (.int p4), .val (.int kk), .val (.int lt), .val (.int c0), .val (.int c1), .val (.int sm), .val (.int d0), .val (.int d1), .val (.int ls), .val (.int s0), .val (.int s1), .val (.ref sb89), .val (.ref sb90), .val (.ref b91), .val (.int (isF kk (strL lt c0 c1) (strL ls s0 s1))), .unset] [])) (fun _ k => XS.icmpNo X94.here hx rfl (hb hby at_174) rfl (teq hc174).2 k) ?_
      refine Go.st (S' := T94.setTop (mkF m 179 #[.val (.int p1), .val (.int p2), .val (.int p3), .val (.int p4), .val (.int kk), .val (.int lt), .val (.int c0), .val (.int c1), .val (.int sm), .val (.int d0), .val (.int d1), .val (.int ls), .val (.int s0), .val (.int s1), .val (.ref sb89), .val (.ref sb90), .val (.ref b91), .val (.int (isF kk (strL lt c0 c1) (strL ls s0 s1))), .unset] [(.int lt)])) (fun _ k => XS.iload X94.here hx rfl (hb hby at_177) rfl k) ?_
      refine Go.st (S' := T94.setTop (mkF m 181 #[.val (.int p1), .val (.int p2), .val (.int p3), .val (.int p4), .val (.int kk), .val (.int lt), .val (.int c0), .val (.int c1), .val (.int sm), .val (.int d0), .val (.int d1), .val (.int ls), .val (.int s0), .val (.int s1), .val (.ref sb89), .val (.ref sb90), .val (.ref b91), .val (.int (isF kk (strL lt c0 c1) (strL ls s0 s1))), .unset] [(.int ls), (.int lt)])) (fun _ k => XS.iload X94.here hx rfl (hb hby at_179) rfl k) ?_
      by_cases hc181 : lt = ls
      · refine Go.st (S' := T94.setTop (mkF m 184 #[.val (.int p1), .val (.int p2), .val (.int p3), .val (.int p4), .val (.int kk), .val (.int lt), .val (.int c0), .val (.int c1), .val (.int sm), .val (.int d0), .val (.int d1), .val (.int ls), .val (.int s0), .val (.int s1), .val (.ref sb89), .val (.ref sb90), .val (.ref b91), .val (.int (isF kk (strL lt c0 c1) (strL ls s0 s1))), .unset] [])) (fun _ k => XS.icmpNo X94.here hx rfl (hb hby at_181) rfl (teq hc181).2 k) ?_
        refine Go.st (S' := T94.setTop (mkF m 186 #[.val (.int p1), .val (.int p2), .val (.int p3), .val (.int p4), .val (.int kk), .val (.int lt), .val (.int c0), .val (.int c1), .val (.int sm), .val (.int d0), .val (.int d1), .val (.int ls), .val (.int s0), .val (.int s1), .val (.ref sb89), .val (.ref sb90), .val (.ref b91), .val (.int (isF kk (strL lt c0 c1) (strL ls s0 s1))), .unset] [(.int lt)])) (fun _ k => XS.iload X94.here hx rfl (hb hby at_184) rfl k) ?_
        refine Go.st (S' := T94.setTop (mkF m 187 #[.val (.int p1), .val (.int p2), .val (.int p3), .val (.int p4), .val (.int kk), .val (.int lt), .val (.int c0), .val (.int c1), .val (.int sm), .val (.int d0), .val (.int d1), .val (.int ls), .val (.int s0), .val (.int s1), .val (.ref sb89), .val (.ref sb90), .val (.ref b91), .val (.int (isF kk (strL lt c0 c1) (strL ls s0 s1))), .unset] [(.int (1 : Int32)), (.int lt)])) (fun _ k => XS.iconst X94.here hx rfl (hb hby at_186) k) ?_
        by_cases hc187 : lt < (1 : Int32)
        · refine Go.st (S' := T94.setTop (mkF m 197 #[.val (.int p1), .val (.int p2), .val (.int p3), .val (.int p4), .val (.int kk), .val (.int lt), .val (.int c0), .val (.int c1), .val (.int sm), .val (.int d0), .val (.int d1), .val (.int ls), .val (.int s0), .val (.int s1), .val (.ref sb89), .val (.ref sb90), .val (.ref b91), .val (.int (isF kk (strL lt c0 c1) (strL ls s0 s1))), .unset] [])) (fun _ k => XS.icmpYes X94.here hx rfl (pc0 := 187) (pc' := 197) rfl (hb hby at_187) rfl (tlt hc187).1 (by decide) (by decide) k) ?_
          refine Go.st (S' := T94.setTop (mkF m 199 #[.val (.int p1), .val (.int p2), .val (.int p3), .val (.int p4), .val (.int kk), .val (.int lt), .val (.int c0), .val (.int c1), .val (.int sm), .val (.int d0), .val (.int d1), .val (.int ls), .val (.int s0), .val (.int s1), .val (.ref sb89), .val (.ref sb90), .val (.ref b91), .val (.int (isF kk (strL lt c0 c1) (strL ls s0 s1))), .unset] [(.int lt)])) (fun _ k => XS.iload X94.here hx rfl (hb hby at_197) rfl k) ?_
          refine Go.st (S' := T94.setTop (mkF m 200 #[.val (.int p1), .val (.int p2), .val (.int p3), .val (.int p4), .val (.int kk), .val (.int lt), .val (.int c0), .val (.int c1), .val (.int sm), .val (.int d0), .val (.int d1), .val (.int ls), .val (.int s0), .val (.int s1), .val (.ref sb89), .val (.ref sb90), .val (.ref b91), .val (.int (isF kk (strL lt c0 c1) (strL ls s0 s1))), .unset] [(.int (2 : Int32)), (.int lt)])) (fun _ k => XS.iconst X94.here hx rfl (hb hby at_199) k) ?_
          by_cases hc200 : lt < (2 : Int32)
          · refine Go.st (S' := T94.setTop (mkF m 210 #[.val (.int p1), .val (.int p2), .val (.int p3), .val (.int p4), .val (.int kk), .val (.int lt), .val (.int c0), .val (.int c1), .val (.int sm), .val (.int d0), .val (.int d1), .val (.int ls), .val (.int s0), .val (.int s1), .val (.ref sb89), .val (.ref sb90), .val (.ref b91), .val (.int (isF kk (strL lt c0 c1) (strL ls s0 s1))), .unset] [])) (fun _ k => XS.icmpYes X94.here hx rfl (pc0 := 200) (pc' := 210) rfl (hb hby at_200) rfl (tlt hc200).1 (by decide) (by decide) k) ?_
            refine Go.st (S' := T94.setTop (mkF m 211 #[.val (.int p1), .val (.int p2), .val (.int p3), .val (.int p4), .val (.int kk), .val (.int lt), .val (.int c0), .val (.int c1), .val (.int sm), .val (.int d0), .val (.int d1), .val (.int ls), .val (.int s0), .val (.int s1), .val (.ref sb89), .val (.ref sb90), .val (.ref b91), .val (.int (isF kk (strL lt c0 c1) (strL ls s0 s1))), .unset] [(.int (1 : Int32))])) (fun _ k => XS.iconst X94.here hx rfl (hb hby at_210) k) ?_
            refine Go.st (S' := T94.setTop (mkF m 215 #[.val (.int p1), .val (.int p2), .val (.int p3), .val (.int p4), .val (.int kk), .val (.int lt), .val (.int c0), .val (.int c1), .val (.int sm), .val (.int d0), .val (.int d1), .val (.int ls), .val (.int s0), .val (.int s1), .val (.ref sb89), .val (.ref sb90), .val (.ref b91), .val (.int (isF kk (strL lt c0 c1) (strL ls s0 s1))), .unset] [(.int (1 : Int32))])) (fun _ k => XS.goto X94.here hx rfl (pc0 := 211) (pc' := 215) rfl (hb hby at_211) (by decide) (by decide) k) ?_
            refine Go.st (S' := T94.setTop (mkF m 217 #[.val (.int p1), .val (.int p2), .val (.int p3), .val (.int p4), .val (.int kk), .val (.int lt), .val (.int c0), .val (.int c1), .val (.int sm), .val (.int d0), .val (.int d1), .val (.int ls), .val (.int s0), .val (.int s1), .val (.ref sb89), .val (.ref sb90), .val (.ref b91), .val (.int (isF kk (strL lt c0 c1) (strL ls s0 s1))), .val (.int (1 : Int32))] [])) (fun _ k => XS.istore X94.here hx rfl (hb hby at_215) rfl (l' := #[.val (.int p1), .val (.int p2), .val (.int p3), .val (.int p4), .val (.int kk), .val (.int lt), .val (.int c0), .val (.int c1), .val (.int sm), .val (.int d0), .val (.int d1), .val (.int ls), .val (.int s0), .val (.int s1), .val (.ref sb89), .val (.ref sb90), .val (.ref b91), .val (.int (isF kk (strL lt c0 c1) (strL ls s0 s1))), .val (.int (1 : Int32))]) rfl k) ?_
            refine Go.st (S' := T94.setTop (mkF m 219 #[.val (.int p1), .val (.int p2), .val (.int p3), .val (.int p4), .val (.int kk), .val (.int lt), .val (.int c0), .val (.int c1), .val (.int sm), .val (.int d0), .val (.int d1), .val (.int ls), .val (.int s0), .val (.int s1), .val (.ref sb89), .val (.ref sb90), .val (.ref b91), .val (.int (isF kk (strL lt c0 c1) (strL ls s0 s1))), .val (.int (1 : Int32))] [(.int (isF kk (strL lt c0 c1) (strL ls s0 s1)))])) (fun _ k => XS.iload X94.here hx rfl (hb hby at_217) rfl k) ?_
            refine Go.st (S' := T94.setTop (mkF m 221 #[.val (.int p1), .val (.int p2), .val (.int p3), .val (.int p4), .val (.int kk), .val (.int lt), .val (.int c0), .val (.int c1), .val (.int sm), .val (.int d0), .val (.int d1), .val (.int ls), .val (.int s0), .val (.int s1), .val (.ref sb89), .val (.ref sb90), .val (.ref b91), .val (.int (isF kk (strL lt c0 c1) (strL ls s0 s1))), .val (.int (1 : Int32))] [(.int (1 : Int32)), (.int (isF kk (strL lt c0 c1) (strL ls s0 s1)))])) (fun _ k => XS.iload X94.here hx rfl (hb hby at_219) rfl k) ?_
            refine Go.st (S' := T94.setTop (mkF m 224 #[.val (.int p1), .val (.int p2), .val (.int p3), .val (.int p4), .val (.int kk), .val (.int lt), .val (.int c0), .val (.int c1), .val (.int sm), .val (.int d0), .val (.int d1), .val (.int ls), .val (.int s0), .val (.int s1), .val (.ref sb89), .val (.ref sb90), .val (.ref b91), .val (.int (isF kk (strL lt c0 c1) (strL ls s0 s1))), .val (.int (1 : Int32))] [])) (fun _ k => XS.icmpNo X94.here hx rfl (hb hby at_221) rfl (teq (if_pos ⟨hc174, (own_strE hlt hls hc0 hc1 hs0 hs1).mpr ⟨hc181, Or.inl hc187, Or.inl hc200⟩⟩)).2 k) ?_
            refine Go.st (S' := T94.setTop (mkF m 225 #[.val (.int p1), .val (.int p2), .val (.int p3), .val (.int p4), .val (.int kk), .val (.int lt), .val (.int c0), .val (.int c1), .val (.int sm), .val (.int d0), .val (.int d1), .val (.int ls), .val (.int s0), .val (.int s1), .val (.ref sb89), .val (.ref sb90), .val (.ref b91), .val (.int (isF kk (strL lt c0 c1) (strL ls s0 s1))), .val (.int (1 : Int32))] [(.int (1 : Int32))])) (fun _ k => XS.iconst X94.here hx rfl (hb hby at_224) k) ?_
            refine Go.st (S' := T94.setTop (mkF m 229 #[.val (.int p1), .val (.int p2), .val (.int p3), .val (.int p4), .val (.int kk), .val (.int lt), .val (.int c0), .val (.int c1), .val (.int sm), .val (.int d0), .val (.int d1), .val (.int ls), .val (.int s0), .val (.int s1), .val (.ref sb89), .val (.ref sb90), .val (.ref b91), .val (.int (isF kk (strL lt c0 c1) (strL ls s0 s1))), .val (.int (1 : Int32))] [(.int (1 : Int32))])) (fun _ k => XS.goto X94.here hx rfl (pc0 := 225) (pc' := 229) rfl (hb hby at_225) (by decide) (by decide) k) ?_
            exact own_retNW X94 hS90 hk93 hx hlk hret (by simp) (hb hby at_229) eq94 ⟨rfl, N94⟩ (by decide) (by decide)
          · refine Go.st (S' := T94.setTop (mkF m 203 #[.val (.int p1), .val (.int p2), .val (.int p3), .val (.int p4), .val (.int kk), .val (.int lt), .val (.int c0), .val (.int c1), .val (.int sm), .val (.int d0), .val (.int d1), .val (.int ls), .val (.int s0), .val (.int s1), .val (.ref sb89), .val (.ref sb90), .val (.ref b91), .val (.int (isF kk (strL lt c0 c1) (strL ls s0 s1))), .unset] [])) (fun _ k => XS.icmpNo X94.here hx rfl (hb hby at_200) rfl (flt hc200).1 k) ?_
            refine Go.st (S' := T94.setTop (mkF m 205 #[.val (.int p1), .val (.int p2), .val (.int p3), .val (.int p4), .val (.int kk), .val (.int lt), .val (.int c0), .val (.int c1), .val (.int sm), .val (.int d0), .val (.int d1), .val (.int ls), .val (.int s0), .val (.int s1), .val (.ref sb89), .val (.ref sb90), .val (.ref b91), .val (.int (isF kk (strL lt c0 c1) (strL ls s0 s1))), .unset] [(.int s1)])) (fun _ k => XS.iload X94.here hx rfl (hb hby at_203) rfl k) ?_
            refine Go.st (S' := T94.setTop (mkF m 207 #[.val (.int p1), .val (.int p2), .val (.int p3), .val (.int p4), .val (.int kk), .val (.int lt), .val (.int c0), .val (.int c1), .val (.int sm), .val (.int d0), .val (.int d1), .val (.int ls), .val (.int s0), .val (.int s1), .val (.ref sb89), .val (.ref sb90), .val (.ref b91), .val (.int (isF kk (strL lt c0 c1) (strL ls s0 s1))), .unset] [(.int c1), (.int s1)])) (fun _ k => XS.iload X94.here hx rfl (hb hby at_205) rfl k) ?_
            by_cases hc207 : s1 = c1
            · refine Go.st (S' := T94.setTop (mkF m 210 #[.val (.int p1), .val (.int p2), .val (.int p3), .val (.int p4), .val (.int kk), .val (.int lt), .val (.int c0), .val (.int c1), .val (.int sm), .val (.int d0), .val (.int d1), .val (.int ls), .val (.int s0), .val (.int s1), .val (.ref sb89), .val (.ref sb90), .val (.ref b91), .val (.int (isF kk (strL lt c0 c1) (strL ls s0 s1))), .unset] [])) (fun _ k => XS.icmpNo X94.here hx rfl (hb hby at_207) rfl (teq hc207).2 k) ?_
              refine Go.st (S' := T94.setTop (mkF m 211 #[.val (.int p1), .val (.int p2), .val (.int p3), .val (.int p4), .val (.int kk), .val (.int lt), .val (.int c0), .val (.int c1), .val (.int sm), .val (.int d0), .val (.int d1), .val (.int ls), .val (.int s0), .val (.int s1), .val (.ref sb89), .val (.ref sb90), .val (.ref b91), .val (.int (isF kk (strL lt c0 c1) (strL ls s0 s1))), .unset] [(.int (1 : Int32))])) (fun _ k => XS.iconst X94.here hx rfl (hb hby at_210) k) ?_
              refine Go.st (S' := T94.setTop (mkF m 215 #[.val (.int p1), .val (.int p2), .val (.int p3), .val (.int p4), .val (.int kk), .val (.int lt), .val (.int c0), .val (.int c1), .val (.int sm), .val (.int d0), .val (.int d1), .val (.int ls), .val (.int s0), .val (.int s1), .val (.ref sb89), .val (.ref sb90), .val (.ref b91), .val (.int (isF kk (strL lt c0 c1) (strL ls s0 s1))), .unset] [(.int (1 : Int32))])) (fun _ k => XS.goto X94.here hx rfl (pc0 := 211) (pc' := 215) rfl (hb hby at_211) (by decide) (by decide) k) ?_
              refine Go.st (S' := T94.setTop (mkF m 217 #[.val (.int p1), .val (.int p2), .val (.int p3), .val (.int p4), .val (.int kk), .val (.int lt), .val (.int c0), .val (.int c1), .val (.int sm), .val (.int d0), .val (.int d1), .val (.int ls), .val (.int s0), .val (.int s1), .val (.ref sb89), .val (.ref sb90), .val (.ref b91), .val (.int (isF kk (strL lt c0 c1) (strL ls s0 s1))), .val (.int (1 : Int32))] [])) (fun _ k => XS.istore X94.here hx rfl (hb hby at_215) rfl (l' := #[.val (.int p1), .val (.int p2), .val (.int p3), .val (.int p4), .val (.int kk), .val (.int lt), .val (.int c0), .val (.int c1), .val (.int sm), .val (.int d0), .val (.int d1), .val (.int ls), .val (.int s0), .val (.int s1), .val (.ref sb89), .val (.ref sb90), .val (.ref b91), .val (.int (isF kk (strL lt c0 c1) (strL ls s0 s1))), .val (.int (1 : Int32))]) rfl k) ?_
              refine Go.st (S' := T94.setTop (mkF m 219 #[.val (.int p1), .val (.int p2), .val (.int p3), .val (.int p4), .val (.int kk), .val (.int lt), .val (.int c0), .val (.int c1), .val (.int sm), .val (.int d0), .val (.int d1), .val (.int ls), .val (.int s0), .val (.int s1), .val (.ref sb89), .val (.ref sb90), .val (.ref b91), .val (.int (isF kk (strL lt c0 c1) (strL ls s0 s1))), .val (.int (1 : Int32))] [(.int (isF kk (strL lt c0 c1) (strL ls s0 s1)))])) (fun _ k => XS.iload X94.here hx rfl (hb hby at_217) rfl k) ?_
              refine Go.st (S' := T94.setTop (mkF m 221 #[.val (.int p1), .val (.int p2), .val (.int p3), .val (.int p4), .val (.int kk), .val (.int lt), .val (.int c0), .val (.int c1), .val (.int sm), .val (.int d0), .val (.int d1), .val (.int ls), .val (.int s0), .val (.int s1), .val (.ref sb89), .val (.ref sb90), .val (.ref b91), .val (.int (isF kk (strL lt c0 c1) (strL ls s0 s1))), .val (.int (1 : Int32))] [(.int (1 : Int32)), (.int (isF kk (strL lt c0 c1) (strL ls s0 s1)))])) (fun _ k => XS.iload X94.here hx rfl (hb hby at_219) rfl k) ?_
              refine Go.st (S' := T94.setTop (mkF m 224 #[.val (.int p1), .val (.int p2), .val (.int p3), .val (.int p4), .val (.int kk), .val (.int lt), .val (.int c0), .val (.int c1), .val (.int sm), .val (.int d0), .val (.int d1), .val (.int ls), .val (.int s0), .val (.int s1), .val (.ref sb89), .val (.ref sb90), .val (.ref b91), .val (.int (isF kk (strL lt c0 c1) (strL ls s0 s1))), .val (.int (1 : Int32))] [])) (fun _ k => XS.icmpNo X94.here hx rfl (hb hby at_221) rfl (teq (if_pos ⟨hc174, (own_strE hlt hls hc0 hc1 hs0 hs1).mpr ⟨hc181, Or.inl hc187, Or.inr hc207⟩⟩)).2 k) ?_
              refine Go.st (S' := T94.setTop (mkF m 225 #[.val (.int p1), .val (.int p2), .val (.int p3), .val (.int p4), .val (.int kk), .val (.int lt), .val (.int c0), .val (.int c1), .val (.int sm), .val (.int d0), .val (.int d1), .val (.int ls), .val (.int s0), .val (.int s1), .val (.ref sb89), .val (.ref sb90), .val (.ref b91), .val (.int (isF kk (strL lt c0 c1) (strL ls s0 s1))), .val (.int (1 : Int32))] [(.int (1 : Int32))])) (fun _ k => XS.iconst X94.here hx rfl (hb hby at_224) k) ?_
              refine Go.st (S' := T94.setTop (mkF m 229 #[.val (.int p1), .val (.int p2), .val (.int p3), .val (.int p4), .val (.int kk), .val (.int lt), .val (.int c0), .val (.int c1), .val (.int sm), .val (.int d0), .val (.int d1), .val (.int ls), .val (.int s0), .val (.int s1), .val (.ref sb89), .val (.ref sb90), .val (.ref b91), .val (.int (isF kk (strL lt c0 c1) (strL ls s0 s1))), .val (.int (1 : Int32))] [(.int (1 : Int32))])) (fun _ k => XS.goto X94.here hx rfl (pc0 := 225) (pc' := 229) rfl (hb hby at_225) (by decide) (by decide) k) ?_
              exact own_retNW X94 hS90 hk93 hx hlk hret (by simp) (hb hby at_229) eq94 ⟨rfl, N94⟩ (by decide) (by decide)
            · refine Go.st (S' := T94.setTop (mkF m 214 #[.val (.int p1), .val (.int p2), .val (.int p3), .val (.int p4), .val (.int kk), .val (.int lt), .val (.int c0), .val (.int c1), .val (.int sm), .val (.int d0), .val (.int d1), .val (.int ls), .val (.int s0), .val (.int s1), .val (.ref sb89), .val (.ref sb90), .val (.ref b91), .val (.int (isF kk (strL lt c0 c1) (strL ls s0 s1))), .unset] [])) (fun _ k => XS.icmpYes X94.here hx rfl (pc0 := 207) (pc' := 214) rfl (hb hby at_207) rfl (feq hc207).2 (by decide) (by decide) k) ?_
              refine Go.st (S' := T94.setTop (mkF m 215 #[.val (.int p1), .val (.int p2), .val (.int p3), .val (.int p4), .val (.int kk), .val (.int lt), .val (.int c0), .val (.int c1), .val (.int sm), .val (.int d0), .val (.int d1), .val (.int ls), .val (.int s0), .val (.int s1), .val (.ref sb89), .val (.ref sb90), .val (.ref b91), .val (.int (isF kk (strL lt c0 c1) (strL ls s0 s1))), .unset] [(.int (0 : Int32))])) (fun _ k => XS.iconst X94.here hx rfl (hb hby at_214) k) ?_
              refine Go.st (S' := T94.setTop (mkF m 217 #[.val (.int p1), .val (.int p2), .val (.int p3), .val (.int p4), .val (.int kk), .val (.int lt), .val (.int c0), .val (.int c1), .val (.int sm), .val (.int d0), .val (.int d1), .val (.int ls), .val (.int s0), .val (.int s1), .val (.ref sb89), .val (.ref sb90), .val (.ref b91), .val (.int (isF kk (strL lt c0 c1) (strL ls s0 s1))), .val (.int (0 : Int32))] [])) (fun _ k => XS.istore X94.here hx rfl (hb hby at_215) rfl (l' := #[.val (.int p1), .val (.int p2), .val (.int p3), .val (.int p4), .val (.int kk), .val (.int lt), .val (.int c0), .val (.int c1), .val (.int sm), .val (.int d0), .val (.int d1), .val (.int ls), .val (.int s0), .val (.int s1), .val (.ref sb89), .val (.ref sb90), .val (.ref b91), .val (.int (isF kk (strL lt c0 c1) (strL ls s0 s1))), .val (.int (0 : Int32))]) rfl k) ?_
              refine Go.st (S' := T94.setTop (mkF m 219 #[.val (.int p1), .val (.int p2), .val (.int p3), .val (.int p4), .val (.int kk), .val (.int lt), .val (.int c0), .val (.int c1), .val (.int sm), .val (.int d0), .val (.int d1), .val (.int ls), .val (.int s0), .val (.int s1), .val (.ref sb89), .val (.ref sb90), .val (.ref b91), .val (.int (isF kk (strL lt c0 c1) (strL ls s0 s1))), .val (.int (0 : Int32))] [(.int (isF kk (strL lt c0 c1) (strL ls s0 s1)))])) (fun _ k => XS.iload X94.here hx rfl (hb hby at_217) rfl k) ?_
              refine Go.st (S' := T94.setTop (mkF m 221 #[.val (.int p1), .val (.int p2), .val (.int p3), .val (.int p4), .val (.int kk), .val (.int lt), .val (.int c0), .val (.int c1), .val (.int sm), .val (.int d0), .val (.int d1), .val (.int ls), .val (.int s0), .val (.int s1), .val (.ref sb89), .val (.ref sb90), .val (.ref b91), .val (.int (isF kk (strL lt c0 c1) (strL ls s0 s1))), .val (.int (0 : Int32))] [(.int (0 : Int32)), (.int (isF kk (strL lt c0 c1) (strL ls s0 s1)))])) (fun _ k => XS.iload X94.here hx rfl (hb hby at_219) rfl k) ?_
              refine Go.st (S' := T94.setTop (mkF m 224 #[.val (.int p1), .val (.int p2), .val (.int p3), .val (.int p4), .val (.int kk), .val (.int lt), .val (.int c0), .val (.int c1), .val (.int sm), .val (.int d0), .val (.int d1), .val (.int ls), .val (.int s0), .val (.int s1), .val (.ref sb89), .val (.ref sb90), .val (.ref b91), .val (.int (isF kk (strL lt c0 c1) (strL ls s0 s1))), .val (.int (0 : Int32))] [])) (fun _ k => XS.icmpNo X94.here hx rfl (hb hby at_221) rfl (teq (if_neg fun q => ((own_strE hlt hls hc0 hc1 hs0 hs1).mp q.2).2.2.elim hc200 hc207)).2 k) ?_
              refine Go.st (S' := T94.setTop (mkF m 225 #[.val (.int p1), .val (.int p2), .val (.int p3), .val (.int p4), .val (.int kk), .val (.int lt), .val (.int c0), .val (.int c1), .val (.int sm), .val (.int d0), .val (.int d1), .val (.int ls), .val (.int s0), .val (.int s1), .val (.ref sb89), .val (.ref sb90), .val (.ref b91), .val (.int (isF kk (strL lt c0 c1) (strL ls s0 s1))), .val (.int (0 : Int32))] [(.int (1 : Int32))])) (fun _ k => XS.iconst X94.here hx rfl (hb hby at_224) k) ?_
              refine Go.st (S' := T94.setTop (mkF m 229 #[.val (.int p1), .val (.int p2), .val (.int p3), .val (.int p4), .val (.int kk), .val (.int lt), .val (.int c0), .val (.int c1), .val (.int sm), .val (.int d0), .val (.int d1), .val (.int ls), .val (.int s0), .val (.int s1), .val (.ref sb89), .val (.ref sb90), .val (.ref b91), .val (.int (isF kk (strL lt c0 c1) (strL ls s0 s1))), .val (.int (0 : Int32))] [(.int (1 : Int32))])) (fun _ k => XS.goto X94.here hx rfl (pc0 := 225) (pc' := 229) rfl (hb hby at_225) (by decide) (by decide) k) ?_
              exact own_retNW X94 hS90 hk93 hx hlk hret (by simp) (hb hby at_229) eq94 ⟨rfl, N94⟩ (by decide) (by decide)
        · refine Go.st (S' := T94.setTop (mkF m 190 #[.val (.int p1), .val (.int p2), .val (.int p3), .val (.int p4), .val (.int kk), .val (.int lt), .val (.int c0), .val (.int c1), .val (.int sm), .val (.int d0), .val (.int d1), .val (.int ls), .val (.int s0), .val (.int s1), .val (.ref sb89), .val (.ref sb90), .val (.ref b91), .val (.int (isF kk (strL lt c0 c1) (strL ls s0 s1))), .unset] [])) (fun _ k => XS.icmpNo X94.here hx rfl (hb hby at_187) rfl (flt hc187).1 k) ?_
          refine Go.st (S' := T94.setTop (mkF m 192 #[.val (.int p1), .val (.int p2), .val (.int p3), .val (.int p4), .val (.int kk), .val (.int lt), .val (.int c0), .val (.int c1), .val (.int sm), .val (.int d0), .val (.int d1), .val (.int ls), .val (.int s0), .val (.int s1), .val (.ref sb89), .val (.ref sb90), .val (.ref b91), .val (.int (isF kk (strL lt c0 c1) (strL ls s0 s1))), .unset] [(.int s0)])) (fun _ k => XS.iload X94.here hx rfl (hb hby at_190) rfl k) ?_
          refine Go.st (S' := T94.setTop (mkF m 194 #[.val (.int p1), .val (.int p2), .val (.int p3), .val (.int p4), .val (.int kk), .val (.int lt), .val (.int c0), .val (.int c1), .val (.int sm), .val (.int d0), .val (.int d1), .val (.int ls), .val (.int s0), .val (.int s1), .val (.ref sb89), .val (.ref sb90), .val (.ref b91), .val (.int (isF kk (strL lt c0 c1) (strL ls s0 s1))), .unset] [(.int c0), (.int s0)])) (fun _ k => XS.iload X94.here hx rfl (hb hby at_192) rfl k) ?_
          by_cases hc194 : s0 = c0
          · refine Go.st (S' := T94.setTop (mkF m 197 #[.val (.int p1), .val (.int p2), .val (.int p3), .val (.int p4), .val (.int kk), .val (.int lt), .val (.int c0), .val (.int c1), .val (.int sm), .val (.int d0), .val (.int d1), .val (.int ls), .val (.int s0), .val (.int s1), .val (.ref sb89), .val (.ref sb90), .val (.ref b91), .val (.int (isF kk (strL lt c0 c1) (strL ls s0 s1))), .unset] [])) (fun _ k => XS.icmpNo X94.here hx rfl (hb hby at_194) rfl (teq hc194).2 k) ?_
            refine Go.st (S' := T94.setTop (mkF m 199 #[.val (.int p1), .val (.int p2), .val (.int p3), .val (.int p4), .val (.int kk), .val (.int lt), .val (.int c0), .val (.int c1), .val (.int sm), .val (.int d0), .val (.int d1), .val (.int ls), .val (.int s0), .val (.int s1), .val (.ref sb89), .val (.ref sb90), .val (.ref b91), .val (.int (isF kk (strL lt c0 c1) (strL ls s0 s1))), .unset] [(.int lt)])) (fun _ k => XS.iload X94.here hx rfl (hb hby at_197) rfl k) ?_
            refine Go.st (S' := T94.setTop (mkF m 200 #[.val (.int p1), .val (.int p2), .val (.int p3), .val (.int p4), .val (.int kk), .val (.int lt), .val (.int c0), .val (.int c1), .val (.int sm), .val (.int d0), .val (.int d1), .val (.int ls), .val (.int s0), .val (.int s1), .val (.ref sb89), .val (.ref sb90), .val (.ref b91), .val (.int (isF kk (strL lt c0 c1) (strL ls s0 s1))), .unset] [(.int (2 : Int32)), (.int lt)])) (fun _ k => XS.iconst X94.here hx rfl (hb hby at_199) k) ?_
            by_cases hc200_1 : lt < (2 : Int32)
            · refine Go.st (S' := T94.setTop (mkF m 210 #[.val (.int p1), .val (.int p2), .val (.int p3), .val (.int p4), .val (.int kk), .val (.int lt), .val (.int c0), .val (.int c1), .val (.int sm), .val (.int d0), .val (.int d1), .val (.int ls), .val (.int s0), .val (.int s1), .val (.ref sb89), .val (.ref sb90), .val (.ref b91), .val (.int (isF kk (strL lt c0 c1) (strL ls s0 s1))), .unset] [])) (fun _ k => XS.icmpYes X94.here hx rfl (pc0 := 200) (pc' := 210) rfl (hb hby at_200) rfl (tlt hc200_1).1 (by decide) (by decide) k) ?_
              refine Go.st (S' := T94.setTop (mkF m 211 #[.val (.int p1), .val (.int p2), .val (.int p3), .val (.int p4), .val (.int kk), .val (.int lt), .val (.int c0), .val (.int c1), .val (.int sm), .val (.int d0), .val (.int d1), .val (.int ls), .val (.int s0), .val (.int s1), .val (.ref sb89), .val (.ref sb90), .val (.ref b91), .val (.int (isF kk (strL lt c0 c1) (strL ls s0 s1))), .unset] [(.int (1 : Int32))])) (fun _ k => XS.iconst X94.here hx rfl (hb hby at_210) k) ?_
              refine Go.st (S' := T94.setTop (mkF m 215 #[.val (.int p1), .val (.int p2), .val (.int p3), .val (.int p4), .val (.int kk), .val (.int lt), .val (.int c0), .val (.int c1), .val (.int sm), .val (.int d0), .val (.int d1), .val (.int ls), .val (.int s0), .val (.int s1), .val (.ref sb89), .val (.ref sb90), .val (.ref b91), .val (.int (isF kk (strL lt c0 c1) (strL ls s0 s1))), .unset] [(.int (1 : Int32))])) (fun _ k => XS.goto X94.here hx rfl (pc0 := 211) (pc' := 215) rfl (hb hby at_211) (by decide) (by decide) k) ?_
              refine Go.st (S' := T94.setTop (mkF m 217 #[.val (.int p1), .val (.int p2), .val (.int p3), .val (.int p4), .val (.int kk), .val (.int lt), .val (.int c0), .val (.int c1), .val (.int sm), .val (.int d0), .val (.int d1), .val (.int ls), .val (.int s0), .val (.int s1), .val (.ref sb89), .val (.ref sb90), .val (.ref b91), .val (.int (isF kk (strL lt c0 c1) (strL ls s0 s1))), .val (.int (1 : Int32))] [])) (fun _ k => XS.istore X94.here hx rfl (hb hby at_215) rfl (l' := #[.val (.int p1), .val (.int p2), .val (.int p3), .val (.int p4), .val (.int kk), .val (.int lt), .val (.int c0), .val (.int c1), .val (.int sm), .val (.int d0), .val (.int d1), .val (.int ls), .val (.int s0), .val (.int s1), .val (.ref sb89), .val (.ref sb90), .val (.ref b91), .val (.int (isF kk (strL lt c0 c1) (strL ls s0 s1))), .val (.int (1 : Int32))]) rfl k) ?_
              refine Go.st (S' := T94.setTop (mkF m 219 #[.val (.int p1), .val (.int p2), .val (.int p3), .val (.int p4), .val (.int kk), .val (.int lt), .val (.int c0), .val (.int c1), .val (.int sm), .val (.int d0), .val (.int d1), .val (.int ls), .val (.int s0), .val (.int s1), .val (.ref sb89), .val (.ref sb90), .val (.ref b91), .val (.int (isF kk (strL lt c0 c1) (strL ls s0 s1))), .val (.int (1 : Int32))] [(.int (isF kk (strL lt c0 c1) (strL ls s0 s1)))])) (fun _ k => XS.iload X94.here hx rfl (hb hby at_217) rfl k) ?_
              refine Go.st (S' := T94.setTop (mkF m 221 #[.val (.int p1), .val (.int p2), .val (.int p3), .val (.int p4), .val (.int kk), .val (.int lt), .val (.int c0), .val (.int c1), .val (.int sm), .val (.int d0), .val (.int d1), .val (.int ls), .val (.int s0), .val (.int s1), .val (.ref sb89), .val (.ref sb90), .val (.ref b91), .val (.int (isF kk (strL lt c0 c1) (strL ls s0 s1))), .val (.int (1 : Int32))] [(.int (1 : Int32)), (.int (isF kk (strL lt c0 c1) (strL ls s0 s1)))])) (fun _ k => XS.iload X94.here hx rfl (hb hby at_219) rfl k) ?_
              refine Go.st (S' := T94.setTop (mkF m 224 #[.val (.int p1), .val (.int p2), .val (.int p3), .val (.int p4), .val (.int kk), .val (.int lt), .val (.int c0), .val (.int c1), .val (.int sm), .val (.int d0), .val (.int d1), .val (.int ls), .val (.int s0), .val (.int s1), .val (.ref sb89), .val (.ref sb90), .val (.ref b91), .val (.int (isF kk (strL lt c0 c1) (strL ls s0 s1))), .val (.int (1 : Int32))] [])) (fun _ k => XS.icmpNo X94.here hx rfl (hb hby at_221) rfl (teq (if_pos ⟨hc174, (own_strE hlt hls hc0 hc1 hs0 hs1).mpr ⟨hc181, Or.inr hc194, Or.inl hc200_1⟩⟩)).2 k) ?_
              refine Go.st (S' := T94.setTop (mkF m 225 #[.val (.int p1), .val (.int p2), .val (.int p3), .val (.int p4), .val (.int kk), .val (.int lt), .val (.int c0), .val (.int c1), .val (.int sm), .val (.int d0), .val (.int d1), .val (.int ls), .val (.int s0), .val (.int s1), .val (.ref sb89), .val (.ref sb90), .val (.ref b91), .val (.int (isF kk (strL lt c0 c1) (strL ls s0 s1))), .val (.int (1 : Int32))] [(.int (1 : Int32))])) (fun _ k => XS.iconst X94.here hx rfl (hb hby at_224) k) ?_
              refine Go.st (S' := T94.setTop (mkF m 229 #[.val (.int p1), .val (.int p2), .val (.int p3), .val (.int p4), .val (.int kk), .val (.int lt), .val (.int c0), .val (.int c1), .val (.int sm), .val (.int d0), .val (.int d1), .val (.int ls), .val (.int s0), .val (.int s1), .val (.ref sb89), .val (.ref sb90), .val (.ref b91), .val (.int (isF kk (strL lt c0 c1) (strL ls s0 s1))), .val (.int (1 : Int32))] [(.int (1 : Int32))])) (fun _ k => XS.goto X94.here hx rfl (pc0 := 225) (pc' := 229) rfl (hb hby at_225) (by decide) (by decide) k) ?_
              exact own_retNW X94 hS90 hk93 hx hlk hret (by simp) (hb hby at_229) eq94 ⟨rfl, N94⟩ (by decide) (by decide)
            · refine Go.st (S' := T94.setTop (mkF m 203 #[.val (.int p1), .val (.int p2), .val (.int p3), .val (.int p4), .val (.int kk), .val (.int lt), .val (.int c0), .val (.int c1), .val (.int sm), .val (.int d0), .val (.int d1), .val (.int ls), .val (.int s0), .val (.int s1), .val (.ref sb89), .val (.ref sb90), .val (.ref b91), .val (.int (isF kk (strL lt c0 c1) (strL ls s0 s1))), .unset] [])) (fun _ k => XS.icmpNo X94.here hx rfl (hb hby at_200) rfl (flt hc200_1).1 k) ?_
              refine Go.st (S' := T94.setTop (mkF m 205 #[.val (.int p1), .val (.int p2), .val (.int p3), .val (.int p4), .val (.int kk), .val (.int lt), .val (.int c0), .val (.int c1), .val (.int sm), .val (.int d0), .val (.int d1), .val (.int ls), .val (.int s0), .val (.int s1), .val (.ref sb89), .val (.ref sb90), .val (.ref b91), .val (.int (isF kk (strL lt c0 c1) (strL ls s0 s1))), .unset] [(.int s1)])) (fun _ k => XS.iload X94.here hx rfl (hb hby at_203) rfl k) ?_
              refine Go.st (S' := T94.setTop (mkF m 207 #[.val (.int p1), .val (.int p2), .val (.int p3), .val (.int p4), .val (.int kk), .val (.int lt), .val (.int c0), .val (.int c1), .val (.int sm), .val (.int d0), .val (.int d1), .val (.int ls), .val (.int s0), .val (.int s1), .val (.ref sb89), .val (.ref sb90), .val (.ref b91), .val (.int (isF kk (strL lt c0 c1) (strL ls s0 s1))), .unset] [(.int c1), (.int s1)])) (fun _ k => XS.iload X94.here hx rfl (hb hby at_205) rfl k) ?_
              by_cases hc207_1 : s1 = c1
              · refine Go.st (S' := T94.setTop (mkF m 210 #[.val (.int p1), .val (.int p2), .val (.int p3), .val (.int p4), .val (.int kk), .val (.int lt), .val (.int c0), .val (.int c1), .val (.int sm), .val (.int d0), .val (.int d1), .val (.int ls), .val (.int s0), .val (.int s1), .val (.ref sb89), .val (.ref sb90), .val (.ref b91), .val (.int (isF kk (strL lt c0 c1) (strL ls s0 s1))), .unset] [])) (fun _ k => XS.icmpNo X94.here hx rfl (hb hby at_207) rfl (teq hc207_1).2 k) ?_
                refine Go.st (S' := T94.setTop (mkF m 211 #[.val (.int p1), .val (.int p2), .val (.int p3), .val (.int p4), .val (.int kk), .val (.int lt), .val (.int c0), .val (.int c1), .val (.int sm), .val (.int d0), .val (.int d1), .val (.int ls), .val (.int s0), .val (.int s1), .val (.ref sb89), .val (.ref sb90), .val (.ref b91), .val (.int (isF kk (strL lt c0 c1) (strL ls s0 s1))), .unset] [(.int (1 : Int32))])) (fun _ k => XS.iconst X94.here hx rfl (hb hby at_210) k) ?_
                refine Go.st (S' := T94.setTop (mkF m 215 #[.val (.int p1), .val (.int p2), .val (.int p3), .val (.int p4), .val (.int kk), .val (.int lt), .val (.int c0), .val (.int c1), .val (.int sm), .val (.int d0), .val (.int d1), .val (.int ls), .val (.int s0), .val (.int s1), .val (.ref sb89), .val (.ref sb90), .val (.ref b91), .val (.int (isF kk (strL lt c0 c1) (strL ls s0 s1))), .unset] [(.int (1 : Int32))])) (fun _ k => XS.goto X94.here hx rfl (pc0 := 211) (pc' := 215) rfl (hb hby at_211) (by decide) (by decide) k) ?_
                refine Go.st (S' := T94.setTop (mkF m 217 #[.val (.int p1), .val (.int p2), .val (.int p3), .val (.int p4), .val (.int kk), .val (.int lt), .val (.int c0), .val (.int c1), .val (.int sm), .val (.int d0), .val (.int d1), .val (.int ls), .val (.int s0), .val (.int s1), .val (.ref sb89), .val (.ref sb90), .val (.ref b91), .val (.int (isF kk (strL lt c0 c1) (strL ls s0 s1))), .val (.int (1 : Int32))] [])) (fun _ k => XS.istore X94.here hx rfl (hb hby at_215) rfl (l' := #[.val (.int p1), .val (.int p2), .val (.int p3), .val (.int p4), .val (.int kk), .val (.int lt), .val (.int c0), .val (.int c1), .val (.int sm), .val (.int d0), .val (.int d1), .val (.int ls), .val (.int s0), .val (.int s1), .val (.ref sb89), .val (.ref sb90), .val (.ref b91), .val (.int (isF kk (strL lt c0 c1) (strL ls s0 s1))), .val (.int (1 : Int32))]) rfl k) ?_
                refine Go.st (S' := T94.setTop (mkF m 219 #[.val (.int p1), .val (.int p2), .val (.int p3), .val (.int p4), .val (.int kk), .val (.int lt), .val (.int c0), .val (.int c1), .val (.int sm), .val (.int d0), .val (.int d1), .val (.int ls), .val (.int s0), .val (.int s1), .val (.ref sb89), .val (.ref sb90), .val (.ref b91), .val (.int (isF kk (strL lt c0 c1) (strL ls s0 s1))), .val (.int (1 : Int32))] [(.int (isF kk (strL lt c0 c1) (strL ls s0 s1)))])) (fun _ k => XS.iload X94.here hx rfl (hb hby at_217) rfl k) ?_
                refine Go.st (S' := T94.setTop (mkF m 221 #[.val (.int p1), .val (.int p2), .val (.int p3), .val (.int p4), .val (.int kk), .val (.int lt), .val (.int c0), .val (.int c1), .val (.int sm), .val (.int d0), .val (.int d1), .val (.int ls), .val (.int s0), .val (.int s1), .val (.ref sb89), .val (.ref sb90), .val (.ref b91), .val (.int (isF kk (strL lt c0 c1) (strL ls s0 s1))), .val (.int (1 : Int32))] [(.int (1 : Int32)), (.int (isF kk (strL lt c0 c1) (strL ls s0 s1)))])) (fun _ k => XS.iload X94.here hx rfl (hb hby at_219) rfl k) ?_
                refine Go.st (S' := T94.setTop (mkF m 224 #[.val (.int p1), .val (.int p2), .val (.int p3), .val (.int p4), .val (.int kk), .val (.int lt), .val (.int c0), .val (.int c1), .val (.int sm), .val (.int d0), .val (.int d1), .val (.int ls), .val (.int s0), .val (.int s1), .val (.ref sb89), .val (.ref sb90), .val (.ref b91), .val (.int (isF kk (strL lt c0 c1) (strL ls s0 s1))), .val (.int (1 : Int32))] [])) (fun _ k => XS.icmpNo X94.here hx rfl (hb hby at_221) rfl (teq (if_pos ⟨hc174, (own_strE hlt hls hc0 hc1 hs0 hs1).mpr ⟨hc181, Or.inr hc194, Or.inr hc207_1⟩⟩)).2 k) ?_
                refine Go.st (S' := T94.setTop (mkF m 225 #[.val (.int p1), .val (.int p2), .val (.int p3), .val (.int p4), .val (.int kk), .val (.int lt), .val (.int c0), .val (.int c1), .val (.int sm), .val (.int d0), .val (.int d1), .val (.int ls), .val (.int s0), .val (.int s1), .val (.ref sb89), .val (.ref sb90), .val (.ref b91), .val (.int (isF kk (strL lt c0 c1) (strL ls s0 s1))), .val (.int (1 : Int32))] [(.int (1 : Int32))])) (fun _ k => XS.iconst X94.here hx rfl (hb hby at_224) k) ?_
                refine Go.st (S' := T94.setTop (mkF m 229 #[.val (.int p1), .val (.int p2), .val (.int p3), .val (.int p4), .val (.int kk), .val (.int lt), .val (.int c0), .val (.int c1), .val (.int sm), .val (.int d0), .val (.int d1), .val (.int ls), .val (.int s0), .val (.int s1), .val (.ref sb89), .val (.ref sb90), .val (.ref b91), .val (.int (isF kk (strL lt c0 c1) (strL ls s0 s1))), .val (.int (1 : Int32))] [(.int (1 : Int32))])) (fun _ k => XS.goto X94.here hx rfl (pc0 := 225) (pc' := 229) rfl (hb hby at_225) (by decide) (by decide) k) ?_
                exact own_retNW X94 hS90 hk93 hx hlk hret (by simp) (hb hby at_229) eq94 ⟨rfl, N94⟩ (by decide) (by decide)
              · refine Go.st (S' := T94.setTop (mkF m 214 #[.val (.int p1), .val (.int p2), .val (.int p3), .val (.int p4), .val (.int kk), .val (.int lt), .val (.int c0), .val (.int c1), .val (.int sm), .val (.int d0), .val (.int d1), .val (.int ls), .val (.int s0), .val (.int s1), .val (.ref sb89), .val (.ref sb90), .val (.ref b91), .val (.int (isF kk (strL lt c0 c1) (strL ls s0 s1))), .unset] [])) (fun _ k => XS.icmpYes X94.here hx rfl (pc0 := 207) (pc' := 214) rfl (hb hby at_207) rfl (feq hc207_1).2 (by decide) (by decide) k) ?_
                refine Go.st (S' := T94.setTop (mkF m 215 #[.val (.int p1), .val (.int p2), .val (.int p3), .val (.int p4), .val (.int kk), .val (.int lt), .val (.int c0), .val (.int c1), .val (.int sm), .val (.int d0), .val (.int d1), .val (.int ls), .val (.int s0), .val (.int s1), .val (.ref sb89), .val (.ref sb90), .val (.ref b91), .val (.int (isF kk (strL lt c0 c1) (strL ls s0 s1))), .unset] [(.int (0 : Int32))])) (fun _ k => XS.iconst X94.here hx rfl (hb hby at_214) k) ?_
                refine Go.st (S' := T94.setTop (mkF m 217 #[.val (.int p1), .val (.int p2), .val (.int p3), .val (.int p4), .val (.int kk), .val (.int lt), .val (.int c0), .val (.int c1), .val (.int sm), .val (.int d0), .val (.int d1), .val (.int ls), .val (.int s0), .val (.int s1), .val (.ref sb89), .val (.ref sb90), .val (.ref b91), .val (.int (isF kk (strL lt c0 c1) (strL ls s0 s1))), .val (.int (0 : Int32))] [])) (fun _ k => XS.istore X94.here hx rfl (hb hby at_215) rfl (l' := #[.val (.int p1), .val (.int p2), .val (.int p3), .val (.int p4), .val (.int kk), .val (.int lt), .val (.int c0), .val (.int c1), .val (.int sm), .val (.int d0), .val (.int d1), .val (.int ls), .val (.int s0), .val (.int s1), .val (.ref sb89), .val (.ref sb90), .val (.ref b91), .val (.int (isF kk (strL lt c0 c1) (strL ls s0 s1))), .val (.int (0 : Int32))]) rfl k) ?_
                refine Go.st (S' := T94.setTop (mkF m 219 #[.val (.int p1), .val (.int p2), .val (.int p3), .val (.int p4), .val (.int kk), .val (.int lt), .val (.int c0), .val (.int c1), .val (.int sm), .val (.int d0), .val (.int d1), .val (.int ls), .val (.int s0), .val (.int s1), .val (.ref sb89), .val (.ref sb90), .val (.ref b91), .val (.int (isF kk (strL lt c0 c1) (strL ls s0 s1))), .val (.int (0 : Int32))] [(.int (isF kk (strL lt c0 c1) (strL ls s0 s1)))])) (fun _ k => XS.iload X94.here hx rfl (hb hby at_217) rfl k) ?_
                refine Go.st (S' := T94.setTop (mkF m 221 #[.val (.int p1), .val (.int p2), .val (.int p3), .val (.int p4), .val (.int kk), .val (.int lt), .val (.int c0), .val (.int c1), .val (.int sm), .val (.int d0), .val (.int d1), .val (.int ls), .val (.int s0), .val (.int s1), .val (.ref sb89), .val (.ref sb90), .val (.ref b91), .val (.int (isF kk (strL lt c0 c1) (strL ls s0 s1))), .val (.int (0 : Int32))] [(.int (0 : Int32)), (.int (isF kk (strL lt c0 c1) (strL ls s0 s1)))])) (fun _ k => XS.iload X94.here hx rfl (hb hby at_219) rfl k) ?_
                refine Go.st (S' := T94.setTop (mkF m 224 #[.val (.int p1), .val (.int p2), .val (.int p3), .val (.int p4), .val (.int kk), .val (.int lt), .val (.int c0), .val (.int c1), .val (.int sm), .val (.int d0), .val (.int d1), .val (.int ls), .val (.int s0), .val (.int s1), .val (.ref sb89), .val (.ref sb90), .val (.ref b91), .val (.int (isF kk (strL lt c0 c1) (strL ls s0 s1))), .val (.int (0 : Int32))] [])) (fun _ k => XS.icmpNo X94.here hx rfl (hb hby at_221) rfl (teq (if_neg fun q => ((own_strE hlt hls hc0 hc1 hs0 hs1).mp q.2).2.2.elim hc200_1 hc207_1)).2 k) ?_
                refine Go.st (S' := T94.setTop (mkF m 225 #[.val (.int p1), .val (.int p2), .val (.int p3), .val (.int p4), .val (.int kk), .val (.int lt), .val (.int c0), .val (.int c1), .val (.int sm), .val (.int d0), .val (.int d1), .val (.int ls), .val (.int s0), .val (.int s1), .val (.ref sb89), .val (.ref sb90), .val (.ref b91), .val (.int (isF kk (strL lt c0 c1) (strL ls s0 s1))), .val (.int (0 : Int32))] [(.int (1 : Int32))])) (fun _ k => XS.iconst X94.here hx rfl (hb hby at_224) k) ?_
                refine Go.st (S' := T94.setTop (mkF m 229 #[.val (.int p1), .val (.int p2), .val (.int p3), .val (.int p4), .val (.int kk), .val (.int lt), .val (.int c0), .val (.int c1), .val (.int sm), .val (.int d0), .val (.int d1), .val (.int ls), .val (.int s0), .val (.int s1), .val (.ref sb89), .val (.ref sb90), .val (.ref b91), .val (.int (isF kk (strL lt c0 c1) (strL ls s0 s1))), .val (.int (0 : Int32))] [(.int (1 : Int32))])) (fun _ k => XS.goto X94.here hx rfl (pc0 := 225) (pc' := 229) rfl (hb hby at_225) (by decide) (by decide) k) ?_
                exact own_retNW X94 hS90 hk93 hx hlk hret (by simp) (hb hby at_229) eq94 ⟨rfl, N94⟩ (by decide) (by decide)
          · refine Go.st (S' := T94.setTop (mkF m 214 #[.val (.int p1), .val (.int p2), .val (.int p3), .val (.int p4), .val (.int kk), .val (.int lt), .val (.int c0), .val (.int c1), .val (.int sm), .val (.int d0), .val (.int d1), .val (.int ls), .val (.int s0), .val (.int s1), .val (.ref sb89), .val (.ref sb90), .val (.ref b91), .val (.int (isF kk (strL lt c0 c1) (strL ls s0 s1))), .unset] [])) (fun _ k => XS.icmpYes X94.here hx rfl (pc0 := 194) (pc' := 214) rfl (hb hby at_194) rfl (feq hc194).2 (by decide) (by decide) k) ?_
            refine Go.st (S' := T94.setTop (mkF m 215 #[.val (.int p1), .val (.int p2), .val (.int p3), .val (.int p4), .val (.int kk), .val (.int lt), .val (.int c0), .val (.int c1), .val (.int sm), .val (.int d0), .val (.int d1), .val (.int ls), .val (.int s0), .val (.int s1), .val (.ref sb89), .val (.ref sb90), .val (.ref b91), .val (.int (isF kk (strL lt c0 c1) (strL ls s0 s1))), .unset] [(.int (0 : Int32))])) (fun _ k => XS.iconst X94.here hx rfl (hb hby at_214) k) ?_
            refine Go.st (S' := T94.setTop (mkF m 217 #[.val (.int p1), .val (.int p2), .val (.int p3), .val (.int p4), .val (.int kk), .val (.int lt), .val (.int c0), .val (.int c1), .val (.int sm), .val (.int d0), .val (.int d1), .val (.int ls), .val (.int s0), .val (.int s1), .val (.ref sb89), .val (.ref sb90), .val (.ref b91), .val (.int (isF kk (strL lt c0 c1) (strL ls s0 s1))), .val (.int (0 : Int32))] [])) (fun _ k => XS.istore X94.here hx rfl (hb hby at_215) rfl (l' := #[.val (.int p1), .val (.int p2), .val (.int p3), .val (.int p4), .val (.int kk), .val (.int lt), .val (.int c0), .val (.int c1), .val (.int sm), .val (.int d0), .val (.int d1), .val (.int ls), .val (.int s0), .val (.int s1), .val (.ref sb89), .val (.ref sb90), .val (.ref b91), .val (.int (isF kk (strL lt c0 c1) (strL ls s0 s1))), .val (.int (0 : Int32))]) rfl k) ?_
            refine Go.st (S' := T94.setTop (mkF m 219 #[.val (.int p1), .val (.int p2), .val (.int p3), .val (.int p4), .val (.int kk), .val (.int lt), .val (.int c0), .val (.int c1), .val (.int sm), .val (.int d0), .val (.int d1), .val (.int ls), .val (.int s0), .val (.int s1), .val (.ref sb89), .val (.ref sb90), .val (.ref b91), .val (.int (isF kk (strL lt c0 c1) (strL ls s0 s1))), .val (.int (0 : Int32))] [(.int (isF kk (strL lt c0 c1) (strL ls s0 s1)))])) (fun _ k => XS.iload X94.here hx rfl (hb hby at_217) rfl k) ?_
            refine Go.st (S' := T94.setTop (mkF m 221 #[.val (.int p1), .val (.int p2), .val (.int p3), .val (.int p4), .val (.int kk), .val (.int lt), .val (.int c0), .val (.int c1), .val (.int sm), .val (.int d0), .val (.int d1), .val (.int ls), .val (.int s0), .val (.int s1), .val (.ref sb89), .val (.ref sb90), .val (.ref b91), .val (.int (isF kk (strL lt c0 c1) (strL ls s0 s1))), .val (.int (0 : Int32))] [(.int (0 : Int32)), (.int (isF kk (strL lt c0 c1) (strL ls s0 s1)))])) (fun _ k => XS.iload X94.here hx rfl (hb hby at_219) rfl k) ?_
            refine Go.st (S' := T94.setTop (mkF m 224 #[.val (.int p1), .val (.int p2), .val (.int p3), .val (.int p4), .val (.int kk), .val (.int lt), .val (.int c0), .val (.int c1), .val (.int sm), .val (.int d0), .val (.int d1), .val (.int ls), .val (.int s0), .val (.int s1), .val (.ref sb89), .val (.ref sb90), .val (.ref b91), .val (.int (isF kk (strL lt c0 c1) (strL ls s0 s1))), .val (.int (0 : Int32))] [])) (fun _ k => XS.icmpNo X94.here hx rfl (hb hby at_221) rfl (teq (if_neg fun q => ((own_strE hlt hls hc0 hc1 hs0 hs1).mp q.2).2.1.elim hc187 hc194)).2 k) ?_
            refine Go.st (S' := T94.setTop (mkF m 225 #[.val (.int p1), .val (.int p2), .val (.int p3), .val (.int p4), .val (.int kk), .val (.int lt), .val (.int c0), .val (.int c1), .val (.int sm), .val (.int d0), .val (.int d1), .val (.int ls), .val (.int s0), .val (.int s1), .val (.ref sb89), .val (.ref sb90), .val (.ref b91), .val (.int (isF kk (strL lt c0 c1) (strL ls s0 s1))), .val (.int (0 : Int32))] [(.int (1 : Int32))])) (fun _ k => XS.iconst X94.here hx rfl (hb hby at_224) k) ?_
            refine Go.st (S' := T94.setTop (mkF m 229 #[.val (.int p1), .val (.int p2), .val (.int p3), .val (.int p4), .val (.int kk), .val (.int lt), .val (.int c0), .val (.int c1), .val (.int sm), .val (.int d0), .val (.int d1), .val (.int ls), .val (.int s0), .val (.int s1), .val (.ref sb89), .val (.ref sb90), .val (.ref b91), .val (.int (isF kk (strL lt c0 c1) (strL ls s0 s1))), .val (.int (0 : Int32))] [(.int (1 : Int32))])) (fun _ k => XS.goto X94.here hx rfl (pc0 := 225) (pc' := 229) rfl (hb hby at_225) (by decide) (by decide) k) ?_
            exact own_retNW X94 hS90 hk93 hx hlk hret (by simp) (hb hby at_229) eq94 ⟨rfl, N94⟩ (by decide) (by decide)
      · refine Go.st (S' := T94.setTop (mkF m 214 #[.val (.int p1), .val (.int p2), .val (.int p3), .val (.int p4), .val (.int kk), .val (.int lt), .val (.int c0), .val (.int c1), .val (.int sm), .val (.int d0), .val (.int d1), .val (.int ls), .val (.int s0), .val (.int s1), .val (.ref sb89), .val (.ref sb90), .val (.ref b91), .val (.int (isF kk (strL lt c0 c1) (strL ls s0 s1))), .unset] [])) (fun _ k => XS.icmpYes X94.here hx rfl (pc0 := 181) (pc' := 214) rfl (hb hby at_181) rfl (feq hc181).2 (by decide) (by decide) k) ?_
        refine Go.st (S' := T94.setTop (mkF m 215 #[.val (.int p1), .val (.int p2), .val (.int p3), .val (.int p4), .val (.int kk), .val (.int lt), .val (.int c0), .val (.int c1), .val (.int sm), .val (.int d0), .val (.int d1), .val (.int ls), .val (.int s0), .val (.int s1), .val (.ref sb89), .val (.ref sb90), .val (.ref b91), .val (.int (isF kk (strL lt c0 c1) (strL ls s0 s1))), .unset] [(.int (0 : Int32))])) (fun _ k => XS.iconst X94.here hx rfl (hb hby at_214) k) ?_
        refine Go.st (S' := T94.setTop (mkF m 217 #[.val (.int p1), .val (.int p2), .val (.int p3), .val (.int p4), .val (.int kk), .val (.int lt), .val (.int c0), .val (.int c1), .val (.int sm), .val (.int d0), .val (.int d1), .val (.int ls), .val (.int s0), .val (.int s1), .val (.ref sb89), .val (.ref sb90), .val (.ref b91), .val (.int (isF kk (strL lt c0 c1) (strL ls s0 s1))), .val (.int (0 : Int32))] [])) (fun _ k => XS.istore X94.here hx rfl (hb hby at_215) rfl (l' := #[.val (.int p1), .val (.int p2), .val (.int p3), .val (.int p4), .val (.int kk), .val (.int lt), .val (.int c0), .val (.int c1), .val (.int sm), .val (.int d0), .val (.int d1), .val (.int ls), .val (.int s0), .val (.int s1), .val (.ref sb89), .val (.ref sb90), .val (.ref b91), .val (.int (isF kk (strL lt c0 c1) (strL ls s0 s1))), .val (.int (0 : Int32))]) rfl k) ?_
        refine Go.st (S' := T94.setTop (mkF m 219 #[.val (.int p1), .val (.int p2), .val (.int p3), .val (.int p4), .val (.int kk), .val (.int lt), .val (.int c0), .val (.int c1), .val (.int sm), .val (.int d0), .val (.int d1), .val (.int ls), .val (.int s0), .val (.int s1), .val (.ref sb89), .val (.ref sb90), .val (.ref b91), .val (.int (isF kk (strL lt c0 c1) (strL ls s0 s1))), .val (.int (0 : Int32))] [(.int (isF kk (strL lt c0 c1) (strL ls s0 s1)))])) (fun _ k => XS.iload X94.here hx rfl (hb hby at_217) rfl k) ?_
        refine Go.st (S' := T94.setTop (mkF m 221 #[.val (.int p1), .val (.int p2), .val (.int p3), .val (.int p4), .val (.int kk), .val (.int lt), .val (.int c0), .val (.int c1), .val (.int sm), .val (.int d0), .val (.int d1), .val (.int ls), .val (.int s0), .val (.int s1), .val (.ref sb89), .val (.ref sb90), .val (.ref b91), .val (.int (isF kk (strL lt c0 c1) (strL ls s0 s1))), .val (.int (0 : Int32))] [(.int (0 : Int32)), (.int (isF kk (strL lt c0 c1) (strL ls s0 s1)))])) (fun _ k => XS.iload X94.here hx rfl (hb hby at_219) rfl k) ?_
        refine Go.st (S' := T94.setTop (mkF m 224 #[.val (.int p1), .val (.int p2), .val (.int p3), .val (.int p4), .val (.int kk), .val (.int lt), .val (.int c0), .val (.int c1), .val (.int sm), .val (.int d0), .val (.int d1), .val (.int ls), .val (.int s0), .val (.int s1), .val (.ref sb89), .val (.ref sb90), .val (.ref b91), .val (.int (isF kk (strL lt c0 c1) (strL ls s0 s1))), .val (.int (0 : Int32))] [])) (fun _ k => XS.icmpNo X94.here hx rfl (hb hby at_221) rfl (teq (if_neg fun q => hc181 ((own_strE hlt hls hc0 hc1 hs0 hs1).mp q.2).1)).2 k) ?_
        refine Go.st (S' := T94.setTop (mkF m 225 #[.val (.int p1), .val (.int p2), .val (.int p3), .val (.int p4), .val (.int kk), .val (.int lt), .val (.int c0), .val (.int c1), .val (.int sm), .val (.int d0), .val (.int d1), .val (.int ls), .val (.int s0), .val (.int s1), .val (.ref sb89), .val (.ref sb90), .val (.ref b91), .val (.int (isF kk (strL lt c0 c1) (strL ls s0 s1))), .val (.int (0 : Int32))] [(.int (1 : Int32))])) (fun _ k => XS.iconst X94.here hx rfl (hb hby at_224) k) ?_
        refine Go.st (S' := T94.setTop (mkF m 229 #[.val (.int p1), .val (.int p2), .val (.int p3), .val (.int p4), .val (.int kk), .val (.int lt), .val (.int c0), .val (.int c1), .val (.int sm), .val (.int d0), .val (.int d1), .val (.int ls), .val (.int s0), .val (.int s1), .val (.ref sb89), .val (.ref sb90), .val (.ref b91), .val (.int (isF kk (strL lt c0 c1) (strL ls s0 s1))), .val (.int (0 : Int32))] [(.int (1 : Int32))])) (fun _ k => XS.goto X94.here hx rfl (pc0 := 225) (pc' := 229) rfl (hb hby at_225) (by decide) (by decide) k) ?_
        exact own_retNW X94 hS90 hk93 hx hlk hret (by simp) (hb hby at_229) eq94 ⟨rfl, N94⟩ (by decide) (by decide)
    · refine Go.st (S' := T94.setTop (mkF m 214 #[.val (.int p1), .val (.int p2), .val (.int p3), .val (.int p4), .val (.int kk), .val (.int lt), .val (.int c0), .val (.int c1), .val (.int sm), .val (.int d0), .val (.int d1), .val (.int ls), .val (.int s0), .val (.int s1), .val (.ref sb89), .val (.ref sb90), .val (.ref b91), .val (.int (isF kk (strL lt c0 c1) (strL ls s0 s1))), .unset] [])) (fun _ k => XS.icmpYes X94.here hx rfl (pc0 := 174) (pc' := 214) rfl (hb hby at_174) rfl (feq hc174).2 (by decide) (by decide) k) ?_
      refine Go.st (S' := T94.setTop (mkF m 215 #[.val (.int p1), .val (.int p2), .val (.int p3), .val (.int p4), .val (.int kk), .val (.int lt), .val (.int c0), .val (.int c1), .val (.int sm), .val (.int d0), .val (.int d1), .val (.int ls), .val (.int s0), .val (.int s1), .val (.ref sb89), .val (.ref sb90), .val (.ref b91), .val (.int (isF kk (strL lt c0 c1) (strL ls s0 s1))), .unset] [(.int (0 : Int32))])) (fun _ k => XS.iconst X94.here hx rfl (hb hby at_214) k) ?_
      refine Go.st (S' := T94.setTop (mkF m 217 #[.val (.int p1), .val (.int p2), .val (.int p3), .val (.int p4), .val (.int kk), .val (.int lt), .val (.int c0), .val (.int c1), .val (.int sm), .val (.int d0), .val (.int d1), .val (.int ls), .val (.int s0), .val (.int s1), .val (.ref sb89), .val (.ref sb90), .val (.ref b91), .val (.int (isF kk (strL lt c0 c1) (strL ls s0 s1))), .val (.int (0 : Int32))] [])) (fun _ k => XS.istore X94.here hx rfl (hb hby at_215) rfl (l' := #[.val (.int p1), .val (.int p2), .val (.int p3), .val (.int p4), .val (.int kk), .val (.int lt), .val (.int c0), .val (.int c1), .val (.int sm), .val (.int d0), .val (.int d1), .val (.int ls), .val (.int s0), .val (.int s1), .val (.ref sb89), .val (.ref sb90), .val (.ref b91), .val (.int (isF kk (strL lt c0 c1) (strL ls s0 s1))), .val (.int (0 : Int32))]) rfl k) ?_
      refine Go.st (S' := T94.setTop (mkF m 219 #[.val (.int p1), .val (.int p2), .val (.int p3), .val (.int p4), .val (.int kk), .val (.int lt), .val (.int c0), .val (.int c1), .val (.int sm), .val (.int d0), .val (.int d1), .val (.int ls), .val (.int s0), .val (.int s1), .val (.ref sb89), .val (.ref sb90), .val (.ref b91), .val (.int (isF kk (strL lt c0 c1) (strL ls s0 s1))), .val (.int (0 : Int32))] [(.int (isF kk (strL lt c0 c1) (strL ls s0 s1)))])) (fun _ k => XS.iload X94.here hx rfl (hb hby at_217) rfl k) ?_
      refine Go.st (S' := T94.setTop (mkF m 221 #[.val (.int p1), .val (.int p2), .val (.int p3), .val (.int p4), .val (.int kk), .val (.int lt), .val (.int c0), .val (.int c1), .val (.int sm), .val (.int d0), .val (.int d1), .val (.int ls), .val (.int s0), .val (.int s1), .val (.ref sb89), .val (.ref sb90), .val (.ref b91), .val (.int (isF kk (strL lt c0 c1) (strL ls s0 s1))), .val (.int (0 : Int32))] [(.int (0 : Int32)), (.int (isF kk (strL lt c0 c1) (strL ls s0 s1)))])) (fun _ k => XS.iload X94.here hx rfl (hb hby at_219) rfl k) ?_
      refine Go.st (S' := T94.setTop (mkF m 224 #[.val (.int p1), .val (.int p2), .val (.int p3), .val (.int p4), .val (.int kk), .val (.int lt), .val (.int c0), .val (.int c1), .val (.int sm), .val (.int d0), .val (.int d1), .val (.int ls), .val (.int s0), .val (.int s1), .val (.ref sb89), .val (.ref sb90), .val (.ref b91), .val (.int (isF kk (strL lt c0 c1) (strL ls s0 s1))), .val (.int (0 : Int32))] [])) (fun _ k => XS.icmpNo X94.here hx rfl (hb hby at_221) rfl (teq (if_neg fun q => hc174 q.1)).2 k) ?_
      refine Go.st (S' := T94.setTop (mkF m 225 #[.val (.int p1), .val (.int p2), .val (.int p3), .val (.int p4), .val (.int kk), .val (.int lt), .val (.int c0), .val (.int c1), .val (.int sm), .val (.int d0), .val (.int d1), .val (.int ls), .val (.int s0), .val (.int s1), .val (.ref sb89), .val (.ref sb90), .val (.ref b91), .val (.int (isF kk (strL lt c0 c1) (strL ls s0 s1))), .val (.int (0 : Int32))] [(.int (1 : Int32))])) (fun _ k => XS.iconst X94.here hx rfl (hb hby at_224) k) ?_
      refine Go.st (S' := T94.setTop (mkF m 229 #[.val (.int p1), .val (.int p2), .val (.int p3), .val (.int p4), .val (.int kk), .val (.int lt), .val (.int c0), .val (.int c1), .val (.int sm), .val (.int d0), .val (.int d1), .val (.int ls), .val (.int s0), .val (.int s1), .val (.ref sb89), .val (.ref sb90), .val (.ref b91), .val (.int (isF kk (strL lt c0 c1) (strL ls s0 s1))), .val (.int (0 : Int32))] [(.int (1 : Int32))])) (fun _ k => XS.goto X94.here hx rfl (pc0 := 225) (pc' := 229) rfl (hb hby at_225) (by decide) (by decide) k) ?_
      exact own_retNW X94 hS90 hk93 hx hlk hret (by simp) (hb hby at_229) eq94 ⟨rfl, N94⟩ (by decide) (by decide)
  refine Go.st (S' := T0.setTop (mkF m 38 #[.val (.int p1), .val (.int p2), .val (.int p3), .val (.int p4), .val (.int kk), .val (.int lt), .val (.int c0), .val (.int c1), .unset, .unset, .unset, .unset, .unset, .unset, .unset, .unset, .unset, .unset, .unset] [(.int p3)])) (fun _ k => XS.iloadN X0.here hx rfl (hb hby at_37) rfl k) ?_
  refine Go.st (S' := T0.setTop (mkF m 39 #[.val (.int p1), .val (.int p2), .val (.int p3), .val (.int p4), .val (.int kk), .val (.int lt), .val (.int c0), .val (.int c1), .unset, .unset, .unset, .unset, .unset, .unset, .unset, .unset, .unset, .unset, .unset] [(.int (4 : Int32)), (.int p3)])) (fun _ k => XS.iconst X0.here hx rfl (hb hby at_38) k) ?_
  refine Go.st (S' := T0.setTop (mkF m 40 #[.val (.int p1), .val (.int p2), .val (.int p3), .val (.int p4), .val (.int kk), .val (.int lt), .val (.int c0), .val (.int c1), .unset, .unset, .unset, .unset, .unset, .unset, .unset, .unset, .unset, .unset, .unset] [(.int (p3 &&& (4 : Int32)))])) (fun _ k => XS.iand X0.here hx rfl (hb hby at_39) rfl k) ?_
  by_cases hc40 : (p3 &&& (4 : Int32)) = (0 : Int32)
  · refine Go.st (S' := T0.setTop (mkF m 47 #[.val (.int p1), .val (.int p2), .val (.int p3), .val (.int p4), .val (.int kk), .val (.int lt), .val (.int c0), .val (.int c1), .unset, .unset, .unset, .unset, .unset, .unset, .unset, .unset, .unset, .unset, .unset] [])) (fun _ k => XS.ifYes X0.here hx rfl (pc0 := 40) (pc' := 47) rfl (hb hby at_40) rfl ((if0 _ _).trans (teq hc40).1) (by decide) (by decide) k) ?_
    refine Go.st (S' := T0.setTop (mkF m 48 #[.val (.int p1), .val (.int p2), .val (.int p3), .val (.int p4), .val (.int kk), .val (.int lt), .val (.int c0), .val (.int c1), .unset, .unset, .unset, .unset, .unset, .unset, .unset, .unset, .unset, .unset, .unset] [(.int (0 : Int32))])) (fun _ k => XS.iconst X0.here hx rfl (hb hby at_47) k) ?_
    refine Go.st (S' := T0.setTop (mkF m 50 #[.val (.int p1), .val (.int p2), .val (.int p3), .val (.int p4), .val (.int kk), .val (.int lt), .val (.int c0), .val (.int c1), .val (.int (0 : Int32)), .unset, .unset, .unset, .unset, .unset, .unset, .unset, .unset, .unset, .unset] [])) (fun _ k => XS.istore X0.here hx rfl (hb hby at_48) rfl (l' := #[.val (.int p1), .val (.int p2), .val (.int p3), .val (.int p4), .val (.int kk), .val (.int lt), .val (.int c0), .val (.int c1), .val (.int (0 : Int32)), .unset, .unset, .unset, .unset, .unset, .unset, .unset, .unset, .unset, .unset]) rfl k) ?_
    refine Go.st (S' := T0.setTop (mkF m 52 #[.val (.int p1), .val (.int p2), .val (.int p3), .val (.int p4), .val (.int kk), .val (.int lt), .val (.int c0), .val (.int c1), .val (.int (0 : Int32)), .unset, .unset, .unset, .unset, .unset, .unset, .unset, .unset, .unset, .unset] [(.int (0 : Int32))])) (fun _ k => XS.iload X0.here hx rfl (hb hby at_50) rfl k) ?_
    refine Go.st (S' := T0.setTop (mkF m 59 #[.val (.int p1), .val (.int p2), .val (.int p3), .val (.int p4), .val (.int kk), .val (.int lt), .val (.int c0), .val (.int c1), .val (.int (0 : Int32)), .unset, .unset, .unset, .unset, .unset, .unset, .unset, .unset, .unset, .unset] [])) (fun _ k => XS.ifYes X0.here hx rfl (pc0 := 52) (pc' := 59) rfl (hb hby at_52) rfl ((if0 _ _).trans (teq (by decide)).1) (by decide) (by decide) k) ?_
    refine Go.st (S' := T0.setTop (mkF m 60 #[.val (.int p1), .val (.int p2), .val (.int p3), .val (.int p4), .val (.int kk), .val (.int lt), .val (.int c0), .val (.int c1), .val (.int (0 : Int32)), .unset, .unset, .unset, .unset, .unset, .unset, .unset, .unset, .unset, .unset] [(.int p3)])) (fun _ k => XS.iloadN X0.here hx rfl (hb hby at_59) rfl k) ?_
    refine Go.st (S' := T0.setTop (mkF m 61 #[.val (.int p1), .val (.int p2), .val (.int p3), .val (.int p4), .val (.int kk), .val (.int lt), .val (.int c0), .val (.int c1), .val (.int (0 : Int32)), .unset, .unset, .unset, .unset, .unset, .unset, .unset, .unset, .unset, .unset] [(.int (3 : Int32)), (.int p3)])) (fun _ k => XS.iconst X0.here hx rfl (hb hby at_60) k) ?_
    refine Go.st (S' := T0.setTop (mkF m 62 #[.val (.int p1), .val (.int p2), .val (.int p3), .val (.int p4), .val (.int kk), .val (.int lt), .val (.int c0), .val (.int c1), .val (.int (0 : Int32)), .unset, .unset, .unset, .unset, .unset, .unset, .unset, .unset, .unset, .unset] [(.int ((p3.toUInt32 >>> ((3 : Int32) &&& 31).toUInt32).toInt32))])) (fun _ k => XS.iushr X0.here hx rfl (hb hby at_61) rfl k) ?_
    refine Go.st (S' := T0.setTop (mkF m 65 #[.val (.int p1), .val (.int p2), .val (.int p3), .val (.int p4), .val (.int kk), .val (.int lt), .val (.int c0), .val (.int c1), .val (.int (0 : Int32)), .unset, .unset, .unset, .unset, .unset, .unset, .unset, .unset, .unset, .unset] [(.int (255 : Int32)), (.int ((p3.toUInt32 >>> ((3 : Int32) &&& 31).toUInt32).toInt32))])) (fun _ k => XS.sipush X0.here hx rfl (hb hby at_62) k) ?_
    refine Go.st (S' := T0.setTop (mkF m 66 #[.val (.int p1), .val (.int p2), .val (.int p3), .val (.int p4), .val (.int kk), .val (.int lt), .val (.int c0), .val (.int c1), .val (.int (0 : Int32)), .unset, .unset, .unset, .unset, .unset, .unset, .unset, .unset, .unset, .unset] [(.int (((p3.toUInt32 >>> ((3 : Int32) &&& 31).toUInt32).toInt32) &&& (255 : Int32)))])) (fun _ k => XS.iand X0.here hx rfl (hb hby at_65) rfl k) ?_
    refine Go.st (S' := T0.setTop (mkF m 68 #[.val (.int p1), .val (.int p2), .val (.int p3), .val (.int p4), .val (.int kk), .val (.int lt), .val (.int c0), .val (.int c1), .val (.int (0 : Int32)), .val (.int (((p3.toUInt32 >>> ((3 : Int32) &&& 31).toUInt32).toInt32) &&& (255 : Int32))), .unset, .unset, .unset, .unset, .unset, .unset, .unset, .unset, .unset] [])) (fun _ k => XS.istore X0.here hx rfl (hb hby at_66) rfl (l' := #[.val (.int p1), .val (.int p2), .val (.int p3), .val (.int p4), .val (.int kk), .val (.int lt), .val (.int c0), .val (.int c1), .val (.int (0 : Int32)), .val (.int (((p3.toUInt32 >>> ((3 : Int32) &&& 31).toUInt32).toInt32) &&& (255 : Int32))), .unset, .unset, .unset, .unset, .unset, .unset, .unset, .unset, .unset]) rfl k) ?_
    refine Go.st (S' := T0.setTop (mkF m 70 #[.val (.int p1), .val (.int p2), .val (.int p3), .val (.int p4), .val (.int kk), .val (.int lt), .val (.int c0), .val (.int c1), .val (.int (0 : Int32)), .val (.int (((p3.toUInt32 >>> ((3 : Int32) &&& 31).toUInt32).toInt32) &&& (255 : Int32))), .unset, .unset, .unset, .unset, .unset, .unset, .unset, .unset, .unset] [(.int (0 : Int32))])) (fun _ k => XS.iload X0.here hx rfl (hb hby at_68) rfl k) ?_
    refine Go.st (S' := T0.setTop (mkF m 77 #[.val (.int p1), .val (.int p2), .val (.int p3), .val (.int p4), .val (.int kk), .val (.int lt), .val (.int c0), .val (.int c1), .val (.int (0 : Int32)), .val (.int (((p3.toUInt32 >>> ((3 : Int32) &&& 31).toUInt32).toInt32) &&& (255 : Int32))), .unset, .unset, .unset, .unset, .unset, .unset, .unset, .unset, .unset] [])) (fun _ k => XS.ifYes X0.here hx rfl (pc0 := 70) (pc' := 77) rfl (hb hby at_70) rfl ((if0 _ _).trans (teq (by decide)).1) (by decide) (by decide) k) ?_
    refine Go.st (S' := T0.setTop (mkF m 78 #[.val (.int p1), .val (.int p2), .val (.int p3), .val (.int p4), .val (.int kk), .val (.int lt), .val (.int c0), .val (.int c1), .val (.int (0 : Int32)), .val (.int (((p3.toUInt32 >>> ((3 : Int32) &&& 31).toUInt32).toInt32) &&& (255 : Int32))), .unset, .unset, .unset, .unset, .unset, .unset, .unset, .unset, .unset] [(.int p3)])) (fun _ k => XS.iloadN X0.here hx rfl (hb hby at_77) rfl k) ?_
    refine Go.st (S' := T0.setTop (mkF m 80 #[.val (.int p1), .val (.int p2), .val (.int p3), .val (.int p4), .val (.int kk), .val (.int lt), .val (.int c0), .val (.int c1), .val (.int (0 : Int32)), .val (.int (((p3.toUInt32 >>> ((3 : Int32) &&& 31).toUInt32).toInt32) &&& (255 : Int32))), .unset, .unset, .unset, .unset, .unset, .unset, .unset, .unset, .unset] [(.int (11 : Int32)), (.int p3)])) (fun _ k => XS.bipush X0.here hx rfl (hb hby at_78) k) ?_
    refine Go.st (S' := T0.setTop (mkF m 81 #[.val (.int p1), .val (.int p2), .val (.int p3), .val (.int p4), .val (.int kk), .val (.int lt), .val (.int c0), .val (.int c1), .val (.int (0 : Int32)), .val (.int (((p3.toUInt32 >>> ((3 : Int32) &&& 31).toUInt32).toInt32) &&& (255 : Int32))), .unset, .unset, .unset, .unset, .unset, .unset, .unset, .unset, .unset] [(.int ((p3.toUInt32 >>> ((11 : Int32) &&& 31).toUInt32).toInt32))])) (fun _ k => XS.iushr X0.here hx rfl (hb hby at_80) rfl k) ?_
    refine Go.st (S' := T0.setTop (mkF m 84 #[.val (.int p1), .val (.int p2), .val (.int p3), .val (.int p4), .val (.int kk), .val (.int lt), .val (.int c0), .val (.int c1), .val (.int (0 : Int32)), .val (.int (((p3.toUInt32 >>> ((3 : Int32) &&& 31).toUInt32).toInt32) &&& (255 : Int32))), .unset, .unset, .unset, .unset, .unset, .unset, .unset, .unset, .unset] [(.int (255 : Int32)), (.int ((p3.toUInt32 >>> ((11 : Int32) &&& 31).toUInt32).toInt32))])) (fun _ k => XS.sipush X0.here hx rfl (hb hby at_81) k) ?_
    refine Go.st (S' := T0.setTop (mkF m 85 #[.val (.int p1), .val (.int p2), .val (.int p3), .val (.int p4), .val (.int kk), .val (.int lt), .val (.int c0), .val (.int c1), .val (.int (0 : Int32)), .val (.int (((p3.toUInt32 >>> ((3 : Int32) &&& 31).toUInt32).toInt32) &&& (255 : Int32))), .unset, .unset, .unset, .unset, .unset, .unset, .unset, .unset, .unset] [(.int (((p3.toUInt32 >>> ((11 : Int32) &&& 31).toUInt32).toInt32) &&& (255 : Int32)))])) (fun _ k => XS.iand X0.here hx rfl (hb hby at_84) rfl k) ?_
    refine Go.st (S' := T0.setTop (mkF m 87 #[.val (.int p1), .val (.int p2), .val (.int p3), .val (.int p4), .val (.int kk), .val (.int lt), .val (.int c0), .val (.int c1), .val (.int (0 : Int32)), .val (.int (((p3.toUInt32 >>> ((3 : Int32) &&& 31).toUInt32).toInt32) &&& (255 : Int32))), .val (.int (((p3.toUInt32 >>> ((11 : Int32) &&& 31).toUInt32).toInt32) &&& (255 : Int32))), .unset, .unset, .unset, .unset, .unset, .unset, .unset, .unset] [])) (fun _ k => XS.istore X0.here hx rfl (hb hby at_85) rfl (l' := #[.val (.int p1), .val (.int p2), .val (.int p3), .val (.int p4), .val (.int kk), .val (.int lt), .val (.int c0), .val (.int c1), .val (.int (0 : Int32)), .val (.int (((p3.toUInt32 >>> ((3 : Int32) &&& 31).toUInt32).toInt32) &&& (255 : Int32))), .val (.int (((p3.toUInt32 >>> ((11 : Int32) &&& 31).toUInt32).toInt32) &&& (255 : Int32))), .unset, .unset, .unset, .unset, .unset, .unset, .unset, .unset]) rfl k) ?_
    refine Go.st (S' := T0.setTop (mkF m 89 #[.val (.int p1), .val (.int p2), .val (.int p3), .val (.int p4), .val (.int kk), .val (.int lt), .val (.int c0), .val (.int c1), .val (.int (0 : Int32)), .val (.int (((p3.toUInt32 >>> ((3 : Int32) &&& 31).toUInt32).toInt32) &&& (255 : Int32))), .val (.int (((p3.toUInt32 >>> ((11 : Int32) &&& 31).toUInt32).toInt32) &&& (255 : Int32))), .unset, .unset, .unset, .unset, .unset, .unset, .unset, .unset] [(.int (0 : Int32))])) (fun _ k => XS.iload X0.here hx rfl (hb hby at_87) rfl k) ?_
    refine Go.st (S' := T0.setTop (mkF m 97 #[.val (.int p1), .val (.int p2), .val (.int p3), .val (.int p4), .val (.int kk), .val (.int lt), .val (.int c0), .val (.int c1), .val (.int (0 : Int32)), .val (.int (((p3.toUInt32 >>> ((3 : Int32) &&& 31).toUInt32).toInt32) &&& (255 : Int32))), .val (.int (((p3.toUInt32 >>> ((11 : Int32) &&& 31).toUInt32).toInt32) &&& (255 : Int32))), .unset, .unset, .unset, .unset, .unset, .unset, .unset, .unset] [])) (fun _ k => XS.ifYes X0.here hx rfl (pc0 := 89) (pc' := 97) rfl (hb hby at_89) rfl ((if0 _ _).trans (teq (by decide)).1) (by decide) (by decide) k) ?_
    refine Go.st (S' := T0.setTop (mkF m 98 #[.val (.int p1), .val (.int p2), .val (.int p3), .val (.int p4), .val (.int kk), .val (.int lt), .val (.int c0), .val (.int c1), .val (.int (0 : Int32)), .val (.int (((p3.toUInt32 >>> ((3 : Int32) &&& 31).toUInt32).toInt32) &&& (255 : Int32))), .val (.int (((p3.toUInt32 >>> ((11 : Int32) &&& 31).toUInt32).toInt32) &&& (255 : Int32))), .unset, .unset, .unset, .unset, .unset, .unset, .unset, .unset] [(.int p3)])) (fun _ k => XS.iloadN X0.here hx rfl (hb hby at_97) rfl k) ?_
    refine Go.st (S' := T0.setTop (mkF m 100 #[.val (.int p1), .val (.int p2), .val (.int p3), .val (.int p4), .val (.int kk), .val (.int lt), .val (.int c0), .val (.int c1), .val (.int (0 : Int32)), .val (.int (((p3.toUInt32 >>> ((3 : Int32) &&& 31).toUInt32).toInt32) &&& (255 : Int32))), .val (.int (((p3.toUInt32 >>> ((11 : Int32) &&& 31).toUInt32).toInt32) &&& (255 : Int32))), .unset, .unset, .unset, .unset, .unset, .unset, .unset, .unset] [(.int (19 : Int32)), (.int p3)])) (fun _ k => XS.bipush X0.here hx rfl (hb hby at_98) k) ?_
    refine Go.st (S' := T0.setTop (mkF m 101 #[.val (.int p1), .val (.int p2), .val (.int p3), .val (.int p4), .val (.int kk), .val (.int lt), .val (.int c0), .val (.int c1), .val (.int (0 : Int32)), .val (.int (((p3.toUInt32 >>> ((3 : Int32) &&& 31).toUInt32).toInt32) &&& (255 : Int32))), .val (.int (((p3.toUInt32 >>> ((11 : Int32) &&& 31).toUInt32).toInt32) &&& (255 : Int32))), .unset, .unset, .unset, .unset, .unset, .unset, .unset, .unset] [(.int ((p3.toUInt32 >>> ((19 : Int32) &&& 31).toUInt32).toInt32))])) (fun _ k => XS.iushr X0.here hx rfl (hb hby at_100) rfl k) ?_
    refine Go.st (S' := T0.setTop (mkF m 102 #[.val (.int p1), .val (.int p2), .val (.int p3), .val (.int p4), .val (.int kk), .val (.int lt), .val (.int c0), .val (.int c1), .val (.int (0 : Int32)), .val (.int (((p3.toUInt32 >>> ((3 : Int32) &&& 31).toUInt32).toInt32) &&& (255 : Int32))), .val (.int (((p3.toUInt32 >>> ((11 : Int32) &&& 31).toUInt32).toInt32) &&& (255 : Int32))), .unset, .unset, .unset, .unset, .unset, .unset, .unset, .unset] [(.int (3 : Int32)), (.int ((p3.toUInt32 >>> ((19 : Int32) &&& 31).toUInt32).toInt32))])) (fun _ k => XS.iconst X0.here hx rfl (hb hby at_101) k) ?_
    refine Go.st (S' := T0.setTop (mkF m 103 #[.val (.int p1), .val (.int p2), .val (.int p3), .val (.int p4), .val (.int kk), .val (.int lt), .val (.int c0), .val (.int c1), .val (.int (0 : Int32)), .val (.int (((p3.toUInt32 >>> ((3 : Int32) &&& 31).toUInt32).toInt32) &&& (255 : Int32))), .val (.int (((p3.toUInt32 >>> ((11 : Int32) &&& 31).toUInt32).toInt32) &&& (255 : Int32))), .unset, .unset, .unset, .unset, .unset, .unset, .unset, .unset] [(.int (((p3.toUInt32 >>> ((19 : Int32) &&& 31).toUInt32).toInt32) &&& (3 : Int32)))])) (fun _ k => XS.iand X0.here hx rfl (hb hby at_102) rfl k) ?_
    refine Go.st (S' := T0.setTop (mkF m 104 #[.val (.int p1), .val (.int p2), .val (.int p3), .val (.int p4), .val (.int kk), .val (.int lt), .val (.int c0), .val (.int c1), .val (.int (0 : Int32)), .val (.int (((p3.toUInt32 >>> ((3 : Int32) &&& 31).toUInt32).toInt32) &&& (255 : Int32))), .val (.int (((p3.toUInt32 >>> ((11 : Int32) &&& 31).toUInt32).toInt32) &&& (255 : Int32))), .unset, .unset, .unset, .unset, .unset, .unset, .unset, .unset] [(.int (3 : Int32)), (.int (((p3.toUInt32 >>> ((19 : Int32) &&& 31).toUInt32).toInt32) &&& (3 : Int32)))])) (fun _ k => XS.iconst X0.here hx rfl (hb hby at_103) k) ?_
    refine Go.st (S' := T0.setTop (mkF m 105 #[.val (.int p1), .val (.int p2), .val (.int p3), .val (.int p4), .val (.int kk), .val (.int lt), .val (.int c0), .val (.int c1), .val (.int (0 : Int32)), .val (.int (((p3.toUInt32 >>> ((3 : Int32) &&& 31).toUInt32).toInt32) &&& (255 : Int32))), .val (.int (((p3.toUInt32 >>> ((11 : Int32) &&& 31).toUInt32).toInt32) &&& (255 : Int32))), .unset, .unset, .unset, .unset, .unset, .unset, .unset, .unset] [(.int ((((p3.toUInt32 >>> ((19 : Int32) &&& 31).toUInt32).toInt32) &&& (3 : Int32)) % (3 : Int32)))])) (fun _ k => iremM X0 hx rfl (hb hby at_104) rfl (by decide) k) ?_
    refine Go.st (S' := T0.setTop (mkF m 107 #[.val (.int p1), .val (.int p2), .val (.int p3), .val (.int p4), .val (.int kk), .val (.int lt), .val (.int c0), .val (.int c1), .val (.int (0 : Int32)), .val (.int (((p3.toUInt32 >>> ((3 : Int32) &&& 31).toUInt32).toInt32) &&& (255 : Int32))), .val (.int (((p3.toUInt32 >>> ((11 : Int32) &&& 31).toUInt32).toInt32) &&& (255 : Int32))), .val (.int ((((p3.toUInt32 >>> ((19 : Int32) &&& 31).toUInt32).toInt32) &&& (3 : Int32)) % (3 : Int32))), .unset, .unset, .unset, .unset, .unset, .unset, .unset] [])) (fun _ k => XS.istore X0.here hx rfl (hb hby at_105) rfl (l' := #[.val (.int p1), .val (.int p2), .val (.int p3), .val (.int p4), .val (.int kk), .val (.int lt), .val (.int c0), .val (.int c1), .val (.int (0 : Int32)), .val (.int (((p3.toUInt32 >>> ((3 : Int32) &&& 31).toUInt32).toInt32) &&& (255 : Int32))), .val (.int (((p3.toUInt32 >>> ((11 : Int32) &&& 31).toUInt32).toInt32) &&& (255 : Int32))), .val (.int ((((p3.toUInt32 >>> ((19 : Int32) &&& 31).toUInt32).toInt32) &&& (3 : Int32)) % (3 : Int32))), .unset, .unset, .unset, .unset, .unset, .unset, .unset]) rfl k) ?_
    exact kq _ _ _ _ ⟨_, rfl⟩ ⟨_, rfl⟩ (own_m3 _)
  · refine Go.st (S' := T0.setTop (mkF m 43 #[.val (.int p1), .val (.int p2), .val (.int p3), .val (.int p4), .val (.int kk), .val (.int lt), .val (.int c0), .val (.int c1), .unset, .unset, .unset, .unset, .unset, .unset, .unset, .unset, .unset, .unset, .unset] [])) (fun _ k => XS.ifNo X0.here hx rfl (hb hby at_40) rfl ((if0 _ _).trans (feq hc40).1) k) ?_
    refine Go.st (S' := T0.setTop (mkF m 44 #[.val (.int p1), .val (.int p2), .val (.int p3), .val (.int p4), .val (.int kk), .val (.int lt), .val (.int c0), .val (.int c1), .unset, .unset, .unset, .unset, .unset, .unset, .unset, .unset, .unset, .unset, .unset] [(.int (1 : Int32))])) (fun _ k => XS.iconst X0.here hx rfl (hb hby at_43) k) ?_
    refine Go.st (S' := T0.setTop (mkF m 48 #[.val (.int p1), .val (.int p2), .val (.int p3), .val (.int p4), .val (.int kk), .val (.int lt), .val (.int c0), .val (.int c1), .unset, .unset, .unset, .unset, .unset, .unset, .unset, .unset, .unset, .unset, .unset] [(.int (1 : Int32))])) (fun _ k => XS.goto X0.here hx rfl (pc0 := 44) (pc' := 48) rfl (hb hby at_44) (by decide) (by decide) k) ?_
    refine Go.st (S' := T0.setTop (mkF m 50 #[.val (.int p1), .val (.int p2), .val (.int p3), .val (.int p4), .val (.int kk), .val (.int lt), .val (.int c0), .val (.int c1), .val (.int (1 : Int32)), .unset, .unset, .unset, .unset, .unset, .unset, .unset, .unset, .unset, .unset] [])) (fun _ k => XS.istore X0.here hx rfl (hb hby at_48) rfl (l' := #[.val (.int p1), .val (.int p2), .val (.int p3), .val (.int p4), .val (.int kk), .val (.int lt), .val (.int c0), .val (.int c1), .val (.int (1 : Int32)), .unset, .unset, .unset, .unset, .unset, .unset, .unset, .unset, .unset, .unset]) rfl k) ?_
    refine Go.st (S' := T0.setTop (mkF m 52 #[.val (.int p1), .val (.int p2), .val (.int p3), .val (.int p4), .val (.int kk), .val (.int lt), .val (.int c0), .val (.int c1), .val (.int (1 : Int32)), .unset, .unset, .unset, .unset, .unset, .unset, .unset, .unset, .unset, .unset] [(.int (1 : Int32))])) (fun _ k => XS.iload X0.here hx rfl (hb hby at_50) rfl k) ?_
    refine Go.st (S' := T0.setTop (mkF m 55 #[.val (.int p1), .val (.int p2), .val (.int p3), .val (.int p4), .val (.int kk), .val (.int lt), .val (.int c0), .val (.int c1), .val (.int (1 : Int32)), .unset, .unset, .unset, .unset, .unset, .unset, .unset, .unset, .unset, .unset] [])) (fun _ k => XS.ifNo X0.here hx rfl (hb hby at_52) rfl ((if0 _ _).trans (feq (by decide)).1) k) ?_
    refine Go.st (S' := T0.setTop (mkF m 56 #[.val (.int p1), .val (.int p2), .val (.int p3), .val (.int p4), .val (.int kk), .val (.int lt), .val (.int c0), .val (.int c1), .val (.int (1 : Int32)), .unset, .unset, .unset, .unset, .unset, .unset, .unset, .unset, .unset, .unset] [(.int (0 : Int32))])) (fun _ k => XS.iconst X0.here hx rfl (hb hby at_55) k) ?_
    refine Go.st (S' := T0.setTop (mkF m 66 #[.val (.int p1), .val (.int p2), .val (.int p3), .val (.int p4), .val (.int kk), .val (.int lt), .val (.int c0), .val (.int c1), .val (.int (1 : Int32)), .unset, .unset, .unset, .unset, .unset, .unset, .unset, .unset, .unset, .unset] [(.int (0 : Int32))])) (fun _ k => XS.goto X0.here hx rfl (pc0 := 56) (pc' := 66) rfl (hb hby at_56) (by decide) (by decide) k) ?_
    refine Go.st (S' := T0.setTop (mkF m 68 #[.val (.int p1), .val (.int p2), .val (.int p3), .val (.int p4), .val (.int kk), .val (.int lt), .val (.int c0), .val (.int c1), .val (.int (1 : Int32)), .val (.int (0 : Int32)), .unset, .unset, .unset, .unset, .unset, .unset, .unset, .unset, .unset] [])) (fun _ k => XS.istore X0.here hx rfl (hb hby at_66) rfl (l' := #[.val (.int p1), .val (.int p2), .val (.int p3), .val (.int p4), .val (.int kk), .val (.int lt), .val (.int c0), .val (.int c1), .val (.int (1 : Int32)), .val (.int (0 : Int32)), .unset, .unset, .unset, .unset, .unset, .unset, .unset, .unset, .unset]) rfl k) ?_
    refine Go.st (S' := T0.setTop (mkF m 70 #[.val (.int p1), .val (.int p2), .val (.int p3), .val (.int p4), .val (.int kk), .val (.int lt), .val (.int c0), .val (.int c1), .val (.int (1 : Int32)), .val (.int (0 : Int32)), .unset, .unset, .unset, .unset, .unset, .unset, .unset, .unset, .unset] [(.int (1 : Int32))])) (fun _ k => XS.iload X0.here hx rfl (hb hby at_68) rfl k) ?_
    refine Go.st (S' := T0.setTop (mkF m 73 #[.val (.int p1), .val (.int p2), .val (.int p3), .val (.int p4), .val (.int kk), .val (.int lt), .val (.int c0), .val (.int c1), .val (.int (1 : Int32)), .val (.int (0 : Int32)), .unset, .unset, .unset, .unset, .unset, .unset, .unset, .unset, .unset] [])) (fun _ k => XS.ifNo X0.here hx rfl (hb hby at_70) rfl ((if0 _ _).trans (feq (by decide)).1) k) ?_
    refine Go.st (S' := T0.setTop (mkF m 74 #[.val (.int p1), .val (.int p2), .val (.int p3), .val (.int p4), .val (.int kk), .val (.int lt), .val (.int c0), .val (.int c1), .val (.int (1 : Int32)), .val (.int (0 : Int32)), .unset, .unset, .unset, .unset, .unset, .unset, .unset, .unset, .unset] [(.int (0 : Int32))])) (fun _ k => XS.iconst X0.here hx rfl (hb hby at_73) k) ?_
    refine Go.st (S' := T0.setTop (mkF m 85 #[.val (.int p1), .val (.int p2), .val (.int p3), .val (.int p4), .val (.int kk), .val (.int lt), .val (.int c0), .val (.int c1), .val (.int (1 : Int32)), .val (.int (0 : Int32)), .unset, .unset, .unset, .unset, .unset, .unset, .unset, .unset, .unset] [(.int (0 : Int32))])) (fun _ k => XS.goto X0.here hx rfl (pc0 := 74) (pc' := 85) rfl (hb hby at_74) (by decide) (by decide) k) ?_
    refine Go.st (S' := T0.setTop (mkF m 87 #[.val (.int p1), .val (.int p2), .val (.int p3), .val (.int p4), .val (.int kk), .val (.int lt), .val (.int c0), .val (.int c1), .val (.int (1 : Int32)), .val (.int (0 : Int32)), .val (.int (0 : Int32)), .unset, .unset, .unset, .unset, .unset, .unset, .unset, .unset] [])) (fun _ k => XS.istore X0.here hx rfl (hb hby at_85) rfl (l' := #[.val (.int p1), .val (.int p2), .val (.int p3), .val (.int p4), .val (.int kk), .val (.int lt), .val (.int c0), .val (.int c1), .val (.int (1 : Int32)), .val (.int (0 : Int32)), .val (.int (0 : Int32)), .unset, .unset, .unset, .unset, .unset, .unset, .unset, .unset]) rfl k) ?_
    refine Go.st (S' := T0.setTop (mkF m 89 #[.val (.int p1), .val (.int p2), .val (.int p3), .val (.int p4), .val (.int kk), .val (.int lt), .val (.int c0), .val (.int c1), .val (.int (1 : Int32)), .val (.int (0 : Int32)), .val (.int (0 : Int32)), .unset, .unset, .unset, .unset, .unset, .unset, .unset, .unset] [(.int (1 : Int32))])) (fun _ k => XS.iload X0.here hx rfl (hb hby at_87) rfl k) ?_
    refine Go.st (S' := T0.setTop (mkF m 92 #[.val (.int p1), .val (.int p2), .val (.int p3), .val (.int p4), .val (.int kk), .val (.int lt), .val (.int c0), .val (.int c1), .val (.int (1 : Int32)), .val (.int (0 : Int32)), .val (.int (0 : Int32)), .unset, .unset, .unset, .unset, .unset, .unset, .unset, .unset] [])) (fun _ k => XS.ifNo X0.here hx rfl (hb hby at_89) rfl ((if0 _ _).trans (feq (by decide)).1) k) ?_
    refine Go.st (S' := T0.setTop (mkF m 94 #[.val (.int p1), .val (.int p2), .val (.int p3), .val (.int p4), .val (.int kk), .val (.int lt), .val (.int c0), .val (.int c1), .val (.int (1 : Int32)), .val (.int (0 : Int32)), .val (.int (0 : Int32)), .unset, .unset, .unset, .unset, .unset, .unset, .unset, .unset] [(.int lt)])) (fun _ k => XS.iload X0.here hx rfl (hb hby at_92) rfl k) ?_
    refine Go.st (S' := T0.setTop (mkF m 105 #[.val (.int p1), .val (.int p2), .val (.int p3), .val (.int p4), .val (.int kk), .val (.int lt), .val (.int c0), .val (.int c1), .val (.int (1 : Int32)), .val (.int (0 : Int32)), .val (.int (0 : Int32)), .unset, .unset, .unset, .unset, .unset, .unset, .unset, .unset] [(.int lt)])) (fun _ k => XS.goto X0.here hx rfl (pc0 := 94) (pc' := 105) rfl (hb hby at_94) (by decide) (by decide) k) ?_
    refine Go.st (S' := T0.setTop (mkF m 107 #[.val (.int p1), .val (.int p2), .val (.int p3), .val (.int p4), .val (.int kk), .val (.int lt), .val (.int c0), .val (.int c1), .val (.int (1 : Int32)), .val (.int (0 : Int32)), .val (.int (0 : Int32)), .val (.int lt), .unset, .unset, .unset, .unset, .unset, .unset, .unset] [])) (fun _ k => XS.istore X0.here hx rfl (hb hby at_105) rfl (l' := #[.val (.int p1), .val (.int p2), .val (.int p3), .val (.int p4), .val (.int kk), .val (.int lt), .val (.int c0), .val (.int c1), .val (.int (1 : Int32)), .val (.int (0 : Int32)), .val (.int (0 : Int32)), .val (.int lt), .unset, .unset, .unset, .unset, .unset, .unset, .unset]) rfl k) ?_
    exact kq _ _ _ _ ⟨0, by decide⟩ ⟨0, by decide⟩ hlt
set_option maxRecDepth 65536 in
set_option maxHeartbeats 400000000 in
theorem comes_1 {Post : Tables → Env → Array Value → State → Outcome → State → Prop} (hpost : ∀ tb e args s v u, (limb_1_1.after args s (.returned v) u = true ∧ limb_1_2.after args s (.returned v) u = true ∧ True) → ReturnedEndW s (.returned v) u (Jvm.fieldLocs frame_1_writes args s ++ Jvm.arrayLocs frame_1_arrays args s ++ Jvm.staticLocs frame_1_statics s) 24 1152 → Post tb e args s (.returned v) u) :
    ArmFor flags0 classFile x code maxLocals ret World_1 tables_1 room_1 Calls_1 rest_1 Pre_1 Post := by
  intro l hfl _ _ p e ha hc hk s m args below hf hA hF happ hP
  obtain ⟨hcalls, hrest, hpre⟩ := hP
  obtain ⟨-, -, -, hnamed, -, -, -, hat⟩ := (Spec.applies_iff hf).mp happ
  obtain ⟨hg, hn⟩ := and_e (Cond.before_iff.mp (show (Jvm.Cond.and given_1 narrow_1).before args s = true from hpre))
  obtain ⟨hg1, hg2⟩ := and_e hg
  obtain ⟨hg3, hg4⟩ := and_e hg2
  obtain ⟨hg5, hg6⟩ := and_e hg4
  obtain ⟨hg7, hg8⟩ := and_e hg6
  obtain ⟨v0, v1, v2, v3, rfl⟩ : ∃ v0 v1 v2 v3 : Value, args = #[v0, v1, v2, v3] := by
    have hs : args.size = 4 := by simpa [Cond.value, given_1] using hg1
    obtain ⟨L⟩ := args
    match L, hs with
    | [v0, v1, v2, v3], _ => exact ⟨v0, v1, v2, v3, rfl⟩
  have hw := fun d (hd : d ∈ tables_1) => atoms_spec (ws := Jvm.Cond.code x code maxLocals ret :: tables_1) hat d (List.mem_cons_of_mem _ hd)
  have hfit : Fit s := fun {y c} hc i hi => by
    obtain ⟨ha, rfl⟩ := Array.getElem?_eq_some_iff.mp hc
    have q := List.all_eq_true.mp ((Array.all_eq_true_iff_forall_mem.mp hF) _ (Array.getElem_mem ha)) i (List.mem_range.mpr hi)
    simpa [Array.getElem?_eq_getElem hi] using q
  obtain ⟨i0, ei0⟩ := is_v hg3
  obtain rfl : v0 = (.int i0) := Option.some.inj ei0
  obtain ⟨i1, ei1⟩ := is_v hg5
  obtain rfl : v1 = (.int i1) := Option.some.inj ei1
  obtain ⟨i2, ei2⟩ := is_v hg7
  obtain rfl : v2 = (.int i2) := Option.some.inj ei2
  obtain ⟨i3, ei3⟩ := is_v hg8
  obtain rfl : v3 = (.int i3) := Option.some.inj ei3
  obtain ⟨hn1, hn2⟩ := and_e hn
  obtain ⟨hn3, hn4⟩ := and_e hn2
  obtain ⟨hn5, hn6⟩ := and_e hn4
  obtain ⟨hn7, hn8⟩ := and_e hn6
  obtain ⟨hn9, hn10⟩ := and_e hn8
  obtain ⟨hn11, hn12⟩ := and_e hn10
  obtain ⟨hn13, hn14⟩ := and_e hn12
  obtain ⟨hn15, hn16⟩ := and_e hn14
  obtain ⟨hn17, hn18⟩ := and_e hn16
  obtain ⟨hn19, hn20⟩ := and_e hn18
  obtain ⟨hn21, hn22⟩ := and_e hn20
  obtain ⟨hn23, hn24⟩ := and_e hn22
  obtain ⟨hn25, hn26⟩ := and_e hn24
  obtain ⟨w_IDENTIFIER, ev_IDENTIFIER⟩ := exa_v hn1
  have S_IDENTIFIER : Sta s s.heap "com/example/instances_to_rows/instancestorows/query/Lexer$Kind" "IDENTIFIER" "Lcom/example/instances_to_rows/instancestorows/query/Lexer$Kind;" (.ref w_IDENTIFIER) := Sta.start ev_IDENTIFIER (Or.inr ⟨(ww hw 34 rfl), (ww hw 35 rfl)⟩)
  have E_IDENTIFIER : Exa s s.heap w_IDENTIFIER "com/example/instances_to_rows/instancestorows/query/Lexer$Kind" := Exa.start ev_IDENTIFIER hn1
  obtain ⟨w_SYMBOL, ev_SYMBOL⟩ := exa_v hn3
  have S_SYMBOL : Sta s s.heap "com/example/instances_to_rows/instancestorows/query/Lexer$Kind" "SYMBOL" "Lcom/example/instances_to_rows/instancestorows/query/Lexer$Kind;" (.ref w_SYMBOL) := Sta.start ev_SYMBOL (Or.inr ⟨(ww hw 34 rfl), (ww hw 57 rfl)⟩)
  have E_SYMBOL : Exa s s.heap w_SYMBOL "com/example/instances_to_rows/instancestorows/query/Lexer$Kind" := Exa.start ev_SYMBOL hn3
  have F_IDENTIFIER_ordinal : Fld s s.heap w_IDENTIFIER "java/lang/Enum" "ordinal" "I" (.int (0 : Int32)) := own_fldI ev_IDENTIFIER hn5
  have F_SYMBOL_ordinal : Fld s s.heap w_SYMBOL "java/lang/Enum" "ordinal" "I" (.int (5 : Int32)) := own_fldI ev_SYMBOL hn7
  obtain ⟨w_NUMBER, ev_NUMBER⟩ := exa_v hn9
  have S_NUMBER : Sta s s.heap "com/example/instances_to_rows/instancestorows/query/Lexer$Kind" "NUMBER" "Lcom/example/instances_to_rows/instancestorows/query/Lexer$Kind;" (.ref w_NUMBER) := Sta.start ev_NUMBER (Or.inr ⟨(ww hw 34 rfl), (ww hw 71 rfl)⟩)
  have E_NUMBER : Exa s s.heap w_NUMBER "com/example/instances_to_rows/instancestorows/query/Lexer$Kind" := Exa.start ev_NUMBER hn9
  have F_NUMBER_ordinal : Fld s s.heap w_NUMBER "java/lang/Enum" "ordinal" "I" (.int (2 : Int32)) := own_fldI ev_NUMBER hn11
  obtain ⟨w_STRING, ev_STRING⟩ := exa_v hn13
  have S_STRING : Sta s s.heap "com/example/instances_to_rows/instancestorows/query/Lexer$Kind" "STRING" "Lcom/example/instances_to_rows/instancestorows/query/Lexer$Kind;" (.ref w_STRING) := Sta.start ev_STRING (Or.inr ⟨(ww hw 34 rfl), (ww hw 95 rfl)⟩)
  have E_STRING : Exa s s.heap w_STRING "com/example/instances_to_rows/instancestorows/query/Lexer$Kind" := Exa.start ev_STRING hn13
  have F_STRING_ordinal : Fld s s.heap w_STRING "java/lang/Enum" "ordinal" "I" (.int (1 : Int32)) := own_fldI ev_STRING hn15
  obtain ⟨w_NAMED_PARAMETER, ev_NAMED_PARAMETER⟩ := exa_v hn17
  have S_NAMED_PARAMETER : Sta s s.heap "com/example/instances_to_rows/instancestorows/query/Lexer$Kind" "NAMED_PARAMETER" "Lcom/example/instances_to_rows/instancestorows/query/Lexer$Kind;" (.ref w_NAMED_PARAMETER) := Sta.start ev_NAMED_PARAMETER (Or.inr ⟨(ww hw 34 rfl), (ww hw 97 rfl)⟩)
  have E_NAMED_PARAMETER : Exa s s.heap w_NAMED_PARAMETER "com/example/instances_to_rows/instancestorows/query/Lexer$Kind" := Exa.start ev_NAMED_PARAMETER hn17
  have F_NAMED_PARAMETER_ordinal : Fld s s.heap w_NAMED_PARAMETER "java/lang/Enum" "ordinal" "I" (.int (3 : Int32)) := own_fldI ev_NAMED_PARAMETER hn19
  obtain ⟨w_POSITIONAL_PARAMETER, ev_POSITIONAL_PARAMETER⟩ := exa_v hn21
  have S_POSITIONAL_PARAMETER : Sta s s.heap "com/example/instances_to_rows/instancestorows/query/Lexer$Kind" "POSITIONAL_PARAMETER" "Lcom/example/instances_to_rows/instancestorows/query/Lexer$Kind;" (.ref w_POSITIONAL_PARAMETER) := Sta.start ev_POSITIONAL_PARAMETER (Or.inr ⟨(ww hw 34 rfl), (ww hw 99 rfl)⟩)
  have E_POSITIONAL_PARAMETER : Exa s s.heap w_POSITIONAL_PARAMETER "com/example/instances_to_rows/instancestorows/query/Lexer$Kind" := Exa.start ev_POSITIONAL_PARAMETER hn21
  have F_POSITIONAL_PARAMETER_ordinal : Fld s s.heap w_POSITIONAL_PARAMETER "java/lang/Enum" "ordinal" "I" (.int (4 : Int32)) := own_fldI ev_POSITIONAL_PARAMETER hn23
  obtain ⟨w_END, ev_END⟩ := exa_v hn25
  have S_END : Sta s s.heap "com/example/instances_to_rows/instancestorows/query/Lexer$Kind" "END" "Lcom/example/instances_to_rows/instancestorows/query/Lexer$Kind;" (.ref w_END) := Sta.start ev_END (Or.inr ⟨(ww hw 34 rfl), (ww hw 101 rfl)⟩)
  have E_END : Exa s s.heap w_END "com/example/instances_to_rows/instancestorows/query/Lexer$Kind" := Exa.start ev_END hn25
  have F_END_ordinal : Fld s s.heap w_END "java/lang/Enum" "ordinal" "I" (.int (6 : Int32)) := own_fldI ev_END hn26
  obtain ⟨hsets, hown0⟩ := atoms_of _ (rest_1_c_eq ▸ (show rest_1_c.before _ s = true from hrest))
  have n3 := not_v (Cond.before_iff.mp (hsets _ (List.mem_of_getElem? (i := 2) rfl)))
  obtain ⟨zc, e6⟩ := is_v (Cond.before_iff.mp (hsets _ (List.mem_of_getElem? (i := 1) rfl)))
  have S_COMPACT_STRINGS : Sta s s.heap "java/lang/String" "COMPACT_STRINGS" "Z" (.int zc) := Sta.start e6 (Or.inl (hsets _ (List.mem_of_getElem? (i := 0) rfl)))
  have hzc : ¬ (zc = (0 : Int32)) := gotF (Cond.eq_ints e6 (Term.int_eval (0))) n3
  have hCH : CHv s EL1 s.vm s.heap := CHv.start (own_EW hw) (fun p hp => hcalls.1 p hp) (show Jvm.Lit.compactW.before _ s = true from hsets _ (List.mem_of_getElem? (i := 2) rfl)) (ww hw 20 rfl) (ww hw 6 rfl)
  obtain ⟨n, o, h1, h2, h3, _, L, rfl, ⟨rfl, N⟩, hq⟩ := rm0 l s _ hw tables_1 w_IDENTIFIER w_SYMBOL w_NUMBER w_STRING w_NAMED_PARAMETER w_POSITIONAL_PARAMETER w_END zc ⟨S_IDENTIFIER, E_IDENTIFIER, S_SYMBOL, E_SYMBOL, F_IDENTIFIER_ordinal, F_SYMBOL_ordinal, S_NUMBER, E_NUMBER, F_NUMBER_ordinal, S_STRING, E_STRING, F_STRING_ordinal, S_NAMED_PARAMETER, E_NAMED_PARAMETER, F_NAMED_PARAMETER_ordinal, S_POSITIONAL_PARAMETER, E_POSITIONAL_PARAMETER, F_POSITIONAL_PARAMETER_ordinal, S_END, E_END, F_END_ordinal, S_COMPACT_STRINGS, hzc⟩ i0 i1 i2 i3 s.heap (own_Ext.refl _)  p e ha hc hk s m _ below hf ((Spec.applies_iff_loose hf).mp happ).1 ⟨rfl, State.Warmed39.refl s, rfl, hCH⟩ trivial
  refine ⟨n, _, h1, h2, h3, hpost _ _ _ _ _ _ ⟨Cond.after_iff.mpr rfl, Cond.after_iff.mpr (eq_i res_at (Term.int_eval (1)) rfl), trivial⟩ ⟨hq.1, hq.2.1, hq.2.2.1, (hq.2.2.2.sift fun y hy => Or.inr (N y hy)).mono (by decide) (by decide)⟩⟩
theorem main_1_1 : Claimed_1_1 := comes_1 fun _ _ _ _ _ _ h hF => ⟨h.1, hF⟩
theorem main_1_2 : Claimed_1_2 := comes_1 fun _ _ _ _ _ _ h hF => ⟨h.2.1, hF⟩
end Jvm.Pilot.@@N@@
namespace Jvm.Pilot.@@N@@
open Jvm Jvm.ClassFile Sem Op Lib Jvm.Free Jvm.Stand Jvm.Pilot.@@N@@.Jvm.D
/-! MADE BY PROGRAM (witnessworld.py) out of the Statement's table words and the real class files: 23 classes; the members and pool entries that the words name. The judged class is class 1, her method 3. -/
namespace start1
open Jvm.ClassFile
def u (s : String) : CpInfo := .utf8 (stringToUtf16 s)
/-- a pool by its gaps: so many unusable entries, then the entry; so many at the end -/
def gap : Nat → List CpInfo → List CpInfo
  | 0, r => r
  | n + 1, r => .unusable :: gap n r
def poolList (es : List (Nat × CpInfo)) (last : Nat) : List CpInfo := es.foldr (fun e r => gap e.1 (e.2 :: r)) (gap last [])
def pool (es : List (Nat × CpInfo)) (last : Nat) : Array CpInfo := ⟨poolList es last⟩
def fileOf (pool : Array CpInfo) (this : Nat) (attrs : Array Attribute := #[]) (ms : Array MethodInfo := #[]) (fl : Nat := 33) (sup : Nat := 0) (ifs : Array Nat := #[]) (fds : Array FieldInfo := #[]) : ClassFile where
  minorVersion := 0
  majorVersion := 65
  constantPool := pool
  accessFlags := fl
  thisClass := this
  superClass := sup
  interfaces := ifs
  fields := fds
  methods := ms
  attributes := attrs
def plain (name : String) (sup : Option ClassId) : Class where
  name := name
  kind := .ordinary
  loader := none
  accessFlags := 33
  super := sup
  interfaces := #[]
  cf := none
  fields := #[]
  methods := #[]
  instanceTypes := #[]
  staticTypes := #[]
  resolved := #[]
  callSites := []
  init := .initialized
  statics := none
  mirror := none

def pool0 : Array CpInfo := pool [(5, u "<init>"), (0, u "()V"), (1, .class_ 10), (1, u "java/lang/Object")] 113

def k0c0 : Code := { maxStack := 0, maxLocals := 1, code := object_method_1_code, exceptionTable := #[], attributes := #[] }
def k0m0 : Method := { name := "<init>", desc := "()V", sig := { parameters := [], returnType := none }, accessFlags := 1, code := some k0c0 }
/-- java/lang/Object -/
def k0 : Class := { plain "java/lang/Object" none with
  accessFlags := 33
  interfaces := #[]
  cf := some (fileOf pool0 8 #[] #[{ accessFlags := 1, nameIndex := 5, descriptorIndex := 6, attributes := #[] }] 33 0 #[] #[])
  fields := #[]
  methods := #[k0m0]
  instanceTypes := #[]
  staticTypes := #[]
  resolved := Array.replicate 124 none
  statics := none }

def pool1 : Array CpInfo := pool [(2, .class_ 4), (1, u "java/lang/Object"), (0, u "<init>"), (0, u "()V"), (0, .fieldref 8 9), (0, .class_ 10), (0, .nameAndType 11 12), (0, u "com/example/instances_to_rows/instancestorows/query/Lexer$Kind"), (0, u "IDENTIFIER"), (0, u "Lcom/example/instances_to_rows/instancestorows/query/Lexer$Kind;"), (0, .fieldref 8 14), (0, .nameAndType 15 12), (0, u "STRING"), (0, .fieldref 8 17), (0, .nameAndType 18 12), (0, u "NUMBER"), (0, .fieldref 8 20), (0, .nameAndType 21 12), (0, u "NAMED_PARAMETER"), (0, .fieldref 8 23), (0, .nameAndType 24 12), (0, u "POSITIONAL_PARAMETER"), (0, .fieldref 8 26), (0, .nameAndType 27 12), (0, u "SYMBOL"), (0, .fieldref 8 29), (0, .nameAndType 30 12), (0, u "END"), (0, .class_ 32), (0, u "java/lang/String"), (0, .methodref 31 34), (0, .nameAndType 5 35), (0, u "([C)V"), (0, .methodref 31 37), (0, .nameAndType 38 39), (0, u "valueOf"), (0, u "(C)Ljava/lang/String;"), (0, .integer 2147483647), (0, .methodref 42 43), (0, .class_ 44), (0, .nameAndType 45 46), (0, u "com/example/instances_to_rows/instancestorows/query/TokenIsSymbolPinLaw"), (0, u "str"), (0, u "(ICC)Ljava/lang/String;"), (0, .class_ 48), (0, u "com/example/instances_to_rows/instancestorows/query/Lexer$Token"), (0, .methodref 42 50), (0, .nameAndType 51 52), (0, u "kindOf"), (0, u "(I)Lcom/example/instances_to_rows/instancestorows/query/Lexer$Kind;"), (0, .methodref 47 54), (0, .nameAndType 5 55), (0, u "(Lcom/example/instances_to_rows/instancestorows/query/Lexer$Kind;Ljava/lang/String;I)V"), (0, .methodref 47 57), (0, .nameAndType 58 59), (0, u "isSymbol"), (0, u "(Ljava/lang/String;)Z"), (3, u "law"), (0, u "(IIII)Z")] 7

def k1m0 : Method := { name := "<init>", desc := "()V", sig := { parameters := [], returnType := none }, accessFlags := 2, code := none }
def k1c1 : Code := { maxStack := 2, maxLocals := 1, code := method_2_code, exceptionTable := #[], attributes := #[] }
def k1m1 : Method := { name := "kindOf", desc := "(I)Lcom/example/instances_to_rows/instancestorows/query/Lexer$Kind;", sig := { parameters := [.int], returnType := some (.object "com/example/instances_to_rows/instancestorows/query/Lexer$Kind") }, accessFlags := 10, code := some k1c1 }
def k1c2 : Code := { maxStack := 3, maxLocals := 4, code := method_3_code, exceptionTable := #[], attributes := #[] }
def k1m2 : Method := { name := "str", desc := "(ICC)Ljava/lang/String;", sig := { parameters := [.int, .char, .char], returnType := some (.object "java/lang/String") }, accessFlags := 10, code := some k1c2 }
def k1c3 : Code := { maxStack := 5, maxLocals := 19, code := code, exceptionTable := #[], attributes := #[] }
def k1m3 : Method := { name := "law", desc := "(IIII)Z", sig := { parameters := [.int, .int, .int, .int], returnType := some .boolean }, accessFlags := 9, code := some k1c3 }
/-- com/example/instances_to_rows/instancestorows/query/TokenIsSymbolPinLaw -/
def k1 : Class := { plain "com/example/instances_to_rows/instancestorows/query/TokenIsSymbolPinLaw" (some 0) with
  accessFlags := 49
  interfaces := #[]
  cf := some (fileOf pool1 42 #[] #[{ accessFlags := 2, nameIndex := 5, descriptorIndex := 6, attributes := #[] }, { accessFlags := 10, nameIndex := 51, descriptorIndex := 52, attributes := #[] }, { accessFlags := 10, nameIndex := 45, descriptorIndex := 46, attributes := #[] }, { accessFlags := 9, nameIndex := 63, descriptorIndex := 64, attributes := #[] }] 49 2 #[] #[])
  fields := #[]
  methods := #[k1m0, k1m1, k1m2, k1m3]
  instanceTypes := #[]
  staticTypes := #[]
  resolved := Array.replicate 72 none
  statics := none }

def pool2 : Array CpInfo := pool [(1, .class_ 2), (0, u "java/io/Serializable"), (0, .class_ 4), (0, u "java/lang/Object")] 2

/-- java/io/Serializable -/
def k2 : Class := { plain "java/io/Serializable" (some 0) with
  accessFlags := 1537
  interfaces := #[]
  cf := some (fileOf pool2 1 #[] #[] 1537 3 #[] #[])
  fields := #[]
  methods := #[]
  instanceTypes := #[]
  staticTypes := #[]
  resolved := Array.replicate 7 none
  statics := none }

def pool3 : Array CpInfo := pool [(1, .class_ 2), (0, u "java/lang/Comparable"), (0, .class_ 4), (0, u "java/lang/Object")] 7

/-- java/lang/Comparable -/
def k3 : Class := { plain "java/lang/Comparable" (some 0) with
  accessFlags := 1537
  interfaces := #[]
  cf := some (fileOf pool3 1 #[] #[] 1537 3 #[] #[])
  fields := #[]
  methods := #[]
  instanceTypes := #[]
  staticTypes := #[]
  resolved := Array.replicate 12 none
  statics := none }

def pool4 : Array CpInfo := pool [(2, .class_ 4), (1, u "java/lang/CharSequence"), (42, .class_ 48), (0, u "java/lang/CharSequence$1CodePointIterator"), (10, .class_ 60), (0, u "java/lang/CharSequence$1CharIterator"), (5, .class_ 67), (0, u "java/lang/Object")] 63

/-- java/lang/CharSequence -/
def k4 : Class := { plain "java/lang/CharSequence" (some 0) with
  accessFlags := 1537
  interfaces := #[]
  cf := some (fileOf pool4 2 #[.nestMembers #[47, 59]] #[] 1537 66 #[] #[])
  fields := #[]
  methods := #[]
  instanceTypes := #[]
  staticTypes := #[]
  resolved := Array.replicate 131 none
  statics := none }

def pool5 : Array CpInfo := pool [(1, .class_ 2), (0, u "java/lang/constant/Constable"), (0, .class_ 4), (0, u "java/lang/Object")] 6

/-- java/lang/constant/Constable -/
def k5 : Class := { plain "java/lang/constant/Constable" (some 0) with
  accessFlags := 1537
  interfaces := #[]
  cf := some (fileOf pool5 1 #[] #[] 1537 3 #[] #[])
  fields := #[]
  methods := #[]
  instanceTypes := #[]
  staticTypes := #[]
  resolved := Array.replicate 11 none
  statics := none }

def pool6 : Array CpInfo := pool [(1, .class_ 2), (0, u "java/lang/constant/ConstantDesc"), (0, .class_ 4), (0, u "java/lang/Object")] 32

/-- java/lang/constant/ConstantDesc -/
def k6 : Class := { plain "java/lang/constant/ConstantDesc" (some 0) with
  accessFlags := 1537
  interfaces := #[]
  cf := some (fileOf pool6 1 #[] #[] 1537 3 #[] #[])
  fields := #[]
  methods := #[]
  instanceTypes := #[]
  staticTypes := #[]
  resolved := Array.replicate 37 none
  statics := none }

def pool7 : Array CpInfo := pool [(1, .methodref 2 3), (0, .class_ 4), (0, .nameAndType 5 6), (0, u "java/lang/Object"), (0, u "<init>"), (0, u "()V"), (0, .string 8), (0, u ""), (0, .fieldref 10 11), (0, .class_ 12), (0, .nameAndType 13 14), (0, u "java/lang/String"), (0, u "value"), (0, u "[B"), (0, .fieldref 10 16), (0, .nameAndType 17 18), (0, u "coder"), (0, u "B"), (2, u "hash"), (0, u "I"), (2, u "hashIsZero"), (0, u "Z"), (0, .methodref 10 28), (0, .nameAndType 5 29), (0, u "([CIILjava/lang/Void;)V"), (8, .fieldref 10 39), (0, .nameAndType 40 26), (0, u "COMPACT_STRINGS"), (1, .class_ 44), (1, u "java/lang/StringUTF16"), (0, u "compress"), (1, .methodref 42 48), (0, .nameAndType 49 50), (0, u "coderFromArrayLen"), (0, u "([BI)B"), (2, u "toBytes"), (53, .class_ 109), (1, u "java/lang/StringLatin1"), (67, .methodref 42 178), (0, .nameAndType 45 179), (0, u "([CII)[B"), (29, .methodref 10 210), (0, .nameAndType 5 211), (0, u "([BB)V"), (157, u "(C)Z"), (171, .methodref 107 542), (0, .nameAndType 543 544), (0, u "equals"), (0, u "([B[B)Z"), (28, u "(Ljava/lang/Object;)Z"), (1, .class_ 576), (0, u "java/lang/CharSequence"), (22, u "CASE_INSENSITIVE_ORDER"), (0, u "Ljava/util/Comparator;"), (181, u "valueOf"), (0, u "(C)Ljava/lang/String;"), (226, u "([C)V"), (4, .methodref 107 1016), (0, .nameAndType 1017 369), (0, u "canEncode"), (0, .methodref 107 1019), (0, .nameAndType 53 1020), (0, u "(C)[B"), (80, u "serialPersistentFields"), (0, u "[Ljava/io/ObjectStreamField;"), (0, .class_ 1104), (0, u "java/lang/String$CaseInsensitiveComparator"), (1, .class_ 1107), (0, u "java/io/Serializable"), (0, .class_ 1109), (0, u "java/lang/Comparable"), (0, .class_ 1111), (0, u "java/lang/constant/Constable"), (0, .class_ 1113), (0, u "java/lang/constant/ConstantDesc"), (2, u "serialVersionUID"), (0, u "J"), (3, u "REPL"), (0, u "C"), (2, u "LATIN1"), (1, u "UTF16")] 323

def k7m0 : Method := { name := "<init>", desc := "()V", sig := { parameters := [], returnType := none }, accessFlags := 1, code := none }
def k7c1 : Code := { maxStack := 5, maxLocals := 2, code := jdk_42_method_3_code, exceptionTable := #[], attributes := #[] }
def k7m1 : Method := { name := "<init>", desc := "([C)V", sig := { parameters := [(.array .char)], returnType := none }, accessFlags := 1, code := some k7c1 }
def k7c2 : Code := { maxStack := 2, maxLocals := 3, code := jdk_42_method_66_code, exceptionTable := #[], attributes := #[] }
def k7m2 : Method := { name := "equals", desc := "(Ljava/lang/Object;)Z", sig := { parameters := [(.object "java/lang/Object")], returnType := some .boolean }, accessFlags := 1, code := some k7c2 }
def k7c3 : Code := { maxStack := 4, maxLocals := 1, code := jdk_42_method_139_code, exceptionTable := #[], attributes := #[] }
def k7m3 : Method := { name := "valueOf", desc := "(C)Ljava/lang/String;", sig := { parameters := [.char], returnType := some (.object "java/lang/String") }, accessFlags := 9, code := some k7c3 }
def k7c4 : Code := { maxStack := 4, maxLocals := 6, code := jdk_42_method_149_code, exceptionTable := #[], attributes := #[] }
def k7m4 : Method := { name := "<init>", desc := "([CIILjava/lang/Void;)V", sig := { parameters := [(.array .char), .int, .int, (.object "java/lang/Void")], returnType := none }, accessFlags := 2, code := some k7c4 }
def k7c5 : Code := { maxStack := 2, maxLocals := 3, code := jdk_42_method_151_code, exceptionTable := #[], attributes := #[] }
def k7m5 : Method := { name := "<init>", desc := "([BB)V", sig := { parameters := [(.array .byte), .byte], returnType := none }, accessFlags := 0, code := some k7c5 }
/-- java/lang/String -/
def k7 : Class := { plain "java/lang/String" (some 0) with
  accessFlags := 49
  interfaces := #[2, 3, 4, 5, 6]
  cf := some (fileOf pool7 10 #[.nestMembers #[1103]] #[{ accessFlags := 1, nameIndex := 5, descriptorIndex := 6, attributes := #[] }, { accessFlags := 1, nameIndex := 5, descriptorIndex := 1010, attributes := #[] }, { accessFlags := 1, nameIndex := 543, descriptorIndex := 573, attributes := #[] }, { accessFlags := 9, nameIndex := 782, descriptorIndex := 783, attributes := #[] }, { accessFlags := 2, nameIndex := 5, descriptorIndex := 29, attributes := #[] }, { accessFlags := 0, nameIndex := 5, descriptorIndex := 211, attributes := #[] }] 49 2 #[1106, 1108, 575, 1110, 1112] #[{ accessFlags := 18, nameIndex := 13, descriptorIndex := 14, attributes := #[] }, { accessFlags := 18, nameIndex := 17, descriptorIndex := 18, attributes := #[] }, { accessFlags := 2, nameIndex := 21, descriptorIndex := 22, attributes := #[] }, { accessFlags := 2, nameIndex := 25, descriptorIndex := 26, attributes := #[] }, { accessFlags := 26, nameIndex := 1116, descriptorIndex := 1117, attributes := #[] }, { accessFlags := 24, nameIndex := 40, descriptorIndex := 26, attributes := #[] }, { accessFlags := 26, nameIndex := 1101, descriptorIndex := 1102, attributes := #[] }, { accessFlags := 26, nameIndex := 1121, descriptorIndex := 1122, attributes := #[] }, { accessFlags := 25, nameIndex := 599, descriptorIndex := 600, attributes := #[] }, { accessFlags := 24, nameIndex := 1125, descriptorIndex := 18, attributes := #[] }, { accessFlags := 24, nameIndex := 1127, descriptorIndex := 18, attributes := #[] }])
  fields := #[{ name := "value", type := (.array .byte), accessFlags := 18, slot := 0, constantValue := 0 }, { name := "coder", type := .byte, accessFlags := 18, slot := 1, constantValue := 0 }, { name := "hash", type := .int, accessFlags := 2, slot := 2, constantValue := 0 }, { name := "hashIsZero", type := .boolean, accessFlags := 2, slot := 3, constantValue := 0 }, { name := "serialVersionUID", type := .long, accessFlags := 26, slot := 0, constantValue := 0 }, { name := "COMPACT_STRINGS", type := .boolean, accessFlags := 24, slot := 1, constantValue := 0 }, { name := "serialPersistentFields", type := (.array (.object "java/io/ObjectStreamField")), accessFlags := 26, slot := 2, constantValue := 0 }, { name := "REPL", type := .char, accessFlags := 26, slot := 3, constantValue := 0 }, { name := "CASE_INSENSITIVE_ORDER", type := (.object "java/util/Comparator"), accessFlags := 25, slot := 4, constantValue := 0 }, { name := "LATIN1", type := .byte, accessFlags := 24, slot := 5, constantValue := 0 }, { name := "UTF16", type := .byte, accessFlags := 24, slot := 6, constantValue := 0 }]
  methods := #[k7m0, k7m1, k7m2, k7m3, k7m4, k7m5]
  instanceTypes := #[(.array .byte), .byte, .int, .boolean]
  staticTypes := #[.long, .boolean, (.array (.object "java/io/ObjectStreamField")), .char, (.object "java/util/Comparator"), .byte, .byte]
  resolved := Array.replicate 1451 none
  statics := some 0 }

def pool8 : Array CpInfo := pool [(1, .methodref 2 3), (0, .class_ 4), (0, .nameAndType 5 6), (0, u "java/lang/Object"), (0, u "<init>"), (0, u "()V"), (0, .class_ 8), (0, u "java/lang/Record")] 13

def k8c0 : Code := { maxStack := 1, maxLocals := 1, code := jdk_30_method_1_code, exceptionTable := #[], attributes := #[] }
def k8m0 : Method := { name := "<init>", desc := "()V", sig := { parameters := [], returnType := none }, accessFlags := 4, code := some k8c0 }
/-- java/lang/Record -/
def k8 : Class := { plain "java/lang/Record" (some 0) with
  accessFlags := 1057
  interfaces := #[]
  cf := some (fileOf pool8 7 #[] #[{ accessFlags := 4, nameIndex := 5, descriptorIndex := 6, attributes := #[] }] 1057 2 #[] #[])
  fields := #[]
  methods := #[k8m0]
  instanceTypes := #[]
  staticTypes := #[]
  resolved := Array.replicate 22 none
  statics := none }

def pool9 : Array CpInfo := pool [(1, .methodref 2 3), (0, .class_ 4), (0, .nameAndType 5 6), (0, u "java/lang/Record"), (0, u "<init>"), (0, u "()V"), (0, .fieldref 8 9), (0, .class_ 10), (0, .nameAndType 11 12), (0, u "com/example/instances_to_rows/instancestorows/query/Lexer$Token"), (0, u "kind"), (0, u "Lcom/example/instances_to_rows/instancestorows/query/Lexer$Kind;"), (0, .fieldref 8 14), (0, .nameAndType 15 16), (0, u "text"), (0, u "Ljava/lang/String;"), (0, .fieldref 8 18), (0, .nameAndType 19 20), (0, u "position"), (0, u "I"), (1, .class_ 24), (1, u "com/example/instances_to_rows/instancestorows/query/Lexer$Kind"), (2, .class_ 29), (1, u "java/lang/String"), (1, u "(Ljava/lang/String;)Z"), (0, .fieldref 22 33), (0, .nameAndType 34 12), (0, u "SYMBOL"), (0, .methodref 27 36), (0, .nameAndType 37 38), (0, u "equals"), (0, u "(Ljava/lang/Object;)Z"), (20, u "(Lcom/example/instances_to_rows/instancestorows/query/Lexer$Kind;Ljava/lang/String;I)V"), (5, u "isSymbol"), (7, .class_ 74), (0, u "com/example/instances_to_rows/instancestorows/query/Lexer")] 30

def k9c0 : Code := { maxStack := 2, maxLocals := 4, code := prog_20_method_1_code, exceptionTable := #[], attributes := #[] }
def k9m0 : Method := { name := "<init>", desc := "(Lcom/example/instances_to_rows/instancestorows/query/Lexer$Kind;Ljava/lang/String;I)V", sig := { parameters := [(.object "com/example/instances_to_rows/instancestorows/query/Lexer$Kind"), (.object "java/lang/String"), .int], returnType := none }, accessFlags := 0, code := some k9c0 }
def k9c1 : Code := { maxStack := 2, maxLocals := 2, code := prog_20_method_3_code, exceptionTable := #[], attributes := #[] }
def k9m1 : Method := { name := "isSymbol", desc := "(Ljava/lang/String;)Z", sig := { parameters := [(.object "java/lang/String")], returnType := some .boolean }, accessFlags := 0, code := some k9c1 }
/-- com/example/instances_to_rows/instancestorows/query/Lexer$Token -/
def k9 : Class := { plain "com/example/instances_to_rows/instancestorows/query/Lexer$Token" (some 8) with
  accessFlags := 48
  interfaces := #[]
  cf := some (fileOf pool9 8 #[.nestHost 73] #[{ accessFlags := 0, nameIndex := 5, descriptorIndex := 59, attributes := #[] }, { accessFlags := 0, nameIndex := 65, descriptorIndex := 31, attributes := #[] }] 48 2 #[] #[{ accessFlags := 18, nameIndex := 11, descriptorIndex := 12, attributes := #[] }, { accessFlags := 18, nameIndex := 15, descriptorIndex := 16, attributes := #[] }, { accessFlags := 18, nameIndex := 19, descriptorIndex := 20, attributes := #[] }])
  fields := #[{ name := "kind", type := (.object "com/example/instances_to_rows/instancestorows/query/Lexer$Kind"), accessFlags := 18, slot := 0, constantValue := 0 }, { name := "text", type := (.object "java/lang/String"), accessFlags := 18, slot := 1, constantValue := 0 }, { name := "position", type := .int, accessFlags := 18, slot := 2, constantValue := 0 }]
  methods := #[k9m0, k9m1]
  instanceTypes := #[(.object "com/example/instances_to_rows/instancestorows/query/Lexer$Kind"), (.object "java/lang/String"), .int]
  staticTypes := #[]
  resolved := Array.replicate 105 none
  statics := none }

def pool10 : Array CpInfo := pool [(2, .class_ 4), (1, u "java/lang/Enum"), (0, u "name"), (0, u "Ljava/lang/String;"), (2, u "ordinal"), (0, u "I"), (1, .class_ 14), (1, u "java/lang/Object"), (4, u "hash"), (86, .class_ 108), (1, u "java/lang/Enum$EnumDesc"), (2, .class_ 112), (0, u "java/lang/constant/Constable"), (0, .class_ 114), (0, u "java/lang/Comparable"), (0, .class_ 116), (0, u "java/io/Serializable")] 87

/-- java/lang/Enum -/
def k10 : Class := { plain "java/lang/Enum" (some 0) with
  accessFlags := 1057
  interfaces := #[5, 3, 2]
  cf := some (fileOf pool10 2 #[.nestMembers #[106]] #[] 1057 12 #[111, 113, 115] #[{ accessFlags := 18, nameIndex := 5, descriptorIndex := 6, attributes := #[] }, { accessFlags := 18, nameIndex := 9, descriptorIndex := 10, attributes := #[] }, { accessFlags := 2, nameIndex := 19, descriptorIndex := 10, attributes := #[] }])
  fields := #[{ name := "name", type := (.object "java/lang/String"), accessFlags := 18, slot := 0, constantValue := 0 }, { name := "ordinal", type := .int, accessFlags := 18, slot := 1, constantValue := 0 }, { name := "hash", type := .int, accessFlags := 2, slot := 2, constantValue := 0 }]
  methods := #[]
  instanceTypes := #[(.object "java/lang/String"), .int, .int]
  staticTypes := #[]
  resolved := Array.replicate 204 none
  statics := none }

def pool11 : Array CpInfo := pool [(1, .class_ 2), (0, u "com/example/instances_to_rows/instancestorows/query/Lexer$Kind"), (2, u "IDENTIFIER"), (0, u "Lcom/example/instances_to_rows/instancestorows/query/Lexer$Kind;"), (2, u "STRING"), (2, u "NUMBER"), (2, u "NAMED_PARAMETER"), (2, u "POSITIONAL_PARAMETER"), (2, u "SYMBOL"), (2, u "END"), (2, u "$VALUES"), (0, u "[Lcom/example/instances_to_rows/instancestorows/query/Lexer$Kind;"), (6, .class_ 37), (1, u "java/lang/Enum"), (30, .class_ 69), (0, u "com/example/instances_to_rows/instancestorows/query/Lexer")] 2

/-- com/example/instances_to_rows/instancestorows/query/Lexer$Kind -/
def k11 : Class := { plain "com/example/instances_to_rows/instancestorows/query/Lexer$Kind" (some 10) with
  accessFlags := 16432
  interfaces := #[]
  cf := some (fileOf pool11 1 #[.nestHost 68] #[] 16432 35 #[] #[{ accessFlags := 16409, nameIndex := 5, descriptorIndex := 6, attributes := #[] }, { accessFlags := 16409, nameIndex := 9, descriptorIndex := 6, attributes := #[] }, { accessFlags := 16409, nameIndex := 12, descriptorIndex := 6, attributes := #[] }, { accessFlags := 16409, nameIndex := 15, descriptorIndex := 6, attributes := #[] }, { accessFlags := 16409, nameIndex := 18, descriptorIndex := 6, attributes := #[] }, { accessFlags := 16409, nameIndex := 21, descriptorIndex := 6, attributes := #[] }, { accessFlags := 16409, nameIndex := 24, descriptorIndex := 6, attributes := #[] }, { accessFlags := 4122, nameIndex := 27, descriptorIndex := 28, attributes := #[] }])
  fields := #[{ name := "IDENTIFIER", type := (.object "com/example/instances_to_rows/instancestorows/query/Lexer$Kind"), accessFlags := 16409, slot := 0, constantValue := 0 }, { name := "STRING", type := (.object "com/example/instances_to_rows/instancestorows/query/Lexer$Kind"), accessFlags := 16409, slot := 1, constantValue := 0 }, { name := "NUMBER", type := (.object "com/example/instances_to_rows/instancestorows/query/Lexer$Kind"), accessFlags := 16409, slot := 2, constantValue := 0 }, { name := "NAMED_PARAMETER", type := (.object "com/example/instances_to_rows/instancestorows/query/Lexer$Kind"), accessFlags := 16409, slot := 3, constantValue := 0 }, { name := "POSITIONAL_PARAMETER", type := (.object "com/example/instances_to_rows/instancestorows/query/Lexer$Kind"), accessFlags := 16409, slot := 4, constantValue := 0 }, { name := "SYMBOL", type := (.object "com/example/instances_to_rows/instancestorows/query/Lexer$Kind"), accessFlags := 16409, slot := 5, constantValue := 0 }, { name := "END", type := (.object "com/example/instances_to_rows/instancestorows/query/Lexer$Kind"), accessFlags := 16409, slot := 6, constantValue := 0 }, { name := "$VALUES", type := (.array (.object "com/example/instances_to_rows/instancestorows/query/Lexer$Kind")), accessFlags := 4122, slot := 7, constantValue := 0 }]
  methods := #[]
  instanceTypes := #[(.object "java/lang/String"), .int, .int]
  staticTypes := #[(.object "com/example/instances_to_rows/instancestorows/query/Lexer$Kind"), (.object "com/example/instances_to_rows/instancestorows/query/Lexer$Kind"), (.object "com/example/instances_to_rows/instancestorows/query/Lexer$Kind"), (.object "com/example/instances_to_rows/instancestorows/query/Lexer$Kind"), (.object "com/example/instances_to_rows/instancestorows/query/Lexer$Kind"), (.object "com/example/instances_to_rows/instancestorows/query/Lexer$Kind"), (.object "com/example/instances_to_rows/instancestorows/query/Lexer$Kind"), (.array (.object "com/example/instances_to_rows/instancestorows/query/Lexer$Kind"))]
  resolved := Array.replicate 72 none
  statics := some 1 }

def pool12 : Array CpInfo := pool [(4, .class_ 6), (1, u "java/lang/Object"), (0, u "<init>"), (0, u "()V"), (5, .class_ 16), (1, u "java/lang/StringLatin1"), (73, u "canEncode"), (14, u "(C)Z"), (15, u "$assertionsDisabled"), (0, u "Z"), (98, .class_ 223), (1, u "java/lang/StringLatin1$LinesSpliterator"), (57, u "equals"), (0, u "([B[B)Z"), (97, u "toBytes"), (1, u "(C)[B"), (7, .class_ 391), (0, u "java/lang/StringLatin1$CharsSpliterator")] 3

def k12m0 : Method := { name := "<init>", desc := "()V", sig := { parameters := [], returnType := none }, accessFlags := 0, code := none }
def k12c1 : Code := { maxStack := 2, maxLocals := 1, code := jdk_43_method_3_code, exceptionTable := #[], attributes := #[] }
def k12m1 : Method := { name := "canEncode", desc := "(C)Z", sig := { parameters := [.char], returnType := some .boolean }, accessFlags := 9, code := some k12c1 }
def k12c2 : Code := { maxStack := 3, maxLocals := 3, code := jdk_43_method_13_code, exceptionTable := #[], attributes := #[] }
def k12m2 : Method := { name := "equals", desc := "([B[B)Z", sig := { parameters := [(.array .byte), (.array .byte)], returnType := some .boolean }, accessFlags := 9, code := some k12c2 }
def k12c3 : Code := { maxStack := 4, maxLocals := 1, code := jdk_43_method_46_code, exceptionTable := #[], attributes := #[] }
def k12m3 : Method := { name := "toBytes", desc := "(C)[B", sig := { parameters := [.char], returnType := some (.array .byte) }, accessFlags := 9, code := some k12c3 }
/-- java/lang/StringLatin1 -/
def k12 : Class := { plain "java/lang/StringLatin1" (some 0) with
  accessFlags := 48
  interfaces := #[]
  cf := some (fileOf pool12 14 #[.nestMembers #[390, 221]] #[{ accessFlags := 0, nameIndex := 7, descriptorIndex := 8, attributes := #[] }, { accessFlags := 9, nameIndex := 90, descriptorIndex := 105, attributes := #[] }, { accessFlags := 9, nameIndex := 281, descriptorIndex := 282, attributes := #[] }, { accessFlags := 9, nameIndex := 380, descriptorIndex := 382, attributes := #[] }] 48 4 #[] #[{ accessFlags := 4120, nameIndex := 121, descriptorIndex := 122, attributes := #[] }])
  fields := #[{ name := "$assertionsDisabled", type := .boolean, accessFlags := 4120, slot := 0, constantValue := 0 }]
  methods := #[k12m0, k12m1, k12m2, k12m3]
  instanceTypes := #[]
  staticTypes := #[.boolean]
  resolved := Array.replicate 395 none
  statics := none }

def pool13 : Array CpInfo := pool [(6, .class_ 8), (1, u "java/lang/Object"), (0, u "<init>"), (0, u "()V"), (1, .class_ 14), (1, u "java/lang/StringUTF16"), (31, u "$assertionsDisabled"), (0, u "Z"), (13, u "HI_BYTE_SHIFT"), (0, u "I"), (2, u "LO_BYTE_SHIFT"), (49, .methodref 12 116), (0, .nameAndType 117 118), (0, u "compress"), (0, u "([CI[BII)I"), (3, u "([CII)[B"), (138, u "coderFromArrayLen"), (0, u "([BI)B"), (106, .class_ 371), (1, u "java/lang/StringUTF16$LinesSpliterator"), (58, u "MAX_LENGTH"), (196, .class_ 628), (0, u "java/lang/StringUTF16$CodePointsSpliterator"), (0, .class_ 630), (0, u "java/lang/StringUTF16$CharsSpliterator")] 4

def k13m0 : Method := { name := "<init>", desc := "()V", sig := { parameters := [], returnType := none }, accessFlags := 0, code := none }
def k13c1 : Code := { maxStack := 2, maxLocals := 2, code := jdk_52_method_15_code, exceptionTable := #[], attributes := #[] }
def k13m1 : Method := { name := "coderFromArrayLen", desc := "([BI)B", sig := { parameters := [(.array .byte), .int], returnType := some .byte }, accessFlags := 8, code := some k13c1 }
def k13c2 : Code := { maxStack := 5, maxLocals := 6, code := jdk_52_method_16_code, exceptionTable := #[], attributes := #[] }
def k13m2 : Method := { name := "compress", desc := "([CII)[B", sig := { parameters := [(.array .char), .int, .int], returnType := some (.array .byte) }, accessFlags := 9, code := some k13c2 }
def k13c3 : Code := { maxStack := 3, maxLocals := 7, code := jdk_52_method_21_code, exceptionTable := #[], attributes := #[] }
def k13m3 : Method := { name := "compress", desc := "([CI[BII)I", sig := { parameters := [(.array .char), .int, (.array .byte), .int, .int], returnType := some .int }, accessFlags := 9, code := some k13c3 }
/-- java/lang/StringUTF16 -/
def k13 : Class := { plain "java/lang/StringUTF16" (some 0) with
  accessFlags := 48
  interfaces := #[]
  cf := some (fileOf pool13 12 #[.nestMembers #[627, 629, 369]] #[{ accessFlags := 0, nameIndex := 9, descriptorIndex := 10, attributes := #[] }, { accessFlags := 8, nameIndex := 261, descriptorIndex := 262, attributes := #[] }, { accessFlags := 9, nameIndex := 117, descriptorIndex := 122, attributes := #[] }, { accessFlags := 9, nameIndex := 117, descriptorIndex := 118, attributes := #[] }] 48 6 #[] #[{ accessFlags := 26, nameIndex := 61, descriptorIndex := 62, attributes := #[] }, { accessFlags := 26, nameIndex := 65, descriptorIndex := 62, attributes := #[] }, { accessFlags := 24, nameIndex := 430, descriptorIndex := 62, attributes := #[] }, { accessFlags := 4120, nameIndex := 46, descriptorIndex := 47, attributes := #[] }])
  fields := #[{ name := "HI_BYTE_SHIFT", type := .int, accessFlags := 26, slot := 0, constantValue := 0 }, { name := "LO_BYTE_SHIFT", type := .int, accessFlags := 26, slot := 1, constantValue := 0 }, { name := "MAX_LENGTH", type := .int, accessFlags := 24, slot := 2, constantValue := 0 }, { name := "$assertionsDisabled", type := .boolean, accessFlags := 4120, slot := 3, constantValue := 0 }]
  methods := #[k13m0, k13m1, k13m2, k13m3]
  instanceTypes := #[]
  staticTypes := #[.int, .int, .int, .boolean]
  resolved := Array.replicate 635 none
  statics := none }

def pool14 : Array CpInfo := pool [(2, .class_ 4), (1, u "java/lang/Object"), (0, u "<init>"), (0, u "()V"), (17, .class_ 26), (1, u "jdk/internal/util/Preconditions"), (28, .class_ 56), (0, u "jdk/internal/util/Preconditions$4"), (57, .class_ 115), (0, u "jdk/internal/util/Preconditions$1"), (7, u "SIOOBE_FORMATTER"), (0, u "Ljava/util/function/BiFunction;"), (0, .class_ 126), (0, u "jdk/internal/util/Preconditions$2"), (3, u "AIOOBE_FORMATTER"), (0, .class_ 132), (0, u "jdk/internal/util/Preconditions$3"), (3, u "IOOBE_FORMATTER")] 57

def k14m0 : Method := { name := "<init>", desc := "()V", sig := { parameters := [], returnType := none }, accessFlags := 1, code := none }
/-- jdk/internal/util/Preconditions -/
def k14 : Class := { plain "jdk/internal/util/Preconditions" (some 0) with
  accessFlags := 33
  interfaces := #[]
  cf := some (fileOf pool14 24 #[.nestMembers #[55, 131, 125, 114]] #[{ accessFlags := 1, nameIndex := 5, descriptorIndex := 6, attributes := #[] }] 33 2 #[] #[{ accessFlags := 25, nameIndex := 123, descriptorIndex := 124, attributes := #[] }, { accessFlags := 25, nameIndex := 130, descriptorIndex := 124, attributes := #[] }, { accessFlags := 25, nameIndex := 136, descriptorIndex := 124, attributes := #[] }])
  fields := #[{ name := "SIOOBE_FORMATTER", type := (.object "java/util/function/BiFunction"), accessFlags := 25, slot := 0, constantValue := 0 }, { name := "AIOOBE_FORMATTER", type := (.object "java/util/function/BiFunction"), accessFlags := 25, slot := 1, constantValue := 0 }, { name := "IOOBE_FORMATTER", type := (.object "java/util/function/BiFunction"), accessFlags := 25, slot := 2, constantValue := 0 }]
  methods := #[k14m0]
  instanceTypes := #[]
  staticTypes := #[(.object "java/util/function/BiFunction"), (.object "java/util/function/BiFunction"), (.object "java/util/function/BiFunction")]
  resolved := Array.replicate 194 none
  statics := some 2 }

def pool15 : Array CpInfo := pool [(9, u "<init>"), (6, .class_ 18), (1, u "java/lang/Object"), (0, u "()V"), (1, .class_ 23), (1, u "jdk/internal/util/ArraysSupport"), (0, u "LOG2_ARRAY_LONG_INDEX_SCALE"), (0, u "I"), (2, u "U"), (0, u "Ljdk/internal/misc/Unsafe;"), (8, u "BIG_ENDIAN"), (0, u "Z"), (8, u "LOG2_BYTE_BIT_SIZE"), (4, u "LOG2_ARRAY_INT_INDEX_SCALE"), (54, u "JLA"), (0, u "Ljdk/internal/access/JavaLangAccess;"), (11, u "LOG2_ARRAY_BOOLEAN_INDEX_SCALE"), (9, u "LOG2_ARRAY_BYTE_INDEX_SCALE"), (5, u "LOG2_ARRAY_CHAR_INDEX_SCALE"), (5, u "LOG2_ARRAY_SHORT_INDEX_SCALE"), (18, u "LOG2_ARRAY_FLOAT_INDEX_SCALE"), (24, u "LOG2_ARRAY_DOUBLE_INDEX_SCALE"), (89, u "T_BOOLEAN"), (2, u "T_CHAR"), (1, u "T_FLOAT"), (1, u "T_DOUBLE"), (1, u "T_BYTE"), (1, u "T_SHORT"), (1, u "T_INT"), (1, u "T_LONG"), (1, u "SOFT_MAX_ARRAY_LENGTH")] 83

def k15m0 : Method := { name := "<init>", desc := "()V", sig := { parameters := [], returnType := none }, accessFlags := 2, code := none }
/-- jdk/internal/util/ArraysSupport -/
def k15 : Class := { plain "jdk/internal/util/ArraysSupport" (some 0) with
  accessFlags := 33
  interfaces := #[]
  cf := some (fileOf pool15 21 #[] #[{ accessFlags := 2, nameIndex := 9, descriptorIndex := 19, attributes := #[] }] 33 16 #[] #[{ accessFlags := 24, nameIndex := 28, descriptorIndex := 29, attributes := #[] }, { accessFlags := 26, nameIndex := 38, descriptorIndex := 39, attributes := #[] }, { accessFlags := 25, nameIndex := 121, descriptorIndex := 25, attributes := #[] }, { accessFlags := 25, nameIndex := 131, descriptorIndex := 25, attributes := #[] }, { accessFlags := 25, nameIndex := 137, descriptorIndex := 25, attributes := #[] }, { accessFlags := 25, nameIndex := 143, descriptorIndex := 25, attributes := #[] }, { accessFlags := 25, nameIndex := 53, descriptorIndex := 25, attributes := #[] }, { accessFlags := 25, nameIndex := 24, descriptorIndex := 25, attributes := #[] }, { accessFlags := 25, nameIndex := 162, descriptorIndex := 25, attributes := #[] }, { accessFlags := 25, nameIndex := 187, descriptorIndex := 25, attributes := #[] }, { accessFlags := 26, nameIndex := 48, descriptorIndex := 25, attributes := #[] }, { accessFlags := 25, nameIndex := 277, descriptorIndex := 25, attributes := #[] }, { accessFlags := 25, nameIndex := 280, descriptorIndex := 25, attributes := #[] }, { accessFlags := 25, nameIndex := 282, descriptorIndex := 25, attributes := #[] }, { accessFlags := 25, nameIndex := 284, descriptorIndex := 25, attributes := #[] }, { accessFlags := 25, nameIndex := 286, descriptorIndex := 25, attributes := #[] }, { accessFlags := 25, nameIndex := 288, descriptorIndex := 25, attributes := #[] }, { accessFlags := 25, nameIndex := 290, descriptorIndex := 25, attributes := #[] }, { accessFlags := 25, nameIndex := 292, descriptorIndex := 25, attributes := #[] }, { accessFlags := 26, nameIndex := 108, descriptorIndex := 109, attributes := #[] }, { accessFlags := 25, nameIndex := 294, descriptorIndex := 25, attributes := #[] }])
  fields := #[{ name := "U", type := (.object "jdk/internal/misc/Unsafe"), accessFlags := 24, slot := 0, constantValue := 0 }, { name := "BIG_ENDIAN", type := .boolean, accessFlags := 26, slot := 1, constantValue := 0 }, { name := "LOG2_ARRAY_BOOLEAN_INDEX_SCALE", type := .int, accessFlags := 25, slot := 2, constantValue := 0 }, { name := "LOG2_ARRAY_BYTE_INDEX_SCALE", type := .int, accessFlags := 25, slot := 3, constantValue := 0 }, { name := "LOG2_ARRAY_CHAR_INDEX_SCALE", type := .int, accessFlags := 25, slot := 4, constantValue := 0 }, { name := "LOG2_ARRAY_SHORT_INDEX_SCALE", type := .int, accessFlags := 25, slot := 5, constantValue := 0 }, { name := "LOG2_ARRAY_INT_INDEX_SCALE", type := .int, accessFlags := 25, slot := 6, constantValue := 0 }, { name := "LOG2_ARRAY_LONG_INDEX_SCALE", type := .int, accessFlags := 25, slot := 7, constantValue := 0 }, { name := "LOG2_ARRAY_FLOAT_INDEX_SCALE", type := .int, accessFlags := 25, slot := 8, constantValue := 0 }, { name := "LOG2_ARRAY_DOUBLE_INDEX_SCALE", type := .int, accessFlags := 25, slot := 9, constantValue := 0 }, { name := "LOG2_BYTE_BIT_SIZE", type := .int, accessFlags := 26, slot := 10, constantValue := 0 }, { name := "T_BOOLEAN", type := .int, accessFlags := 25, slot := 11, constantValue := 0 }, { name := "T_CHAR", type := .int, accessFlags := 25, slot := 12, constantValue := 0 }, { name := "T_FLOAT", type := .int, accessFlags := 25, slot := 13, constantValue := 0 }, { name := "T_DOUBLE", type := .int, accessFlags := 25, slot := 14, constantValue := 0 }, { name := "T_BYTE", type := .int, accessFlags := 25, slot := 15, constantValue := 0 }, { name := "T_SHORT", type := .int, accessFlags := 25, slot := 16, constantValue := 0 }, { name := "T_INT", type := .int, accessFlags := 25, slot := 17, constantValue := 0 }, { name := "T_LONG", type := .int, accessFlags := 25, slot := 18, constantValue := 0 }, { name := "JLA", type := (.object "jdk/internal/access/JavaLangAccess"), accessFlags := 26, slot := 19, constantValue := 0 }, { name := "SOFT_MAX_ARRAY_LENGTH", type := .int, accessFlags := 25, slot := 20, constantValue := 0 }]
  methods := #[k15m0]
  instanceTypes := #[]
  staticTypes := #[(.object "jdk/internal/misc/Unsafe"), .boolean, .int, .int, .int, .int, .int, .int, .int, .int, .int, .int, .int, .int, .int, .int, .int, .int, .int, (.object "jdk/internal/access/JavaLangAccess"), .int]
  resolved := Array.replicate 378 none
  statics := none }

def pool16 : Array CpInfo := pool [(1, u "java/lang/Cloneable"), (0, .class_ 1), (0, u "java/lang/Object"), (0, .class_ 3)] 3

/-- java/lang/Cloneable -/
def k16 : Class := { plain "java/lang/Cloneable" (some 0) with
  accessFlags := 1537
  interfaces := #[]
  cf := some (fileOf pool16 2 #[] #[] 1537 4 #[] #[])
  fields := #[]
  methods := #[]
  instanceTypes := #[]
  staticTypes := #[]
  resolved := Array.replicate 8 none
  statics := none }

/-- the primitive byte -/
def k17 : Class := { plain "byte" none with kind := .primitive 'B', accessFlags := 0x411 }
/-- [B -/
def k18 : Class := { plain "[B" (some 0) with kind := .array 17 .byte, interfaces := #[16, 2], accessFlags := 1041 }

/-- the primitive char -/
def k19 : Class := { plain "char" none with kind := .primitive 'C', accessFlags := 0x411 }
/-- [C -/
def k20 : Class := { plain "[C" (some 0) with kind := .array 19 .char, interfaces := #[16, 2], accessFlags := 1041 }

/-- the primitive int -/
def k21 : Class := { plain "int" none with kind := .primitive 'I', accessFlags := 0x411 }
/-- [I -/
def k22 : Class := { plain "[I" (some 0) with kind := .array 21 .int, interfaces := #[16, 2], accessFlags := 1041 }

def heap : Heap := #[{ cls := 7, slots := #[.long 0, .int 1, .null, .int 0, .null, .int 0, .int 0], vm := .statics 7 },
  { cls := 11, slots := #[.ref 3, .ref 6, .ref 5, .ref 7, .ref 8, .ref 4, .ref 9, .null], vm := .statics 11 },
  { cls := 14, slots := #[.null, .null, .null], vm := .statics 14 },
  { cls := 11, slots := #[.null, .int (0), .int 0], vm := .none },
  { cls := 11, slots := #[.null, .int (5), .int 0], vm := .none },
  { cls := 11, slots := #[.null, .int (2), .int 0], vm := .none },
  { cls := 11, slots := #[.null, .int (1), .int 0], vm := .none },
  { cls := 11, slots := #[.null, .int (3), .int 0], vm := .none },
  { cls := 11, slots := #[.null, .int (4), .int 0], vm := .none },
  { cls := 11, slots := #[.null, .int (6), .int 0], vm := .none }]
def classes : Array Class := #[k0, k1, k2, k3, k4, k5, k6, k7, k8, k9, k10, k11, k12, k13, k14, k15, k16, k17, k18, k19, k20, k21, k22]
def interned : List (Array UInt16 × Addr) := []
def slotsUsed : Nat := 39
def theMethod : MethodId := ⟨1, 3⟩
def args0 : Array Value := #[.int 5, .int 3, .int 7, .int 2]
def aboutOver (below : List Frame) : State where
  vm := { classes := classes, interned := interned.toArray }
  heap := heap
  slotsUsed := slotsUsed
  threads := #[{ frames := .invoking theMethod args0 :: below }]
def below0 : List Frame := [.native { method := ⟨0, 0⟩, args := #[] }]
def about1 : State := aboutOver below0
def p0 : Program := .bare "" "" ""
def e0 : Env := launch0.env 0 0 0
theorem w_frames : about1.frames = Frame.invoking theMethod args0 :: below0 := rfl
set_option maxRecDepth 65536 in
theorem w_args : argsFit about1.vm theMethod args0 = true := by decide +kernel
set_option maxRecDepth 65536 in
theorem w_heap : heapFits about1 = true := by decide +kernel
set_option maxRecDepth 65536 in
theorem w_runnable : about1.curStatus? = some .runnable := by decide +kernel
set_option maxRecDepth 65536 in
theorem w_alone : about1.alone = true := by decide +kernel
set_option maxRecDepth 65536 in
theorem w_named : about1.methodNamed? x = some theMethod := by decide +kernel
set_option maxRecDepth 65536 in
theorem w_hears : about1.hears theMethod below0 = true := by decide +kernel
set_option maxRecDepth 65536 in
theorem w_ripe : about1.ripe theMethod args0 below0 = true := by decide +kernel
theorem w_running : about1.status = .running := rfl
set_option maxRecDepth 65536 in
theorem w_room : about1.hasRoom e0.platform room_1 = true :=
  launch0.hasRoom_least _ room_1 (by decide +kernel) (by decide +kernel) (by decide +kernel) (by decide +kernel) (by decide +kernel) (by decide +kernel)
theorem allAtoms_all (ts : List Jvm.Cond) (a : Array Jvm.Value) (st : Jvm.State) : (allAtoms ts).before a st = ts.all (fun c => c.before a st) := by
  induction ts with
  | nil => rfl
  | cons c t ih =>
    show (Jvm.Cond.and c (allAtoms t)).before a st = _
    rw [Jvm.Cond.before_and, ih, List.all_cons]
def words1 : List Jvm.Cond := Jvm.Cond.code x code maxLocals ret :: tables_1
/-- a 'code' word, met by the world's own term for the bytes: nothing is compared byte by byte -/
theorem code_word {y : MethodName} {bytes : ByteArray} {mx : Nat} {rt : Option FieldType} {a : Array Value} {s : State} {m : MethodId} {meth : Method} {c : Code} (h1 : s.methodNamed? y = some m) (h2 : s.vm.method? m = some meth) (h3 : meth.code = some c) (h4 : c.code = bytes)
    (h5 : (c.maxLocals == mx && c.exceptionTable.isEmpty && decide (c.maxStack ≤ mostOperands) && decide (meth.sig.returnType = rt) && !meth.locks && decide (parseMethodDescriptor y.desc = some meth.sig)) = true) : (Jvm.Cond.code y bytes mx rt).before a s = true := by
  simp only [Bool.and_eq_true, beq_iff_eq, Bool.not_eq_true', decide_eq_true_eq] at h5
  obtain ⟨⟨⟨⟨⟨g1, g2⟩, g3⟩, g4⟩, g5⟩, g6⟩ := h5
  simp [Cond.before, Cond.holds, Cond.value, h1, h2, h3, h4, g1, g2, g3, g4, g5, g6]
def isCode : Jvm.Cond → Bool
  | .code _ _ _ _ => true
  | _ => false
theorem all_split {L : List Jvm.Cond} {P : Jvm.Cond → Bool} (h1 : L.all (fun c => isCode c || P c) = true) (h2 : ∀ c ∈ L.filter isCode, P c = true) : L.all P = true := by
  refine List.all_eq_true.mpr fun c hc => ?_
  have h := List.all_eq_true.mp h1 c hc
  rcases Bool.eq_false_or_eq_true (isCode c) with hi | hi
  · exact h2 c (List.mem_filter.mpr ⟨hc, hi⟩)
  · simpa [hi] using h
set_option maxRecDepth 65536 in
theorem w_c0 : (Jvm.Cond.code x code maxLocals ret).before args0 about1 = true := code_word (m := ⟨1, 3⟩) (meth := k1m3) (c := k1c3) (by decide +kernel) rfl rfl rfl (by decide +kernel)
set_option maxRecDepth 65536 in
theorem w_c1 : (Jvm.Cond.code ({ cls := "com/example/instances_to_rows/instancestorows/query/TokenIsSymbolPinLaw", name := "str", desc := "(ICC)Ljava/lang/String;" } : Jvm.MethodName) method_3_code (4 : Nat) (Option.some (Jvm.ClassFile.FieldType.object "java/lang/String"))).before args0 about1 = true := code_word (m := ⟨1, 2⟩) (meth := k1m2) (c := k1c2) (by decide +kernel) rfl rfl rfl (by decide +kernel)
set_option maxRecDepth 65536 in
theorem w_c2 : (Jvm.Cond.code ({ cls := "java/lang/String", name := "<init>", desc := "([C)V" } : Jvm.MethodName) jdk_42_method_3_code (2 : Nat) (Option.none : Option Jvm.ClassFile.FieldType)).before args0 about1 = true := code_word (m := ⟨7, 1⟩) (meth := k7m1) (c := k7c1) (by decide +kernel) rfl rfl rfl (by decide +kernel)
set_option maxRecDepth 65536 in
theorem w_c3 : (Jvm.Cond.code ({ cls := "java/lang/String", name := "<init>", desc := "([CIILjava/lang/Void;)V" } : Jvm.MethodName) jdk_42_method_149_code (6 : Nat) (Option.none : Option Jvm.ClassFile.FieldType)).before args0 about1 = true := code_word (m := ⟨7, 4⟩) (meth := k7m4) (c := k7c4) (by decide +kernel) rfl rfl rfl (by decide +kernel)
set_option maxRecDepth 65536 in
theorem w_c4 : (Jvm.Cond.code ({ cls := "java/lang/Object", name := "<init>", desc := "()V" } : Jvm.MethodName) object_method_1_code (1 : Nat) (Option.none : Option Jvm.ClassFile.FieldType)).before args0 about1 = true := code_word (m := ⟨0, 0⟩) (meth := k0m0) (c := k0c0) (by decide +kernel) rfl rfl rfl (by decide +kernel)
set_option maxRecDepth 65536 in
theorem w_c5 : (Jvm.Cond.code ({ cls := "com/example/instances_to_rows/instancestorows/query/TokenIsSymbolPinLaw", name := "kindOf", desc := "(I)Lcom/example/instances_to_rows/instancestorows/query/Lexer$Kind;" } : Jvm.MethodName) method_2_code (1 : Nat) (Option.some (Jvm.ClassFile.FieldType.object "com/example/instances_to_rows/instancestorows/query/Lexer$Kind"))).before args0 about1 = true := code_word (m := ⟨1, 1⟩) (meth := k1m1) (c := k1c1) (by decide +kernel) rfl rfl rfl (by decide +kernel)
set_option maxRecDepth 65536 in
theorem w_c6 : (Jvm.Cond.code ({ cls := "com/example/instances_to_rows/instancestorows/query/Lexer$Token", name := "<init>", desc := "(Lcom/example/instances_to_rows/instancestorows/query/Lexer$Kind;Ljava/lang/String;I)V" } : Jvm.MethodName) prog_20_method_1_code (4 : Nat) (Option.none : Option Jvm.ClassFile.FieldType)).before args0 about1 = true := code_word (m := ⟨9, 0⟩) (meth := k9m0) (c := k9c0) (by decide +kernel) rfl rfl rfl (by decide +kernel)
set_option maxRecDepth 65536 in
theorem w_c7 : (Jvm.Cond.code ({ cls := "java/lang/Record", name := "<init>", desc := "()V" } : Jvm.MethodName) jdk_30_method_1_code (1 : Nat) (Option.none : Option Jvm.ClassFile.FieldType)).before args0 about1 = true := code_word (m := ⟨8, 0⟩) (meth := k8m0) (c := k8c0) (by decide +kernel) rfl rfl rfl (by decide +kernel)
set_option maxRecDepth 65536 in
theorem w_c8 : (Jvm.Cond.code ({ cls := "com/example/instances_to_rows/instancestorows/query/Lexer$Token", name := "isSymbol", desc := "(Ljava/lang/String;)Z" } : Jvm.MethodName) prog_20_method_3_code (2 : Nat) (Option.some Jvm.ClassFile.FieldType.boolean)).before args0 about1 = true := code_word (m := ⟨9, 1⟩) (meth := k9m1) (c := k9c1) (by decide +kernel) rfl rfl rfl (by decide +kernel)
set_option maxRecDepth 65536 in
theorem w_c9 : (Jvm.Cond.code ({ cls := "java/lang/String", name := "equals", desc := "(Ljava/lang/Object;)Z" } : Jvm.MethodName) jdk_42_method_66_code (3 : Nat) (Option.some Jvm.ClassFile.FieldType.boolean)).before args0 about1 = true := code_word (m := ⟨7, 2⟩) (meth := k7m2) (c := k7c2) (by decide +kernel) rfl rfl rfl (by decide +kernel)
set_option maxRecDepth 65536 in
theorem w_c10 : (Jvm.Cond.code ({ cls := "java/lang/StringLatin1", name := "equals", desc := "([B[B)Z" } : Jvm.MethodName) jdk_43_method_13_code (3 : Nat) (Option.some Jvm.ClassFile.FieldType.boolean)).before args0 about1 = true := code_word (m := ⟨12, 2⟩) (meth := k12m2) (c := k12c2) (by decide +kernel) rfl rfl rfl (by decide +kernel)
set_option maxRecDepth 65536 in
theorem w_c11 : (Jvm.Cond.code ({ cls := "java/lang/StringUTF16", name := "compress", desc := "([CII)[B" } : Jvm.MethodName) jdk_52_method_16_code (6 : Nat) (Option.some (Jvm.ClassFile.FieldType.array Jvm.ClassFile.FieldType.byte))).before args0 about1 = true := code_word (m := ⟨13, 2⟩) (meth := k13m2) (c := k13c2) (by decide +kernel) rfl rfl rfl (by decide +kernel)
set_option maxRecDepth 65536 in
theorem w_c12 : (Jvm.Cond.code ({ cls := "java/lang/StringUTF16", name := "compress", desc := "([CI[BII)I" } : Jvm.MethodName) jdk_52_method_21_code (7 : Nat) (Option.some Jvm.ClassFile.FieldType.int)).before args0 about1 = true := code_word (m := ⟨13, 3⟩) (meth := k13m3) (c := k13c3) (by decide +kernel) rfl rfl rfl (by decide +kernel)
set_option maxRecDepth 65536 in
theorem w_c13 : (Jvm.Cond.code ({ cls := "java/lang/StringUTF16", name := "coderFromArrayLen", desc := "([BI)B" } : Jvm.MethodName) jdk_52_method_15_code (2 : Nat) (Option.some Jvm.ClassFile.FieldType.byte)).before args0 about1 = true := code_word (m := ⟨13, 1⟩) (meth := k13m1) (c := k13c1) (by decide +kernel) rfl rfl rfl (by decide +kernel)
set_option maxRecDepth 65536 in
theorem w_c14 : (Jvm.Cond.code ({ cls := "java/lang/String", name := "valueOf", desc := "(C)Ljava/lang/String;" } : Jvm.MethodName) jdk_42_method_139_code (1 : Nat) (Option.some (Jvm.ClassFile.FieldType.object "java/lang/String"))).before args0 about1 = true := code_word (m := ⟨7, 3⟩) (meth := k7m3) (c := k7c3) (by decide +kernel) rfl rfl rfl (by decide +kernel)
set_option maxRecDepth 65536 in
theorem w_c15 : (Jvm.Cond.code ({ cls := "java/lang/StringLatin1", name := "canEncode", desc := "(C)Z" } : Jvm.MethodName) jdk_43_method_3_code (1 : Nat) (Option.some Jvm.ClassFile.FieldType.boolean)).before args0 about1 = true := code_word (m := ⟨12, 1⟩) (meth := k12m1) (c := k12c1) (by decide +kernel) rfl rfl rfl (by decide +kernel)
set_option maxRecDepth 65536 in
theorem w_c16 : (Jvm.Cond.code ({ cls := "java/lang/StringLatin1", name := "toBytes", desc := "(C)[B" } : Jvm.MethodName) jdk_43_method_46_code (1 : Nat) (Option.some (Jvm.ClassFile.FieldType.array Jvm.ClassFile.FieldType.byte))).before args0 about1 = true := code_word (m := ⟨12, 3⟩) (meth := k12m3) (c := k12c3) (by decide +kernel) rfl rfl rfl (by decide +kernel)
set_option maxRecDepth 65536 in
theorem w_c17 : (Jvm.Cond.code ({ cls := "java/lang/String", name := "<init>", desc := "([BB)V" } : Jvm.MethodName) jdk_42_method_151_code (3 : Nat) (Option.none : Option Jvm.ClassFile.FieldType)).before args0 about1 = true := code_word (m := ⟨7, 5⟩) (meth := k7m5) (c := k7c5) (by decide +kernel) rfl rfl rfl (by decide +kernel)
def codes1 : List Jvm.Cond := [Jvm.Cond.code x code maxLocals ret, Jvm.Cond.code ({ cls := "com/example/instances_to_rows/instancestorows/query/TokenIsSymbolPinLaw", name := "str", desc := "(ICC)Ljava/lang/String;" } : Jvm.MethodName) method_3_code (4 : Nat) (Option.some (Jvm.ClassFile.FieldType.object "java/lang/String")), Jvm.Cond.code ({ cls := "java/lang/String", name := "<init>", desc := "([C)V" } : Jvm.MethodName) jdk_42_method_3_code (2 : Nat) (Option.none : Option Jvm.ClassFile.FieldType), Jvm.Cond.code ({ cls := "java/lang/String", name := "<init>", desc := "([CIILjava/lang/Void;)V" } : Jvm.MethodName) jdk_42_method_149_code (6 : Nat) (Option.none : Option Jvm.ClassFile.FieldType), Jvm.Cond.code ({ cls := "java/lang/Object", name := "<init>", desc := "()V" } : Jvm.MethodName) object_method_1_code (1 : Nat) (Option.none : Option Jvm.ClassFile.FieldType), Jvm.Cond.code ({ cls := "com/example/instances_to_rows/instancestorows/query/TokenIsSymbolPinLaw", name := "kindOf", desc := "(I)Lcom/example/instances_to_rows/instancestorows/query/Lexer$Kind;" } : Jvm.MethodName) method_2_code (1 : Nat) (Option.some (Jvm.ClassFile.FieldType.object "com/example/instances_to_rows/instancestorows/query/Lexer$Kind")), Jvm.Cond.code ({ cls := "com/example/instances_to_rows/instancestorows/query/Lexer$Token", name := "<init>", desc := "(Lcom/example/instances_to_rows/instancestorows/query/Lexer$Kind;Ljava/lang/String;I)V" } : Jvm.MethodName) prog_20_method_1_code (4 : Nat) (Option.none : Option Jvm.ClassFile.FieldType), Jvm.Cond.code ({ cls := "java/lang/Record", name := "<init>", desc := "()V" } : Jvm.MethodName) jdk_30_method_1_code (1 : Nat) (Option.none : Option Jvm.ClassFile.FieldType), Jvm.Cond.code ({ cls := "com/example/instances_to_rows/instancestorows/query/Lexer$Token", name := "isSymbol", desc := "(Ljava/lang/String;)Z" } : Jvm.MethodName) prog_20_method_3_code (2 : Nat) (Option.some Jvm.ClassFile.FieldType.boolean), Jvm.Cond.code ({ cls := "java/lang/String", name := "equals", desc := "(Ljava/lang/Object;)Z" } : Jvm.MethodName) jdk_42_method_66_code (3 : Nat) (Option.some Jvm.ClassFile.FieldType.boolean), Jvm.Cond.code ({ cls := "java/lang/StringLatin1", name := "equals", desc := "([B[B)Z" } : Jvm.MethodName) jdk_43_method_13_code (3 : Nat) (Option.some Jvm.ClassFile.FieldType.boolean), Jvm.Cond.code ({ cls := "java/lang/StringUTF16", name := "compress", desc := "([CII)[B" } : Jvm.MethodName) jdk_52_method_16_code (6 : Nat) (Option.some (Jvm.ClassFile.FieldType.array Jvm.ClassFile.FieldType.byte)), Jvm.Cond.code ({ cls := "java/lang/StringUTF16", name := "compress", desc := "([CI[BII)I" } : Jvm.MethodName) jdk_52_method_21_code (7 : Nat) (Option.some Jvm.ClassFile.FieldType.int), Jvm.Cond.code ({ cls := "java/lang/StringUTF16", name := "coderFromArrayLen", desc := "([BI)B" } : Jvm.MethodName) jdk_52_method_15_code (2 : Nat) (Option.some Jvm.ClassFile.FieldType.byte), Jvm.Cond.code ({ cls := "java/lang/String", name := "valueOf", desc := "(C)Ljava/lang/String;" } : Jvm.MethodName) jdk_42_method_139_code (1 : Nat) (Option.some (Jvm.ClassFile.FieldType.object "java/lang/String")), Jvm.Cond.code ({ cls := "java/lang/StringLatin1", name := "canEncode", desc := "(C)Z" } : Jvm.MethodName) jdk_43_method_3_code (1 : Nat) (Option.some Jvm.ClassFile.FieldType.boolean), Jvm.Cond.code ({ cls := "java/lang/StringLatin1", name := "toBytes", desc := "(C)[B" } : Jvm.MethodName) jdk_43_method_46_code (1 : Nat) (Option.some (Jvm.ClassFile.FieldType.array Jvm.ClassFile.FieldType.byte)), Jvm.Cond.code ({ cls := "java/lang/String", name := "<init>", desc := "([BB)V" } : Jvm.MethodName) jdk_42_method_151_code (3 : Nat) (Option.none : Option Jvm.ClassFile.FieldType)]
set_option maxRecDepth 65536 in
theorem codes_eq : words1.filter isCode = codes1 := rfl
theorem w_codes : ∀ c ∈ words1.filter isCode, c.before args0 about1 = true := by
  rw [codes_eq]
  intro c hc
  simp only [codes1, List.mem_cons, List.not_mem_nil, or_false] at hc
  rcases hc with rfl | rfl | rfl | rfl | rfl | rfl | rfl | rfl | rfl | rfl | rfl | rfl | rfl | rfl | rfl | rfl | rfl | rfl
  · exact w_c0
  · exact w_c1
  · exact w_c2
  · exact w_c3
  · exact w_c4
  · exact w_c5
  · exact w_c6
  · exact w_c7
  · exact w_c8
  · exact w_c9
  · exact w_c10
  · exact w_c11
  · exact w_c12
  · exact w_c13
  · exact w_c14
  · exact w_c15
  · exact w_c16
  · exact w_c17
set_option maxRecDepth 65536 in
theorem w_t1 : (words1.take 24).all (fun c => isCode c || c.before args0 about1) = true := by decide +kernel
set_option maxRecDepth 65536 in
theorem w_t2 : ((words1.drop 24).take 24).all (fun c => isCode c || c.before args0 about1) = true := by decide +kernel
set_option maxRecDepth 65536 in
theorem w_t3 : (((words1.drop 24).drop 24).take 24).all (fun c => isCode c || c.before args0 about1) = true := by decide +kernel
set_option maxRecDepth 65536 in
theorem w_t4 : ((((words1.drop 24).drop 24).drop 24).take 24).all (fun c => isCode c || c.before args0 about1) = true := by decide +kernel
set_option maxRecDepth 65536 in
theorem w_t5 : ((((words1.drop 24).drop 24).drop 24).drop 24).all (fun c => isCode c || c.before args0 about1) = true := by decide +kernel
theorem w_tables : (allAtoms (Jvm.Cond.code x code maxLocals ret :: tables_1)).before args0 about1 = true := by
  rw [allAtoms_all]
  show words1.all (fun c => c.before args0 about1) = true
  refine all_split ?_ w_codes
  rw [← List.take_append_drop 24 words1, List.all_append, w_t1, ← List.take_append_drop 24 (words1.drop 24), List.all_append, w_t2, ← List.take_append_drop 24 ((words1.drop 24).drop 24), List.all_append, w_t3, ← List.take_append_drop 24 (((words1.drop 24).drop 24).drop 24), List.all_append, w_t4, w_t5]
  rfl
set_option maxRecDepth 65536 in
theorem w_rest : rest_1_c.before args0 about1 = true := by decide +kernel
set_option maxRecDepth 65536 in
theorem w_case : (Jvm.Cond.and given_1 narrow_1).before args0 about1 = true := by decide +kernel
set_option maxRecDepth 65536 in
theorem w_consts : constsHeld consts_1 about1 := Jvm.Lit.constsHeldB_iff.mp (by decide +kernel)
theorem w_applies : (headSpec (Jvm.Cond.code x code maxLocals ret :: tables_1) room_1).applies x e0.platform about1 = true :=
  (Spec.applies_iff w_frames).mpr ⟨w_running, w_runnable, w_alone, w_named, w_hears, w_ripe, w_room, w_tables⟩
theorem atStart : AtStart classFile x code maxLocals ret World_1 tables_1 room_1 Calls_1 rest_1 Pre_1 launch0 p0 e0 about1 theMethod args0 below0 :=
  ⟨lists_1, trivial, launch0.admits_env _ _ _, launch0.least_env, fairChoices_fair.cas, fairChoices_fair.clock, w_frames, w_args, w_heap, w_applies, ⟨w_consts, trivial⟩, w_rest, w_case⟩
end start1
theorem witness_1 : WitnessClaimed_1 := ⟨start1.p0, start1.e0, start1.about1, start1.theMethod, start1.args0, start1.below0, start1.atStart⟩
end Jvm.Pilot.@@N@@
