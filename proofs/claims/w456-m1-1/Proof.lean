import JvmDerived
import JvmDerived.Pilot.@@N@@Statement
import JvmDerived.Pilot.@@N@@Code
set_option linter.unusedVariables false
set_option linter.unusedSimpArgs false
@@BLOCK:NumsL.lean.txt@@
namespace Jvm.Pilot.@@N@@
open Jvm Jvm.ClassFile Sem Op Lib Jvm.Free Jvm.Stand Jvm.LawKit Jvm.RoadKit Bundle Jvm.Pilot.@@N@@.Jvm.D
section OwnKit
variable {p : Program} {l : Launch} {e : Env} {R : Room} {s : State} {m : MethodId} {args : Array Value} {below : List Frame} {meth : Method} {c : Code} {T : State} {locs : List Loc} {cells slots : Nat} {Z : State} {a0 : Array Value} {h h' : Heap}
/-- from S the run comes to an end of which P holds -/
def Go (p : Program) (e : Env) (below : List Frame) (P : State → Outcome → Prop) (S : State) : Prop :=
  ∃ s₂ o, Steps p.tables e below S s₂ ∧ s₂.status = .running ∧ Ended s₂ below o ∧ P s₂ o
/-- what a contract says of the end -/
def Ret (s : State) (Q : Option Value → Heap → List Loc → Prop) (cs sl : Nat) : State → Outcome → Prop :=
  fun s₂ o => ∃ v L, o = .returned v ∧ Q v s₂.heap L ∧ FrameEnd s o s₂ L cs sl
theorem Go.st {P : State → Outcome → Prop} {S S' : State} (k : ∀ t, Steps p.tables e below S' t → Steps p.tables e below S t) (g : Go p e below P S') : Go p e below P S := by
  obtain ⟨t, o, q, r⟩ := g
  exact ⟨t, o, k t q, r⟩
/-- a contract in this family: entered with these arguments on this heap -/
abbrev Con (l : Launch) (Z : State) (h0 : Heap) (y : MethodName) (bytes : ByteArray) (maxL : Nat) (ret : Option FieldType) (ws : List Jvm.Cond) (rm : Room) (as' : Array Value) (Q : Option Value → Heap → List Loc → Prop) : Prop :=
  MetFree l y (head1 (Jvm.Cond.code y bytes maxL ret :: ws) rm) (fun a U => a = as' ∧ Z.Warmed39 U.vm ∧ U.heap = h0) (fun _ _ _ _ _ => True) (fun _ U o U' => ∃ v L, o = .returned v ∧ Q v U'.heap L ∧ FrameEnd U o U' L rm.cells rm.slots)
theorem own_con {h0 : Heap} {y : MethodName} {bytes : ByteArray} {maxL : Nat} {ret : Option FieldType} {ws : List Jvm.Cond} {rm : Room} {as' : Array Value} {Q : Option Value → Heap → List Loc → Prop} (hpl : plainFor y = true)
    (body : ∀ (p : Program) (e : Env) (s : State) (m : MethodId) (below : List Frame) (meth : Method) (c : Code) (T : State), Stand p l e rm s m as' below meth c T [] 0 0 → p.tables.exec = Jvm.exec → c.code = bytes → c.maxLocals = maxL → s.vm.findClass y.cls = some m.cls → meth.name = y.name → meth.sig.returnType = ret → meth.locks = false → Z.Warmed39 s.vm → T.heap = h0 →
      Go p e below (Ret s Q rm.cells rm.slots) (T.setTop (entryFrame m as' maxL))) : Con l Z h0 y bytes maxL ret ws rm as' Q := by
  refine MetFree.of_bodySF hpl hisR ?_
  intro p e s m args below meth c s₁ Bd hml0 hP hK
  obtain ⟨rfl, hZ, hh⟩ := hP
  exact body p e s m below meth c s₁ (Stand.of_body Bd) Bd.exec Bd.bytes hml0 (findClass_of_methodNamed Bd.named) (name_of_methodNamed Bd.named Bd.method).1 Bd.returns Bd.notSynchronized hZ (by rw [← hh, Bd.state]; rfl)
theorem own_callS (X : Stand p l e R s m args below meth c T locs cells slots) (hx : p.tables.exec = Jvm.exec) (hZ : Z.Warmed39 s.vm)
    {own : String} {index : Nat} {y : MethodName} {bytes : ByteArray} {maxL : Nat} {ret : Option FieldType} {rm : Room} {as' : Array Value} {Q : Option Value → Heap → List Loc → Prop}
    (hown : s.vm.findClass own = some m.cls) (w1 : (Jvm.Cond.methodLink own index y).before a0 Z = true) (w2 : (Jvm.Cond.static y).before a0 Z = true) (w3 : (Jvm.Cond.initialized y.cls).before a0 Z = true) (w4 : (Jvm.Cond.code y bytes maxL ret).before a0 Z = true)
    (hy : y.cls ≠ "java/lang/invoke/MethodHandle" ∧ y.cls ≠ "java/lang/invoke/VarHandle") (eT : T.heap = h) (hM : Con l Z h y bytes maxL ret [] rm as' Q)
    (W : Nat) (hf : rm.frames + 1 ≤ R.frames) (hl : W + (maxL + 11) + rm.locals ≤ R.locals) (hc : cells + rm.cells ≤ R.cells) (hs : slots + rm.slots ≤ R.slots)
    {g : JFrame} (hg : g.method = m) (hsize : g.locals.size = c.maxLocals) (argsL rest : List Value) (has : argsL.toArray = as') (hlen : ∀ sig, parseMethodDescriptor y.desc = some sig → argsL.length = sig.parameters.length) (hstack : g.stack = argsL.reverse ++ rest) (hW : 2 * g.monitorRoom + (rest.map fun v => v.category).sum ≤ W)
    (hd : decode c.code g.pc = .ok (.invokestatic index, 3)) :
    ∃ (v : Option Value) (T' : State) (L : List Loc), Stand p l e R s m args below meth c T' (locs ++ L) (cells + rm.cells) (slots + rm.slots) ∧ Q v T'.heap L ∧ ∀ t, Steps p.tables e below (T'.setTop { g with pc := g.pc + 3, stack := v.toList ++ rest }) t → Steps p.tables e below (T.setTop g) t := by
  obtain ⟨v, _, ⟨T', L', k', n'⟩, -, X', ⟨L, hQ, l1, l2, l3⟩, st⟩ := Jvm.LawKit.callS X hx hown (mvT hZ w1) (mvT hZ w2) (mvT hZ w3) (mvT hZ w4) hy (backOf (W := W) hM hZ w4 w3 hf hl) hg hsize hlen hstack hW hd (fun _ _ => ⟨has, eT, hc, hs⟩)
  dsimp only [Pt.U, Pt.locs, Pt.cells, Pt.slots] at X' l1 l2 l3 st hQ
  subst l1 l2 l3
  exact ⟨v, T', L, X', hQ, st⟩
theorem own_callV (X : Stand p l e R s m args below meth c T locs cells slots) (hx : p.tables.exec = Jvm.exec) (hZ : Z.Warmed39 s.vm)
    {own C : String} {index : Nat} {y z : MethodName} {bytes : ByteArray} {maxL : Nat} {ret : Option FieldType} {rm : Room} {as' : Array Value} {Q : Option Value → Heap → List Loc → Prop} {b : Addr}
    (hown : s.vm.findClass own = some m.cls) (w1 : (Jvm.Cond.methodLink own index y).before a0 Z = true) (w2 : (Jvm.Cond.declares y).before a0 Z = true) (hnf : NotFace s y) (w4 : (Jvm.Cond.selects C y z).before a0 Z = true) (w5 : (Jvm.Cond.instanceMethod z).before a0 Z = true) (w3 : (Jvm.Cond.initialized z.cls).before a0 Z = true) (w6 : (Jvm.Cond.code z bytes maxL ret).before a0 Z = true)
    (hy : y.cls ≠ "java/lang/invoke/MethodHandle" ∧ y.cls ≠ "java/lang/invoke/VarHandle") (eT : T.heap = h) (E : Exa Z h b C) (hM : Con l Z h z bytes maxL ret [] rm as' Q)
    (W : Nat) (hf : rm.frames + 1 ≤ R.frames) (hl : W + (maxL + 11) + rm.locals ≤ R.locals) (hc : cells + rm.cells ≤ R.cells) (hs : slots + rm.slots ≤ R.slots)
    {g : JFrame} (hg : g.method = m) (hsize : g.locals.size = c.maxLocals) (argsL rest : List Value) (has : (.ref b :: argsL).toArray = as') (hlen : ∀ sig, parseMethodDescriptor y.desc = some sig → argsL.length = sig.parameters.length) (hstack : g.stack = argsL.reverse ++ .ref b :: rest) (hW : 2 * g.monitorRoom + (rest.map fun v => v.category).sum ≤ W)
    (hd : decode c.code g.pc = .ok (.invokevirtual index, 3)) :
    ∃ (v : Option Value) (T' : State) (L : List Loc), Stand p l e R s m args below meth c T' (locs ++ L) (cells + rm.cells) (slots + rm.slots) ∧ Q v T'.heap L ∧ ∀ t, Steps p.tables e below (T'.setTop { g with pc := g.pc + 3, stack := v.toList ++ rest }) t → Steps p.tables e below (T.setTop g) t := by
  obtain ⟨cq, kq, qa, qb, qc⟩ := isOf hZ eT E
  obtain ⟨v, _, ⟨T', L', k', n'⟩, -, X', ⟨L, hQ, l1, l2, l3⟩, st⟩ := X.virtualBack hx hown (mvT hZ w1) (mvT hZ w2) hnf (mvT hZ w4) (mvT hZ w5) hy (backOf (W := W) hM hZ w6 w3 hf hl) qa qc hg hsize (Steps.refl _) hlen hstack hW hd (fun _ _ => ⟨has, eT, hc, hs⟩)
  dsimp only [Pt.U, Pt.locs, Pt.cells, Pt.slots] at X' l1 l2 l3 st hQ
  subst l1 l2 l3
  exact ⟨v, T', L, X', hQ, fun t k => st.trans k⟩
theorem own_callI (X : Stand p l e R s m args below meth c T locs cells slots) (hx : p.tables.exec = Jvm.exec) (hZ : Z.Warmed39 s.vm)
    {own : String} {index : Nat} {y : MethodName} {bytes : ByteArray} {maxL : Nat} {rm : Room} {as' : Array Value} {Q : Option Value → Heap → List Loc → Prop} {b : Addr} (hy1 : y.name = "<init>")
    (hown : s.vm.findClass own = some m.cls) (w1 : (Jvm.Cond.methodLink own index y).before a0 Z = true) (w5 : (Jvm.Cond.instanceMethod y).before a0 Z = true) (w3 : (Jvm.Cond.initialized y.cls).before a0 Z = true) (w6 : (Jvm.Cond.code y bytes maxL none).before a0 Z = true)
    (hy : y.cls ≠ "java/lang/invoke/MethodHandle" ∧ y.cls ≠ "java/lang/invoke/VarHandle") (eT : T.heap = h) (hM : Con l Z h y bytes maxL none [] rm as' Q)
    (W : Nat) (hf : rm.frames + 1 ≤ R.frames) (hl : W + (maxL + 11) + rm.locals ≤ R.locals) (hc : cells + rm.cells ≤ R.cells) (hs : slots + rm.slots ≤ R.slots)
    {g : JFrame} (hg : g.method = m) (hsize : g.locals.size = c.maxLocals) (argsL rest : List Value) (has : (.ref b :: argsL).toArray = as') (hlen : ∀ sig, parseMethodDescriptor y.desc = some sig → argsL.length = sig.parameters.length) (hstack : g.stack = argsL.reverse ++ .ref b :: rest) (hW : 2 * g.monitorRoom + (rest.map fun v => v.category).sum ≤ W)
    (hd : decode c.code g.pc = .ok (.invokespecial index, 3)) :
    ∃ (v : Option Value) (T' : State) (L : List Loc), Stand p l e R s m args below meth c T' (locs ++ L) (cells + rm.cells) (slots + rm.slots) ∧ Q v T'.heap L ∧ ∀ t, Steps p.tables e below (T'.setTop { g with pc := g.pc + 3, stack := v.toList ++ rest }) t → Steps p.tables e below (T.setTop g) t := by
  obtain ⟨v, _, ⟨T', L', k', n'⟩, -, X', ⟨L, hQ, l1, l2, l3⟩, st⟩ := X.specialBack hx hy1 hown (mvT hZ w1) (mvT hZ w5) (mvT hZ w6) hy (backOf (W := W) hM hZ w6 w3 hf hl) hg hsize (Steps.refl _) hlen hstack hW hd (fun _ _ => ⟨has, eT, hc, hs⟩)
  dsimp only [Pt.U, Pt.locs, Pt.cells, Pt.slots] at X' l1 l2 l3 st hQ
  subst l1 l2 l3
  exact ⟨v, T', L, X', hQ, fun t k => st.trans k⟩
/-- the end of a walk -/
theorem own_fin (X : Stand p l e R s m args below meth c T locs cells slots) (hlk : meth.locks = false) {v : Option Value} (hv : meth.sig.returnType = none → v = none) {Q : Option Value → Heap → List Loc → Prop} {cs sl : Nat} (eT : T.heap = h) (hQ : Q v h locs) (hc : cells ≤ cs) (hs : slots ≤ sl) {S : State}
    (k : ∀ fs : List Frame, (∀ (f : JFrame) (acts : List Action), f.method = m → f.locked = none → f.entered = [] → (doReturn e (T.setTop f) acts v).1 = T.setFrames fs) → Steps p.tables e below S (T.setFrames fs)) : Go p e below (Ret s Q cs sl) S := by
  obtain ⟨fs, hr, hrun, hended, hW, hsame⟩ := X.leave hv hlk
  refine ⟨_, _, k fs hr, hrun, hended, _, _, rfl, ?_, ⟨_, rfl⟩, hW, hsame.mono hc hs⟩
  have q : (T.setFrames fs).heap = h := eT
  rw [q]; exact hQ
theorem own_retO (X : Stand p l e R s m args below meth c T locs cells slots) (hx : p.tables.exec = Jvm.exec) (hlk : meth.locks = false) {pc : Nat} {Ls : Array Slot} {w : Value} {t : FieldType} {i : Instr} {rest : List Value} (hret : meth.sig.returnType = some t) (hn : narrow t w = w)
    (hi : (i = .ireturn ∧ (t = .int ∨ t = .boolean ∨ t = .byte ∨ t = .char ∨ t = .short) ∧ ∃ z, w = .int z) ∨ (i = .lreturn ∧ t = .long ∧ ∃ z, w = .long z) ∨ (i = .dreturn ∧ t = .double ∧ ∃ z, w = .double z) ∨ (i = .freturn ∧ t = .float ∧ ∃ z, w = .float z) ∨ (i = .areturn ∧ t.isReference = true ∧ w.isRef = true))
    (hd : decode c.code pc = .ok (i, 1)) {Q : Option Value → Heap → List Loc → Prop} {cs sl : Nat} (eT : T.heap = h) (hQ : Q (some w) h locs) (hc : cells ≤ cs) (hs : slots ≤ sl) : Go p e below (Ret s Q cs sl) (T.setTop (mkF m pc Ls (w :: rest))) :=
  own_fin X hlk (fun q => by rw [hret] at q; cases q) eT hQ hc hs fun fs hr => retOut X hx hret hn hi hd hr
theorem own_retI (X : Stand p l e R s m args below meth c T locs cells slots) (hx : p.tables.exec = Jvm.exec) (hlk : meth.locks = false) {pc : Nat} {Ls : Array Slot} {w : Int32} {rest : List Value} (hret : meth.sig.returnType = some .int)
    (hd : decode c.code pc = .ok (.ireturn, 1)) {Q : Option Value → Heap → List Loc → Prop} {cs sl : Nat} (eT : T.heap = h) (hQ : Q (some (.int w)) h locs) (hc : cells ≤ cs) (hs : slots ≤ sl) : Go p e below (Ret s Q cs sl) (T.setTop (mkF m pc Ls (.int w :: rest))) :=
  own_retO X hx hlk hret rfl (Or.inl ⟨rfl, Or.inl rfl, _, rfl⟩) hd eT hQ hc hs
theorem own_retJ (X : Stand p l e R s m args below meth c T locs cells slots) (hx : p.tables.exec = Jvm.exec) (hlk : meth.locks = false) {pc : Nat} {Ls : Array Slot} {w : Int64} {rest : List Value} (hret : meth.sig.returnType = some .long)
    (hd : decode c.code pc = .ok (.lreturn, 1)) {Q : Option Value → Heap → List Loc → Prop} {cs sl : Nat} (eT : T.heap = h) (hQ : Q (some (.long w)) h locs) (hc : cells ≤ cs) (hs : slots ≤ sl) : Go p e below (Ret s Q cs sl) (T.setTop (mkF m pc Ls (.long w :: rest))) :=
  own_retO X hx hlk hret rfl (Or.inr (Or.inl ⟨rfl, rfl, _, rfl⟩)) hd eT hQ hc hs
theorem own_retA (X : Stand p l e R s m args below meth c T locs cells slots) (hx : p.tables.exec = Jvm.exec) (hlk : meth.locks = false) {pc : Nat} {Ls : Array Slot} {w : Value} {t : FieldType} {rest : List Value} (hret : meth.sig.returnType = some t) (hn : narrow t w = w) (ht : t.isReference = true) (hw : w.isRef = true)
    (hd : decode c.code pc = .ok (.areturn, 1)) {Q : Option Value → Heap → List Loc → Prop} {cs sl : Nat} (eT : T.heap = h) (hQ : Q (some w) h locs) (hc : cells ≤ cs) (hs : slots ≤ sl) : Go p e below (Ret s Q cs sl) (T.setTop (mkF m pc Ls (w :: rest))) :=
  own_retO X hx hlk hret hn (Or.inr (Or.inr (Or.inr (Or.inr ⟨rfl, ht, hw⟩)))) hd eT hQ hc hs
theorem own_retN (X : Stand p l e R s m args below meth c T locs cells slots) (hx : p.tables.exec = Jvm.exec) (hlk : meth.locks = false) {pc : Nat} {Ls : Array Slot} {z : Int32} {t : FieldType} {rest : List Value} (hret : meth.sig.returnType = some t) (ht : t = .boolean ∨ t = .byte ∨ t = .char ∨ t = .short)
    (hd : decode c.code pc = .ok (.ireturn, 1)) {Q : Option Value → Heap → List Loc → Prop} {cs sl : Nat} (eT : T.heap = h) (hQ : Q (some (.int (nar t z))) h locs) (hc : cells ≤ cs) (hs : slots ≤ sl) : Go p e below (Ret s Q cs sl) (T.setTop (mkF m pc Ls (.int z :: rest))) :=
  own_fin X hlk (fun q => by rw [hret] at q; cases q) eT hQ hc hs fun fs hr => retN X hx hret ht hd hr
theorem own_retV (X : Stand p l e R s m args below meth c T locs cells slots) (hx : p.tables.exec = Jvm.exec) (hlk : meth.locks = false) {pc : Nat} {Ls : Array Slot} (hret : meth.sig.returnType = none)
    (hd : decode c.code pc = .ok (.return_, 1)) {Q : Option Value → Heap → List Loc → Prop} {cs sl : Nat} (eT : T.heap = h) (hQ : Q none h locs) (hc : cells ≤ cs) (hs : slots ≤ sl) : Go p e below (Ret s Q cs sl) (T.setTop (mkF m pc Ls [])) :=
  own_fin X hlk (fun _ => rfl) eT hQ hc hs fun fs hr => X.returnOut hx hret hd hr
theorem own_Llt {x y : Int64} (h : x < y) : ifCond.holds .lt (lcmpW x y) = true ∧ ifCond.holds .ge (lcmpW x y) = false := by
  have q := (lc_lt x y).mpr h; rw [← lcW] at q; exact ⟨(if0 _ _).trans (tlt q).1, (if0 _ _).trans (tlt q).2.1⟩
theorem own_Lnlt {x y : Int64} (h : ¬ x < y) : ifCond.holds .lt (lcmpW x y) = false ∧ ifCond.holds .ge (lcmpW x y) = true := by
  have q : ¬ lcmpW x y < 0 := fun r => h ((lc_lt x y).mp (by rw [← lcW]; exact r)); exact ⟨(if0 _ _).trans (flt q).1, (if0 _ _).trans (flt q).2.1⟩
theorem own_Lgt {x y : Int64} (h : y < x) : ifCond.holds .gt (lcmpW x y) = true ∧ ifCond.holds .le (lcmpW x y) = false := by
  have q := (lc_gt x y).mpr h; rw [← lcW] at q; exact ⟨(if0 _ _).trans (tlt q).2.2.1, (if0 _ _).trans (tlt q).2.2.2⟩
theorem own_Lngt {x y : Int64} (h : ¬ y < x) : ifCond.holds .gt (lcmpW x y) = false ∧ ifCond.holds .le (lcmpW x y) = true := by
  have q : ¬ 0 < lcmpW x y := fun r => h ((lc_gt x y).mp (by rw [← lcW]; exact r)); exact ⟨(if0 _ _).trans (flt q).2.2.1, (if0 _ _).trans (flt q).2.2.2⟩
theorem own_Leq {x y : Int64} (h : x = y) : ifCond.holds .eq (lcmpW x y) = true ∧ ifCond.holds .ne (lcmpW x y) = false := by
  have q := (lc_eq x y).mpr h; rw [← lcW] at q; exact ⟨(if0 _ _).trans (teq q).1, (if0 _ _).trans (teq q).2⟩
theorem own_Lne {x y : Int64} (h : ¬ x = y) : ifCond.holds .eq (lcmpW x y) = false ∧ ifCond.holds .ne (lcmpW x y) = true := by
  have q : ¬ lcmpW x y = 0 := fun r => h ((lc_eq x y).mp (by rw [← lcW]; exact r)); exact ⟨(if0 _ _).trans (feq q).1, (if0 _ _).trans (feq q).2⟩
theorem own_Ext.refl (h : Heap) : Ext h h := ⟨Nat.le_refl _, fun _ _ q => q⟩
theorem own_Ext.trans {h1 h2 h3 : Heap} (a : Ext h1 h2) (b : Ext h2 h3) : Ext h1 h3 := ⟨Nat.le_trans a.1 b.1, fun x c q => b.2 x c (a.2 x c q)⟩
theorem own_Ext.wr {h0 : Heap} {a : Addr} {sl : Nat} {v : Value} (E : Ext h0 h) (W : Wr h h' a sl v) (q : h0.size ≤ a) : Ext h0 h' := by
  have K : Keep h0 h [] := ⟨E.1, fun x c r _ => E.2 x c r, fun x c r => ⟨c, E.2 x c r, rfl, rfl, rfl⟩⟩
  have K' := K.wr W (Or.inr q)
  exact ⟨K'.1, fun x c r => K'.2.1 x c r (fun z => nomatch z)⟩
theorem own_Ext.keep {h0 : Heap} {ws : List Addr} (E : Ext h0 h) (K : Keep h h' ws) (q : ∀ x ∈ ws, h0.size ≤ x) : Ext h0 h' := by
  refine ⟨Nat.le_trans E.1 K.1, fun x c r => K.2.1 x c (E.2 x c r) fun z => ?_⟩
  have lt : x < h0.size := (Array.getElem?_eq_some_iff.mp r).1
  exact absurd (q x z) (Nat.not_le_of_lt lt)
theorem own_fldI {t : Term} {x : Addr} {C n d : String} {k : Int32} (ev : t.eval args s none [] s = some (.ref x)) (hq : (Jvm.Cond.eq (.field t C n d) (.int k)).value args s none s [] = some true) : Fld s s.heap x C n d (.int k) := by
  obtain ⟨u, v, e1, e2, k1, k2⟩ := cmp_v (Or.inl hq)
  obtain rfl : v = .int k := (Option.some.inj (e2.symm.trans (Term.int_eval k)))
  obtain ⟨z, rfl⟩ := k2
  obtain rfl : z = k := gotT (Jvm.Cond.eq_ints e1 (Term.int_eval k)) hq
  exact Fld.start ((fld_at ev).symm.trans e1)
theorem own_fldJ {t : Term} {x : Addr} {C n d : String} {k : Int64} (ev : t.eval args s none [] s = some (.ref x)) (hq : (Jvm.Cond.eq (.field t C n d) (.long k)).value args s none s [] = some true) : Fld s s.heap x C n d (.long k) := by
  obtain ⟨u, v, e1, e2, k1, k2⟩ := cmp_v (Or.inl hq)
  obtain rfl : v = .long k := (Option.some.inj (e2.symm.trans (long_at k)))
  obtain ⟨z, rfl⟩ := k2
  obtain rfl : z = k := gotT (eq_L e1 (long_at k)) hq
  exact Fld.start ((fld_at ev).symm.trans e1)
theorem own_len0 {t : Term} {x : Addr} {ty : FieldType} {cl : Cell} (ev : t.eval args s none [] s = some (.ref x)) (A : Arr s s.heap x cl ty) (hq : (Jvm.Cond.eq (.length t) (.int 0)).value args s none s [] = some true) : True := trivial
end OwnKit
/-- the sheet's i-th word -/
theorem ww {Z : State} {a0 : Array Value} (hw : ∀ d ∈ tables_1, d.before a0 Z = true) (i : Nat) {d : Jvm.Cond} (h : tables_1[i]? = some d) : d.before a0 Z = true := hw _ (List.mem_of_getElem? h)
section OwnHeap
variable {p : Program} {l : Launch} {e : Env} {R : Room} {s : State} {m : MethodId} {args : Array Value} {below : List Frame} {meth : Method} {c : Code} {T : State} {locs : List Loc} {cells slots : Nat} {Z : State} {a0 : Array Value} {h h' : Heap} {a : Addr} {k : ClassId} {ty : FieldType} {z j : Int32} {vs : List Value} {dv v : Value} {g : JFrame} {rest : List Value}
theorem own_arvset {i : Nat} (F : Arv Z h a k ty z vs dv) (hv : fits ty v = true) (W : Wr h h' a j.toNatClampNeg v) (hi : j.toNatClampNeg = i) (hl : i < vs.length) : Arv Z h' a k ty z (vs.set i v) dv := by
  obtain ⟨cl, A, q, S, N, H, G⟩ := F
  exact Arv.set A q S N H G hv W i hi hl
theorem own_stI (X : Stand p l e R s m args below meth c T locs cells slots) (hx : p.tables.exec = Jvm.exec) (hZ : Z.Warmed39 s.vm) (eT : T.heap = h) (F : Arv Z h a k .int z vs dv) {x : Int32} (hj : ¬ j < 0 ∧ j < z) (i : Nat) (hi : j.toNatClampNeg = i) (hl : i < vs.length) (hg : g.method = m) (hs : g.stack = .int x :: .int j :: .ref a :: rest) (hd : decode c.code g.pc = .ok (.iastore, 1)) :
    ∃ T' h', Stand p l e R s m args below meth c T' (locs ++ [⟨a, j.toNatClampNeg⟩]) cells slots ∧ T'.heap = h' ∧ Wr h h' a j.toNatClampNeg (.int x) ∧ Arv Z h' a k .int z (vs.set i (.int x)) dv ∧ ∀ target, Steps p.tables e below (T'.setTop { g with pc := g.pc + 1, stack := rest }) target → Steps p.tables e below (T.setTop g) target := by
  obtain ⟨cl, A, q, S, N, H, G⟩ := id F
  obtain ⟨T', h', X', e', W, st⟩ := stI X hx hZ eT A (inb_of S hj) hg hs hd
  exact ⟨T', h', X', e', W, own_arvset F rfl W hi hl, st⟩
theorem own_stJ (X : Stand p l e R s m args below meth c T locs cells slots) (hx : p.tables.exec = Jvm.exec) (hZ : Z.Warmed39 s.vm) (eT : T.heap = h) (F : Arv Z h a k .long z vs dv) {x : Int64} (hj : ¬ j < 0 ∧ j < z) (i : Nat) (hi : j.toNatClampNeg = i) (hl : i < vs.length) (hg : g.method = m) (hs : g.stack = .long x :: .int j :: .ref a :: rest) (hd : decode c.code g.pc = .ok (.lastore, 1)) :
    ∃ T' h', Stand p l e R s m args below meth c T' (locs ++ [⟨a, j.toNatClampNeg⟩]) cells slots ∧ T'.heap = h' ∧ Wr h h' a j.toNatClampNeg (.long x) ∧ Arv Z h' a k .long z (vs.set i (.long x)) dv ∧ ∀ target, Steps p.tables e below (T'.setTop { g with pc := g.pc + 1, stack := rest }) target → Steps p.tables e below (T.setTop g) target := by
  obtain ⟨cl, A, q, S, N, H, G⟩ := id F
  obtain ⟨T', h', X', e', W, st⟩ := stJ X hx hZ eT A (inb_of S hj) hg hs hd
  exact ⟨T', h', X', e', W, own_arvset F rfl W hi hl, st⟩
theorem own_stB (X : Stand p l e R s m args below meth c T locs cells slots) (hx : p.tables.exec = Jvm.exec) (hZ : Z.Warmed39 s.vm) (eT : T.heap = h) (F : Arv Z h a k .byte z vs dv) {x : Int32} (hj : ¬ j < 0 ∧ j < z) (i : Nat) (hi : j.toNatClampNeg = i) (hl : i < vs.length) (hg : g.method = m) (hs : g.stack = .int x :: .int j :: .ref a :: rest) (hd : decode c.code g.pc = .ok (.bastore, 1)) :
    ∃ T' h', Stand p l e R s m args below meth c T' (locs ++ [⟨a, j.toNatClampNeg⟩]) cells slots ∧ T'.heap = h' ∧ Wr h h' a j.toNatClampNeg (.int (nar .byte x)) ∧ Arv Z h' a k .byte z (vs.set i (.int (nar .byte x))) dv ∧ ∀ target, Steps p.tables e below (T'.setTop { g with pc := g.pc + 1, stack := rest }) target → Steps p.tables e below (T.setTop g) target := by
  obtain ⟨cl, A, q, S, N, H, G⟩ := id F
  obtain ⟨T', h', X', e', W, st⟩ := stB X hx hZ eT A (inb_of S hj) hg hs hd
  exact ⟨T', h', X', e', W, own_arvset F (fits_nar_byte _) W hi hl, st⟩
theorem own_stC (X : Stand p l e R s m args below meth c T locs cells slots) (hx : p.tables.exec = Jvm.exec) (hZ : Z.Warmed39 s.vm) (eT : T.heap = h) (F : Arv Z h a k .char z vs dv) {x : Int32} (hj : ¬ j < 0 ∧ j < z) (i : Nat) (hi : j.toNatClampNeg = i) (hl : i < vs.length) (hg : g.method = m) (hs : g.stack = .int x :: .int j :: .ref a :: rest) (hd : decode c.code g.pc = .ok (.castore, 1)) :
    ∃ T' h', Stand p l e R s m args below meth c T' (locs ++ [⟨a, j.toNatClampNeg⟩]) cells slots ∧ T'.heap = h' ∧ Wr h h' a j.toNatClampNeg (.int (nar .char x)) ∧ Arv Z h' a k .char z (vs.set i (.int (nar .char x))) dv ∧ ∀ target, Steps p.tables e below (T'.setTop { g with pc := g.pc + 1, stack := rest }) target → Steps p.tables e below (T.setTop g) target := by
  obtain ⟨cl, A, q, S, N, H, G⟩ := id F
  obtain ⟨T', h', X', e', W, st⟩ := stC X hx hZ eT A (inb_of S hj) hg hs hd
  exact ⟨T', h', X', e', W, own_arvset F (fits_nar_char _) W hi hl, st⟩
theorem own_stR (X : Stand p l e R s m args below meth c T locs cells slots) (hx : p.tables.exec = Jvm.exec) (hZ : Z.Warmed39 s.vm) (eT : T.heap = h) {C : String} {y : Addr} (F : Arv Z h a k (.object C) z vs dv) (O : Ovr Z k C) (I : Ins Z h y C true) (hj : ¬ j < 0 ∧ j < z) (i : Nat) (hi : j.toNatClampNeg = i) (hl : i < vs.length) (hg : g.method = m) (hs : g.stack = .ref y :: .int j :: .ref a :: rest) (hd : decode c.code g.pc = .ok (.aastore, 1)) :
    ∃ T' h', Stand p l e R s m args below meth c T' (locs ++ [⟨a, j.toNatClampNeg⟩]) cells slots ∧ T'.heap = h' ∧ Wr h h' a j.toNatClampNeg (.ref y) ∧ Arv Z h' a k (.object C) z (vs.set i (.ref y)) dv ∧ ∀ target, Steps p.tables e below (T'.setTop { g with pc := g.pc + 1, stack := rest }) target → Steps p.tables e below (T.setTop g) target := by
  obtain ⟨cl, A, q, S, N, H, G⟩ := id F
  obtain ⟨T', h', X', e', W, st⟩ := stR X hx hZ eT A (inb_of S hj) rfl (Sto.ofV A q O I) hg hs hd
  exact ⟨T', h', X', e', W, own_arvset F rfl W hi hl, st⟩
theorem own_ldR (X : Stand p l e R s m args below meth c T locs cells slots) (hx : p.tables.exec = Jvm.exec) (hZ : Z.Warmed39 s.vm) (eT : T.heap = h) (F : Arv Z h a k ty z vs dv) (hty : ty.isReference = true) (hj : ¬ j < 0 ∧ j < z) (hv : vs.getD j.toNatClampNeg dv = v) (hg : g.method = m) (hs : g.stack = .int j :: .ref a :: rest) (hd : decode c.code g.pc = .ok (.aaload, 1)) :
    ∀ target, Steps p.tables e below (T.setTop { g with pc := g.pc + 1, stack := v :: rest }) target → Steps p.tables e below (T.setTop g) target := by
  obtain ⟨cl, A, q, S, N, H, G⟩ := F
  exact fun t k => X.aaload hx (by rw [eT]; exact A.1) (State.isArrayOf_alike hZ.alike A.2.1) hty A.2.2 (inb_of S hj) (H.at (inb_of S hj) hv) hg hs hd t k
theorem own_ldJ (X : Stand p l e R s m args below meth c T locs cells slots) (hx : p.tables.exec = Jvm.exec) (hZ : Z.Warmed39 s.vm) (eT : T.heap = h) (F : Arv Z h a k .long z vs dv) (hj : ¬ j < 0 ∧ j < z) (hv : vs.getD j.toNatClampNeg dv = v) (hg : g.method = m) (hs : g.stack = .int j :: .ref a :: rest) (hd : decode c.code g.pc = .ok (.laload, 1)) :
    ∀ target, Steps p.tables e below (T.setTop { g with pc := g.pc + 1, stack := v :: rest }) target → Steps p.tables e below (T.setTop g) target := by
  obtain ⟨cl, A, q, S, N, H, G⟩ := F
  exact fun t k => X.laload hx (by rw [eT]; exact A.1) (State.isArrayOf_alike hZ.alike A.2.1) A.2.2 (inb_of S hj) (H.at (inb_of S hj) hv) hg hs hd t k
theorem own_ldI (X : Stand p l e R s m args below meth c T locs cells slots) (hx : p.tables.exec = Jvm.exec) (hZ : Z.Warmed39 s.vm) (eT : T.heap = h) (F : Arv Z h a k .int z vs dv) (hj : ¬ j < 0 ∧ j < z) (hv : vs.getD j.toNatClampNeg dv = v) (hg : g.method = m) (hs : g.stack = .int j :: .ref a :: rest) (hd : decode c.code g.pc = .ok (.iaload, 1)) :
    ∀ target, Steps p.tables e below (T.setTop { g with pc := g.pc + 1, stack := v :: rest }) target → Steps p.tables e below (T.setTop g) target := by
  obtain ⟨cl, A, q, S, N, H, G⟩ := F
  exact fun t k => X.iaload hx (by rw [eT]; exact A.1) (State.isArrayOf_alike hZ.alike A.2.1) A.2.2 (inb_of S hj) (H.at (inb_of S hj) hv) hg hs hd t k
theorem own_ldB (X : Stand p l e R s m args below meth c T locs cells slots) (hx : p.tables.exec = Jvm.exec) (hZ : Z.Warmed39 s.vm) (eT : T.heap = h) (F : Arv Z h a k .byte z vs dv) (hj : ¬ j < 0 ∧ j < z) (hv : vs.getD j.toNatClampNeg dv = v) (hg : g.method = m) (hs : g.stack = .int j :: .ref a :: rest) (hd : decode c.code g.pc = .ok (.baload, 1)) :
    ∀ target, Steps p.tables e below (T.setTop { g with pc := g.pc + 1, stack := v :: rest }) target → Steps p.tables e below (T.setTop g) target := by
  obtain ⟨cl, A, q, S, N, H, G⟩ := F
  exact fun t k => X.baloadBytes hx (by rw [eT]; exact A.1) (State.isArrayOf_alike hZ.alike A.2.1) A.2.2 (inb_of S hj) (H.at (inb_of S hj) hv) hg hs hd t k
theorem own_alen (X : Stand p l e R s m args below meth c T locs cells slots) (hx : p.tables.exec = Jvm.exec) (hZ : Z.Warmed39 s.vm) (eT : T.heap = h) (F : Arv Z h a k ty z vs dv) (hg : g.method = m) (hs : g.stack = .ref a :: rest) (hd : decode c.code g.pc = .ok (.arraylength, 1)) :
    ∀ target, Steps p.tables e below (T.setTop { g with pc := g.pc + 1, stack := .int z :: rest }) target → Steps p.tables e below (T.setTop g) target := by
  obtain ⟨cl, A, q, S, N, H, G⟩ := F
  intro t k
  refine X.arraylength hx (by rw [eT]; exact A.1) (State.isArrayOf_alike hZ.alike A.2.1) hg hs hd t ?_
  rw [len_of S N]; exact k
theorem own_lt_ne {x y : Addr} (q : x < h.size) (g : y = h.size) : x ≠ y := Nat.ne_of_lt (g ▸ q)
theorem own_lt_ne' {x y : Addr} (q : x < h.size) (g : h.size ≤ y) : x ≠ y := Nat.ne_of_lt (Nat.lt_of_lt_of_le q g)
theorem own_callVU (X : Stand p l e R s m args below meth c T locs cells slots) (hx : p.tables.exec = Jvm.exec) (hZ : Z.Warmed39 s.vm)
    {own C owner : String} {index : Nat} {y z : MethodName} {bytes : ByteArray} {maxL : Nat} {ret : Option FieldType} {rm : Room} {as' : Array Value} {Q : Option Value → Heap → List Loc → Prop} {b : Addr}
    (hown : s.vm.findClass own = some m.cls) (w1 : (Jvm.Cond.methodLink own index y).before a0 Z = true) (w2 : (Jvm.Cond.sameMethod y.cls owner y.name y.desc).before a0 Z = true) (w7 : (Jvm.Cond.declares ⟨owner, y.name, y.desc⟩).before a0 Z = true) (ho : owner ≠ "java/lang/invoke/MethodHandle" ∧ owner ≠ "java/lang/invoke/VarHandle") (w4 : (Jvm.Cond.selects C y z).before a0 Z = true) (w5 : (Jvm.Cond.instanceMethod z).before a0 Z = true) (w3 : (Jvm.Cond.initialized z.cls).before a0 Z = true) (w6 : (Jvm.Cond.code z bytes maxL ret).before a0 Z = true)
    (eT : T.heap = h) (E : Exa Z h b C) (hM : Con l Z h z bytes maxL ret [] rm as' Q)
    (W : Nat) (hf : rm.frames + 1 ≤ R.frames) (hl : W + (maxL + 11) + rm.locals ≤ R.locals) (hc : cells + rm.cells ≤ R.cells) (hs : slots + rm.slots ≤ R.slots)
    {g : JFrame} (hg : g.method = m) (hsize : g.locals.size = c.maxLocals) (argsL rest : List Value) (has : (.ref b :: argsL).toArray = as') (hlen : ∀ sig, parseMethodDescriptor y.desc = some sig → argsL.length = sig.parameters.length) (hstack : g.stack = argsL.reverse ++ .ref b :: rest) (hW : 2 * g.monitorRoom + (rest.map fun v => v.category).sum ≤ W)
    (hd : decode c.code g.pc = .ok (.invokevirtual index, 3)) :
    ∃ (v : Option Value) (T' : State) (L : List Loc), Stand p l e R s m args below meth c T' (locs ++ L) (cells + rm.cells) (slots + rm.slots) ∧ Q v T'.heap L ∧ ∀ t, Steps p.tables e below (T'.setTop { g with pc := g.pc + 3, stack := v.toList ++ rest }) t → Steps p.tables e below (T.setTop g) t := by
  obtain ⟨cq, kq, qa, qb, qc⟩ := isOf hZ eT E
  obtain ⟨v, _, ⟨T', L', k', n'⟩, -, X', ⟨L, hQ, l1, l2, l3⟩, st⟩ := X.virtualBackUp hx hown (mvT hZ w1) (mvT hZ w2) (mvT hZ w7) ho (mvT hZ w4) (mvT hZ w5) (backOf (W := W) hM hZ w6 w3 hf hl) qa qc hg hsize (Steps.refl _) hlen hstack hW hd (fun _ _ => ⟨has, eT, hc, hs⟩)
  dsimp only [Pt.U, Pt.locs, Pt.cells, Pt.slots] at X' l1 l2 l3 st hQ
  subst l1 l2 l3
  exact ⟨v, T', L, X', hQ, fun t k => st.trans k⟩
theorem own_callF (X : Stand p l e R s m args below meth c T locs cells slots) (hx : p.tables.exec = Jvm.exec) (hZ : Z.Warmed39 s.vm)
    {own C : String} {index count : Nat} {y z : MethodName} {bytes : ByteArray} {maxL : Nat} {ret : Option FieldType} {rm : Room} {as' : Array Value} {Q : Option Value → Heap → List Loc → Prop} {b : Addr}
    (hown : s.vm.findClass own = some m.cls) (w1 : (Jvm.Cond.methodLink own index y).before a0 Z = true) (w2 : (Jvm.Cond.declares y).before a0 Z = true) (w7 : (Jvm.Cond.interfaceMethod y.cls y.cls y.name y.desc).before a0 Z = true) (w4 : (Jvm.Cond.selects C y z).before a0 Z = true) (w5 : (Jvm.Cond.instanceMethod z).before a0 Z = true) (w8 : (Jvm.Cond.publicMethod z).before a0 Z = true) (w9 : (Jvm.Cond.unhidden C y.name y.desc).before a0 Z = true) (w10 : (Jvm.Cond.castable C y.cls).before a0 Z = true) (w3 : (Jvm.Cond.initialized z.cls).before a0 Z = true) (w6 : (Jvm.Cond.code z bytes maxL ret).before a0 Z = true)
    (hy : y.cls ≠ "java/lang/invoke/MethodHandle" ∧ y.cls ≠ "java/lang/invoke/VarHandle") (eT : T.heap = h) (E : Exa Z h b C) (hM : Con l Z h z bytes maxL ret [] rm as' Q)
    (W : Nat) (hf : rm.frames + 1 ≤ R.frames) (hl : W + (maxL + 11) + rm.locals ≤ R.locals) (hc : cells + rm.cells ≤ R.cells) (hs : slots + rm.slots ≤ R.slots)
    {g : JFrame} (hg : g.method = m) (hsize : g.locals.size = c.maxLocals) (argsL rest : List Value) (has : (.ref b :: argsL).toArray = as') (hlen : ∀ sig, parseMethodDescriptor y.desc = some sig → argsL.length = sig.parameters.length) (hstack : g.stack = argsL.reverse ++ .ref b :: rest) (hW : 2 * g.monitorRoom + (rest.map fun v => v.category).sum ≤ W)
    (hd : decode c.code g.pc = .ok (.invokeinterface index count, 5)) :
    ∃ (v : Option Value) (T' : State) (L : List Loc), Stand p l e R s m args below meth c T' (locs ++ L) (cells + rm.cells) (slots + rm.slots) ∧ Q v T'.heap L ∧ ∀ t, Steps p.tables e below (T'.setTop { g with pc := g.pc + 5, stack := v.toList ++ rest }) t → Steps p.tables e below (T.setTop g) t := by
  obtain ⟨cq, kq, qa, qb, qc⟩ := isOf hZ eT E
  obtain ⟨v, _, ⟨T', L', k', n'⟩, -, X', ⟨L, hQ, l1, l2, l3⟩, st⟩ := X.interfaceBack hx hown (mvT hZ w1) (mvT hZ w2) (mvT hZ w7 (by simp [Cond.onTables, Cond.keepsFace, Cond.keeps, Cond.steady, Cond.faceAtom, hy.1, hy.2])) (mvT hZ w4) (mvT hZ w5) (mvT hZ w8) (mvT hZ w9) (mvT hZ w10) hy (backOf (W := W) hM hZ w6 w3 hf hl) qa qb qc hg hsize (Steps.refl _) hlen hstack hW hd (fun _ _ => ⟨has, eT, hc, hs⟩)
  dsimp only [Pt.U, Pt.locs, Pt.cells, Pt.slots] at X' l1 l2 l3 st hQ
  subst l1 l2 l3
  exact ⟨v, T', L, X', hQ, fun t k => st.trans k⟩
theorem own_callP (X : Stand p l e R s m args below meth c T locs cells slots) (hx : p.tables.exec = Jvm.exec) (hZ : Z.Warmed39 s.vm)
    {own : String} {index n : Nat} {y : MethodName} {bytes : ByteArray} {maxL : Nat} {ret : Option FieldType} {rm : Room} {as' : Array Value} {Q : Option Value → Heap → List Loc → Prop} {b : Addr} {C : String}
    (hown : s.vm.findClass own = some m.cls) (w1 : (Jvm.Cond.methodLink own index y).before a0 Z = true) (w5 : (Jvm.Cond.instanceMethod y).before a0 Z = true) (w2 : (Jvm.Cond.privateMethod y).before a0 Z = true) (wi : (Jvm.Cond.instantiable y.cls n).before a0 Z = true) (w3 : (Jvm.Cond.initialized y.cls).before a0 Z = true) (w6 : (Jvm.Cond.code y bytes maxL ret).before a0 Z = true)
    (hy : y.cls ≠ "java/lang/invoke/MethodHandle" ∧ y.cls ≠ "java/lang/invoke/VarHandle") (eT : T.heap = h) (E : Exa Z h b C) (hM : Con l Z h y bytes maxL ret [] rm as' Q)
    (W : Nat) (hf : rm.frames + 1 ≤ R.frames) (hl : W + (maxL + 11) + rm.locals ≤ R.locals) (hc : cells + rm.cells ≤ R.cells) (hs : slots + rm.slots ≤ R.slots)
    {g : JFrame} (hg : g.method = m) (hsize : g.locals.size = c.maxLocals) (argsL rest : List Value) (has : (.ref b :: argsL).toArray = as') (hlen : ∀ sig, parseMethodDescriptor y.desc = some sig → argsL.length = sig.parameters.length) (hstack : g.stack = argsL.reverse ++ .ref b :: rest) (hW : 2 * g.monitorRoom + (rest.map fun v => v.category).sum ≤ W)
    (hd : decode c.code g.pc = .ok (.invokevirtual index, 3)) :
    ∃ (v : Option Value) (T' : State) (L : List Loc), Stand p l e R s m args below meth c T' (locs ++ L) (cells + rm.cells) (slots + rm.slots) ∧ Q v T'.heap L ∧ ∀ t, Steps p.tables e below (T'.setTop { g with pc := g.pc + 3, stack := v.toList ++ rest }) t → Steps p.tables e below (T.setTop g) t := by
  obtain ⟨cq, q1, q2⟩ := E.cell
  have hpriv := Cond.privateMethod_at (mvP hZ w2 (args := args))
  have wi' : (Jvm.Cond.instantiable y.cls n).before args s = true := mvT hZ wi
  obtain ⟨ci, ki, i1, i2, -, i4, -⟩ := Cond.instantiable_spec wi'
  have hni : ki.isInterface = false := by cases hh : ki.isInterface <;> simp [hh] at i4 ⊢
  obtain ⟨v, _, ⟨T', L', k', n'⟩, -, X', ⟨L, hQ, l1, l2, l3⟩, st⟩ := X.privateBack hx hown (mvT hZ w1) (mvT hZ w5) (selects_self_of_private i1 i2 hni hpriv (mvT hZ w5) hy) hpriv (mvT hZ w6) hy (backOf (W := W) hM hZ w6 w3 hf hl) hg hsize (Steps.refl _) (by rw [eT]; exact q1) q2 hlen hstack hW hd (fun _ _ => ⟨has, eT, hc, hs⟩)
  dsimp only [Pt.U, Pt.locs, Pt.cells, Pt.slots] at X' l1 l2 l3 st hQ
  subst l1 l2 l3
  exact ⟨v, T', L, X', hQ, fun t k => st.trans k⟩
theorem own_nosub {C K O : String} {n : Nat} (w : (Jvm.Cond.superclass C O).before a0 Z = true) (wo : (Jvm.Cond.noSuperclass O).before a0 Z = true) (wk : (Jvm.Cond.instantiable K n).before a0 Z = true) (h1 : C ≠ K) (h2 : O ≠ K) :
    ∃ c t, Z.vm.findClass C = some c ∧ Z.vm.findClass K = some t ∧ Z.vm.assignable c t = false := by
  obtain ⟨c, f0⟩ := found_sup w
  obtain ⟨t, kt, g1, g2, g3, g4, -⟩ := Cond.instantiable_spec wk
  have g5 : kt.isInterface = false := by cases hh : kt.isInterface <;> simp [hh] at g4 ⊢
  obtain ⟨q, k, kp, f1, f2, f3, f4, f5, -, f7⟩ := Cond.superclass_spec f0 w
  obtain ⟨co, ko, o1, o2, o3, -, -⟩ := Cond.noSuperclass_spec wo
  cases o1.symm.trans f1
  have ne1 := ids_ne f0 g1 h1
  have ne2 := ids_ne o1 g1 h2
  have sub : ∀ fuel, Z.vm.isSubclassAux fuel c t = false := by
    intro fuel
    cases fuel with
    | zero => rfl
    | succ f =>
      have r : Z.vm.isSubclassAux f q t = false := by
        cases f with
        | zero => rfl
        | succ f' => simp [Vm.isSubclassAux, ne2, o2, o3]
      simp [Vm.isSubclassAux, ne1, f2, f4, r]
  refine ⟨c, t, f0, g1, ?_⟩
  show Z.vm.assignableAux (255 + 1) c t = false
  simp [Vm.assignableAux, ne1, f2, g2, f5, g3, g5, Vm.isSubclass, sub]
theorem own_arv0 {t : Term} {w : Addr} {cl : Cell} (hf : Fit s) (ev : t.eval args s none [] s = some (.ref w)) (A : Arr s s.heap w cl ty) (hq : (Jvm.Cond.eq (.length t) (.int 0)).value args s none s [] = some true) : Arv s s.heap w cl.cls ty 0 [] dv := by
  have ha : s.arrayAt? w = some cl := Arr.fin (Vm.Alike.refl _) A
  obtain ⟨u, v, e1, e2, k1, k2⟩ := cmp_v (Or.inl hq)
  obtain rfl : v = .int 0 := Option.some.inj (e2.symm.trans (Term.int_eval 0))
  obtain ⟨z, rfl⟩ := k2
  obtain rfl : z = 0 := gotT (Jvm.Cond.eq_ints e1 (Term.int_eval 0)) hq
  by_cases hl : cl.slots.size < 2 ^ 31
  · have q := (len_f ev ha hl).symm.trans e1
    exact Arv.start hf A hl (Value.int.inj (Option.some.inj q)) (by decide) rfl trivial
  · exfalso
    simp [Term.eval, ev, ha, hl] at e1
end OwnHeap
theorem own_rem {x : Int32} {n : Int32} (hn : 0 < n.toInt) : 0 ≤ ((x &&& 2147483647) % n).toInt ∧ ((x &&& 2147483647) % n).toInt < n.toInt := by
  have e1 : (x &&& 2147483647).toInt = x.toInt % 2 ^ 31 := Jvm.Kit.i32_mask x 2147483647 (k := 31) (by decide) (by decide)
  have e2 := Jvm.Kit.i32_rem_nonneg (x := (x &&& 2147483647)) (y := n) (by omega)
  rw [e2]
  exact ⟨Int.emod_nonneg _ (by omega), Int.emod_lt_of_pos _ hn⟩
theorem own_i32 {x : Int32} {k : Int} (h : x.toInt = k) : x = Int32.ofInt k := by
  rw [← h, Int32.ofInt_toInt]
theorem own_lremE (x y : Int64) : x - (x / y) * y = x % y := Int64.toInt_inj.mp ((Jvm.Kit.i64_rem x y).trans (Int64.toInt_mod x y).symm)
theorem own_lrem {p : Program} {l : Launch} {e : Env} {R : Room} {s : State} {m : MethodId} {args : Array Value} {below : List Frame} {meth : Method} {c : Code} {T : State} {locs : List Loc} {cells slots : Nat} {g : JFrame} {target : State} (X : Stand p l e R s m args below meth c T locs cells slots) (hx : p.tables.exec = Jvm.exec) (hg : g.method = m) {x y : Int64} {rest : List Value} (hd : decode c.code g.pc = .ok (.lrem, 1)) (hs : g.stack = .long y :: .long x :: rest) (hy : y ≠ 0)
    (hr : Steps p.tables e below (T.setTop { g with pc := g.pc + 1, stack := .long (x % y) :: rest }) target) : Steps p.tables e below (T.setTop g) target :=
  XT.lrem X.here hx hg hd hs hy (by rw [lrem_mod]; exact hr)
abbrev sU : Slot := .unset
abbrev sS : Slot := .second
abbrev sI (x : Int32) : Slot := .val (.int x)
abbrev sJ (x : Int64) : Slot := .val (.long x)
abbrev sR (x : Addr) : Slot := .val (.ref x)
def U (x : Int64) : Nat := x.toUInt64.toNat
theorem own_Ult (x : Int64) : U x < 2 ^ 64 := x.toUInt64.toNat_lt
theorem own_toIntU (x : Int64) : x.toInt = if 2 * U x < 2 ^ 64 then (U x : Int) else (U x : Int) - 2 ^ 64 := by
  have h := BitVec.toInt_eq_toNat_cond x.toBitVec
  exact h
theorem own_addU (x : Int64) : (x + (-9223372036854775808)).toInt = (U x : Int) - 2 ^ 63 := by
  have c : (-9223372036854775808 : Int64).toInt = -2 ^ 63 := by decide
  have h1 := own_toIntU x
  have h2 := own_Ult x
  rw [Int64.toInt_add, c, Int.bmod_def]
  split at h1 <;> omega
theorem own_xorN {n : Nat} (h : n < 2 ^ 64) : n ^^^ 2 ^ 63 = (n + 2 ^ 63) % 2 ^ 64 := by
  apply Nat.eq_of_testBit_eq
  intro i
  rw [Nat.testBit_xor, Nat.testBit_mod_two_pow, Nat.add_comm, Nat.testBit_two_pow]
  rcases Nat.lt_trichotomy i 63 with q | q | q
  · rw [Nat.testBit_two_pow_add_gt q]
    have : ¬ 63 = i := by omega
    have : i < 64 := by omega
    simp [*]
  · subst q
    rw [Nat.testBit_two_pow_add_eq]
    simp
  · have e : n.testBit i = false := Nat.testBit_lt_two_pow (Nat.lt_of_lt_of_le h (Nat.pow_le_pow_right (by decide) (by omega)))
    have : ¬ 63 = i := by omega
    have : ¬ i < 64 := by omega
    simp [*]
theorem own_xorU (x : Int64) : x ^^^ (-9223372036854775808) = x + (-9223372036854775808) := by
  apply Int64.toBitVec_inj.mp
  rw [Int64.toBitVec_xor, Int64.toBitVec_add]
  apply BitVec.eq_of_toNat_eq
  rw [BitVec.toNat_xor, BitVec.toNat_add]
  exact own_xorN (BitVec.isLt _)
theorem own_ultI (x y : Int64) : (x ^^^ (-9223372036854775808)) < (y ^^^ (-9223372036854775808)) ↔ U x < U y := by
  rw [Int64.lt_iff_toInt_lt, own_xorU, own_xorU, own_addU, own_addU]; omega
theorem own_cmpI (x y : Int64) : (x + (-9223372036854775808)) < (y + (-9223372036854775808)) ↔ U x < U y := by
  rw [Int64.lt_iff_toInt_lt, own_addU, own_addU]; omega
theorem own_pre (P : Int64 → Bool) (mono : ∀ a b, U a ≤ U b → P b = true → P a = true) : ∀ xs : List Int64, xs.Pairwise (fun a b => U a ≤ U b) → ∀ i (h : i < xs.length), (i < xs.countP P ↔ P xs[i] = true)
  | [], _, i, h => absurd h (Nat.not_lt_zero _)
  | a :: t, hs, i, h => by
    obtain ⟨h1, h2⟩ := List.pairwise_cons.mp hs
    rw [List.countP_cons]
    cases hp : P a with
    | true =>
      cases i with
      | zero => simp [hp]
      | succ j =>
        have := own_pre P mono t h2 j (by simpa using h)
        simp only [List.getElem_cons_succ, if_true]
        rw [← this]; omega
    | false =>
      have z : t.countP P = 0 := List.countP_eq_zero.mpr fun b hb q => by
        have := mono a b (h1 b hb) q
        rw [hp] at this; cases this
      rw [z]
      cases i with
      | zero => simp [hp]
      | succ j =>
        simp only [List.getElem_cons_succ]
        constructor
        · intro q; simp at q
        · intro q
          have := mono a _ (h1 _ (List.getElem_mem (by simpa using h))) q
          rw [hp] at this; cases this
def bF (x y : Int64) : Int32 := if U x < U y then 1 else 0
theorem own_b1 {x y : Int64} (h : (x ^^^ (-9223372036854775808)) < (y ^^^ (-9223372036854775808))) : bF x y = 1 := if_pos ((own_ultI x y).mp h)
theorem own_b0 {x y : Int64} (h : ¬ (x ^^^ (-9223372036854775808)) < (y ^^^ (-9223372036854775808))) : bF x y = 0 := if_neg fun q => h ((own_ultI x y).mpr q)
theorem own_b0' {x y : Int64} (h : bF x y = 0) : U y ≤ U x := by
  unfold bF at h
  split at h
  · exact absurd h (by decide)
  · omega
theorem own_b1' {x y : Int64} (h : ¬ bF x y = 0) : U x ≤ U y := by
  unfold bF at h
  split at h
  · omega
  · exact absurd rfl h
/-- the bucket of a position -/
def B (s : Int32) (x : Int64) : Nat := U x / 2 ^ s.toNatClampNeg
def bI (s : Int32) (x : Int64) : Int32 := ((x.toUInt64 >>> (s &&& 0x3f).toInt64.toUInt64).toInt64).toInt32
theorem own_sh (s : Int32) (hs : s = 30 ∨ s = 31 ∨ s = 62 ∨ s = 63) (x : Int64) : U ((x.toUInt64 >>> (s &&& 0x3f).toInt64.toUInt64).toInt64) = B s x := by
  show (x.toUInt64 >>> (s &&& 0x3f).toInt64.toUInt64).toNat = U x / 2 ^ s.toNatClampNeg
  rw [UInt64.toNat_shiftRight, Nat.shiftRight_eq_div_pow]
  have e : (s &&& 0x3f).toInt64.toUInt64.toNat % 64 = s.toNatClampNeg := by rcases hs with rfl | rfl | rfl | rfl <;> decide
  rw [e]; rfl
theorem own_bI {s : Int32} (hs : s = 30 ∨ s = 31 ∨ s = 62 ∨ s = 63) {x : Int64} (h : B s x < 4) : (bI s x).toInt = B s x := by
  have e := own_sh s hs x
  unfold bI
  generalize (x.toUInt64 >>> (s &&& 0x3f).toInt64.toUInt64).toInt64 = y at *
  have h1 := own_toIntU y
  rw [if_pos (by omega)] at h1
  rw [Jvm.Kit.i32_of_i64 (by omega) (by omega)]
  omega
/-- how many of the first k have the bucket j - 1; how many lie in a bucket below j -/
def Cn (s : Int32) (xs : List Int64) (k j : Nat) : Nat := (xs.take k).countP fun x => B s x + 1 == j
def Pn (s : Int32) (xs : List Int64) (j : Nat) : Nat := xs.countP fun x => decide (B s x < j)
def CL (s : Int32) (xs : List Int64) (k nb : Nat) : List Value := (List.range (nb + 1)).map fun j => .int (Int32.ofNat (Cn s xs k j))
def PL (s : Int32) (xs : List Int64) (t nb : Nat) : List Value := (List.range (nb + 1)).map fun j => .int (Int32.ofNat (if j ≤ t then Pn s xs j else Cn s xs xs.length j))
theorem own_getR (f : Nat → Value) (m j : Nat) (d : Value) (h : j < m) : ((List.range m).map f).getD j d = f j := by
  simp [List.getD_eq_getElem?_getD, h]
theorem own_setR (f g : Nat → Value) (m j : Nat) (h1 : g j = f j) (h2 : ∀ i, i ≠ j → g i = f i) : ((List.range m).map f).set j (f j) = (List.range m).map g := by
  apply List.ext_getElem
  · simp
  · intro i a b
    rw [List.getElem_set]
    split
    · rename_i q; subst q; simp [h1]
    · rename_i q; simp [h2 i (fun e => q e.symm)]
theorem own_setR' (f g : Nat → Value) (m j : Nat) (v : Value) (h1 : g j = v) (h2 : ∀ i, i ≠ j → g i = f i) : ((List.range m).map f).set j v = (List.range m).map g := by
  apply List.ext_getElem
  · simp
  · intro i a b
    rw [List.getElem_set]
    split
    · rename_i q; subst q; simp [h1]
    · rename_i q; simp [h2 i (fun e => q e.symm)]
theorem own_CLset (s : Int32) (xs : List Int64) (k nb : Nat) (hk : k < xs.length) : (CL s xs k nb).set (B s (xs.getD k 0) + 1) (.int (Int32.ofNat (Cn s xs k (B s (xs.getD k 0) + 1)) + 1)) = CL s xs (k + 1) nb := by
  have e : ∀ j, Cn s xs (k + 1) j = Cn s xs k j + if B s (xs.getD k 0) + 1 == j then 1 else 0 := fun j => by
    unfold Cn
    rw [List.take_succ, List.countP_append]
    simp [List.getD_eq_getElem?_getD, List.getElem?_eq_getElem hk, List.countP_cons]
  unfold CL
  apply own_setR'
  · rw [e]; simp [Int32.ofNat_add]
  · intro i hi
    have t : (B s (xs.getD k 0) + 1 == i) = false := by simpa using fun q => hi q.symm
    show Value.int (Int32.ofNat (Cn s xs (k + 1) i)) = Value.int (Int32.ofNat (Cn s xs k i))
    rw [e, t]; rfl
theorem own_CP (s : Int32) (xs : List Int64) (j : Nat) : Pn s xs (j + 1) = Cn s xs xs.length (j + 1) + Pn s xs j := by
  unfold Pn Cn
  rw [List.take_length]
  induction xs with
  | nil => rfl
  | cons a t ih =>
    simp only [List.countP_cons, ih]
    rcases Nat.lt_trichotomy (B s a) j with q | q | q
    · have a1 : B s a < j + 1 := by omega
      have a2 : ¬ B s a = j := by omega
      simp [a1, a2, q]; omega
    · have a1 : B s a < j + 1 := by omega
      have a2 : ¬ B s a < j := by omega
      simp [a1, a2, q]; omega
    · have a1 : ¬ B s a < j + 1 := by omega
      have a2 : ¬ B s a < j := by omega
      have a3 : ¬ B s a = j := by omega
      simp [a1, a2, a3]
theorem own_PLset (s : Int32) (xs : List Int64) (t nb : Nat) : (PL s xs t nb).set (t + 1) (.int (Int32.ofNat (Cn s xs xs.length (t + 1)) + Int32.ofNat (Pn s xs t))) = PL s xs (t + 1) nb := by
  unfold PL
  apply own_setR'
  · simp [own_CP, Int32.ofNat_add]
  · intro i hi
    by_cases q : i ≤ t
    · have : i ≤ t + 1 := by omega
      simp [q, this]
    · have : ¬ i ≤ t + 1 := by omega
      simp [q, this]
theorem own_CP0 (s : Int32) (xs : List Int64) (nb : Nat) : CL s xs xs.length nb = PL s xs 0 nb := by
  unfold CL PL
  apply List.map_congr_left
  intro j _
  by_cases q : j ≤ 0
  · have : j = 0 := by omega
    subst this
    simp [Pn, Cn]
  · simp [q]
theorem own_PLn (s : Int32) (xs : List Int64) (nb j : Nat) (h : j ≤ nb) : (PL s xs nb nb).getD j (.int 0) = .int (Int32.ofNat (Pn s xs j)) := by
  unfold PL
  rw [own_getR _ _ _ _ (by omega), if_pos h]
def cq (xs : List Int64) (q : Int64) : Nat := xs.countP fun x => decide (U x < U q)
def Srt (xs : List Int64) : Prop := xs.Pairwise fun a b => U a ≤ U b
theorem own_Bmono (s : Int32) {a b : Int64} (h : U a ≤ U b) : B s a ≤ B s b := Nat.div_le_div_right h
theorem own_preB (s : Int32) (xs : List Int64) (hs : Srt xs) (j i : Nat) (h : i < xs.length) : i < Pn s xs j ↔ B s (xs.getD i 0) < j := by
  have := own_pre (fun x => decide (B s x < j)) (fun a b q r => by
    have e := own_Bmono s q
    simp only [decide_eq_true_eq] at *
    omega) xs hs i h
  unfold Pn
  rw [this, List.getD_eq_getElem?_getD, List.getElem?_eq_getElem h]
  simp
theorem own_preU (xs : List Int64) (hs : Srt xs) (q : Int64) (i : Nat) (h : i < xs.length) : i < cq xs q ↔ U (xs.getD i 0) < U q := by
  have := own_pre (fun x => decide (U x < U q)) (fun a b r t => by
    simp only [decide_eq_true_eq] at *
    omega) xs hs i h
  unfold cq
  rw [this, List.getD_eq_getElem?_getD, List.getElem?_eq_getElem h]
  simp
/-- the search's state -/
def Bs (xs : List Int64) (q : Int64) (lo hi : Nat) : Prop := lo ≤ hi ∧ hi ≤ xs.length ∧ (∀ i, i < lo → U (xs.getD i 0) < U q) ∧ ∀ i, hi ≤ i → i < xs.length → ¬ U (xs.getD i 0) < U q
theorem own_Bs0 (s : Int32) (xs : List Int64) (hs : Srt xs) (q : Int64) : Bs xs q (Pn s xs (B s q)) (Pn s xs (B s q + 1)) := by
  have e := own_CP s xs (B s q)
  have l1 : Pn s xs (B s q + 1) ≤ xs.length := List.countP_le_length
  refine ⟨by omega, l1, fun i hi => ?_, fun i h1 h2 => ?_⟩
  · have := (own_preB s xs hs _ i (by omega)).mp hi
    apply Nat.lt_of_not_le
    intro r
    have := own_Bmono s r
    omega
  · intro r
    have := own_Bmono s (Nat.le_of_lt r)
    exact absurd ((own_preB s xs hs (B s q + 1) i h2).mpr (by omega)) (by omega)
theorem own_BsE (xs : List Int64) (hs : Srt xs) (q : Int64) (lo hi : Nat) (h : Bs xs q lo hi) (e : ¬ lo < hi) : lo = cq xs q := by
  obtain ⟨h1, h2, h3, h4⟩ := h
  have l : cq xs q ≤ xs.length := List.countP_le_length
  rcases Nat.lt_trichotomy lo (cq xs q) with r | r | r
  · exact absurd ((own_preU xs hs q lo (by omega)).mp r) (h4 lo (by omega) (by omega))
  · exact r
  · exact absurd ((own_preU xs hs q (cq xs q) (by omega)).mpr (h3 _ r)) (by omega)
theorem own_BsL (xs : List Int64) (hs : Srt xs) (q : Int64) (lo hi md : Nat) (h : Bs xs q lo hi) (h1 : lo ≤ md) (h2 : md < hi) (c : U (xs.getD md 0) < U q) : Bs xs q (md + 1) hi := by
  obtain ⟨a1, a2, a3, a4⟩ := h
  refine ⟨by omega, a2, fun i hi => ?_, a4⟩
  have t := (own_preU xs hs q md (by omega)).mpr c
  exact (own_preU xs hs q i (by omega)).mp (by omega)
theorem own_BsH (xs : List Int64) (hs : Srt xs) (q : Int64) (lo hi md : Nat) (h : Bs xs q lo hi) (h1 : lo ≤ md) (h2 : md < hi) (c : ¬ U (xs.getD md 0) < U q) : Bs xs q lo md := by
  obtain ⟨a1, a2, a3, a4⟩ := h
  refine ⟨h1, by omega, a3, fun i h i2 => ?_⟩
  intro r
  have t := (own_preU xs hs q i i2).mpr r
  exact c ((own_preU xs hs q md (by omega)).mp (by omega))
theorem own_m64 (x : Int64) : U x < 2 ^ 64 := own_Ult x
theorem own_m32 (x : Int64) : U (x &&& 4294967295) < 2 ^ 32 := by
  have e : U (x &&& 4294967295) = (x.toUInt64 &&& 4294967295).toNat := rfl
  rw [e, UInt64.toNat_and]
  exact Nat.lt_of_le_of_lt Nat.and_le_right (by decide)
theorem own_gd (xs : List Int64) (M i : Nat) (h0 : 0 < M) (h : ∀ x ∈ xs, U x < M) : U (xs.getD i 0) < M := by
  rw [List.getD_eq_getElem?_getD]
  cases e : xs[i]? with
  | none => exact (show U 0 < M from h0)
  | some v => exact h v (List.mem_of_getElem? e)
theorem own_cqs (xs : List Int64) (x q : Int64) : Int32.ofNat (cq (xs ++ [x]) q) = if bF x q = 0 then Int32.ofNat (cq xs q) else Int32.ofNat (cq xs q) + 1 := by
  unfold cq bF
  rw [List.countP_append]
  by_cases h : U x < U q
  · simp [h, Int32.ofNat_add]
  · simp [h]
/-- what stands at the start: the statics, their classes and fields -/
def SF (Z : State) (w_BITS_32 : Addr) (w_BITS_64 : Addr) : Prop := Sta Z Z.heap "com/example/lenkki/lenkki/RingWidth" "BITS_32" "Lcom/example/lenkki/lenkki/RingWidth;" (.ref w_BITS_32) ∧ Exa Z Z.heap w_BITS_32 "com/example/lenkki/lenkki/RingWidth" ∧ Fld Z Z.heap w_BITS_32 "com/example/lenkki/lenkki/RingWidth" "bits" "I" (.int (32 : Int32)) ∧ Sta Z Z.heap "com/example/lenkki/lenkki/RingWidth" "BITS_64" "Lcom/example/lenkki/lenkki/RingWidth;" (.ref w_BITS_64) ∧ Exa Z Z.heap w_BITS_64 "com/example/lenkki/lenkki/RingWidth" ∧ Fld Z Z.heap w_BITS_64 "com/example/lenkki/lenkki/RingWidth" "bits" "I" (.int (64 : Int32))
def maxF (x y : Int32) : Int32 := if x < y then y else x
theorem own_getJ (ts : List Int64) (n : Nat) : (ts.map Value.long).getD n (.long 0) = .long (ts.getD n 0) := by
  simp [List.getD_eq_getElem?_getD, List.getElem?_map]
theorem own_toNat {x : Int32} (h : ¬ x < 0) : (x.toNatClampNeg : Int) = x.toInt := (nat_of h).symm
theorem own_pos {x : Int32} (h : 0 ≤ x.toInt) : ¬ x < 0 := by
  have c0 : (0 : Int32).toInt = 0 := by decide
  rw [Int32.lt_iff_toInt_lt, c0]; omega
theorem own_bd {x z : Int32} (h1 : 0 ≤ x.toInt) (h2 : x.toInt < z.toInt) : ¬ x < 0 ∧ x < z := ⟨own_pos h1, by rw [Int32.lt_iff_toInt_lt]; exact h2⟩
theorem own_tn {x : Int32} {k : Nat} (h : x.toInt = k) : x.toNatClampNeg = k := by
  have := own_toNat (own_pos (x := x) (by omega)); omega
theorem own_p1 {x : Int32} {k : Nat} (h : x.toInt = k) (hk : k < 100) : (x + (1 : Int32)).toInt = (k + 1 : Nat) := by
  have c1 : (1 : Int32).toInt = 1 := by decide
  rw [Jvm.Kit.i32_add (by omega) (by omega), c1]; omega
theorem own_on {k : Nat} (h : k < 100) : (Int32.ofNat k).toInt = k := by
  exact Int32.toInt_ofNat_of_lt (by omega)
theorem own_mid {lo hi : Int32} {i j : Nat} (h1 : lo.toInt = i) (h2 : hi.toInt = j) (hj : i < j) (hb : j < 100) : (((lo + hi).toUInt32 >>> ((1 : Int32) &&& 31).toUInt32).toInt32).toInt = ((i + j) / 2 : Nat) := by
  have e : (lo + hi).toInt = (i + j : Nat) := by rw [Jvm.Kit.i32_add (by omega) (by omega)]; omega
  rw [Jvm.Kit.i32_iushr (k := 1) (Jvm.Kit.i32_nonneg.mpr (by omega)) (by decide) (by decide), e]; omega
theorem d2_0 : decode method_3_code 0 = .ok (.lload_n 0, 1) := by decide +kernel
theorem d2_1 : decode method_3_code 1 = .ok (.ldc2_w 43, 3) := by decide +kernel
theorem d2_4 : decode method_3_code 4 = .ok (.lxor, 1) := by decide +kernel
theorem d2_5 : decode method_3_code 5 = .ok (.lload_n 2, 1) := by decide +kernel
theorem d2_6 : decode method_3_code 6 = .ok (.ldc2_w 43, 3) := by decide +kernel
theorem d2_9 : decode method_3_code 9 = .ok (.lxor, 1) := by decide +kernel
theorem d2_10 : decode method_3_code 10 = .ok (.lcmp, 1) := by decide +kernel
theorem d2_11 : decode method_3_code 11 = .ok (.ifCond .ge 7, 3) := by decide +kernel
theorem d2_14 : decode method_3_code 14 = .ok (.iconst 1, 1) := by decide +kernel
theorem d2_15 : decode method_3_code 15 = .ok (.goto 4, 3) := by decide +kernel
theorem d2_18 : decode method_3_code 18 = .ok (.iconst 0, 1) := by decide +kernel
theorem d2_19 : decode method_3_code 19 = .ok (.ireturn, 1) := by decide +kernel
theorem pn_372981 : plainName "com/example/lenkki/lenkki/PositionIndexFirstAtOrAfterPinLaw" = true := by first | (simp [plainName, overriddenIn]; done) | decide +kernel
theorem ef_rmUlt (m : MethodId) (x0 : Int64) (x1 : Int64) : entryFrame m #[(.long x0), (.long x1)] 4 = mkF m 0 #[sJ x0, sS, sJ x1, sS] [] := by first | (simp [entryFrame, mkF, argsToLocals, Value.category]; done) | rfl
set_option maxRecDepth 65536 in
set_option maxHeartbeats 400000000 in
theorem rmUlt (l : Launch) (Z : State) (a0 : Array Value) (hw : ∀ d ∈ tables_1, d.before a0 Z = true) (ws : List Jvm.Cond) (w_BITS_32 : Addr) (w_BITS_64 : Addr) (hS : SF Z w_BITS_32 w_BITS_64) (q1 : Int64) (q2 : Int64) (h0 : Heap) (O0 : Ext Z.heap h0)  :
    Con l Z h0 (⟨"com/example/lenkki/lenkki/PositionIndexFirstAtOrAfterPinLaw", "ult", "(JJ)Z"⟩ : MethodName) method_3_code 4 (some .boolean) ws ({ frames := 0, cells := 0, slots := 0, locals := 0 } : Room) #[(.long q1), (.long q2)] (fun v h L => v = some (.int (bF q1 q2)) ∧ Fr Z.heap.size L ∧ h = h0) := by
  obtain ⟨S_BITS_32, E_BITS_32, F_BITS_32_bits, S_BITS_64, E_BITS_64, F_BITS_64_bits⟩ := id hS
  refine own_con (plainFor_of_name pn_372981) ?_
  intro p e s m below meth c T0 X0 hx hby hml hown hnm hret hlk hZ e0
  have hown : s.vm.findClass "com/example/lenkki/lenkki/PositionIndexFirstAtOrAfterPinLaw" = some m.cls := hown
  have N0 := Fr.nil Z.heap.size
  refine Go.st (S' := T0.setTop (mkF m 0 #[sJ q1, sS, sJ q2, sS] [])) (fun _ k => castTop (ef_rmUlt m q1 q2) k) ?_
  refine Go.st (S' := T0.setTop (mkF m 1 #[sJ q1, sS, sJ q2, sS] [(.long q1)])) (fun _ k => XS.lloadN X0.here hx rfl (hb hby d2_0) rfl k) ?_
  refine Go.st (S' := T0.setTop (mkF m 4 #[sJ q1, sS, sJ q2, sS] [(.long (-9223372036854775808 : Int64)), (.long q1)])) (X0.ldc2Long hx hown (mvT hZ (ww hw 12 rfl)) (g := (mkF m 1 #[sJ q1, sS, sJ q2, sS] [(.long q1)])) rfl (hb hby d2_1)) ?_
  refine Go.st (S' := T0.setTop (mkF m 5 #[sJ q1, sS, sJ q2, sS] [(.long (q1 ^^^ (-9223372036854775808 : Int64)))])) (fun _ k => XS.lxor X0.here hx rfl (hb hby d2_4) rfl k) ?_
  refine Go.st (S' := T0.setTop (mkF m 6 #[sJ q1, sS, sJ q2, sS] [(.long q2), (.long (q1 ^^^ (-9223372036854775808 : Int64)))])) (fun _ k => XS.lloadN X0.here hx rfl (hb hby d2_5) rfl k) ?_
  refine Go.st (S' := T0.setTop (mkF m 9 #[sJ q1, sS, sJ q2, sS] [(.long (-9223372036854775808 : Int64)), (.long q2), (.long (q1 ^^^ (-9223372036854775808 : Int64)))])) (X0.ldc2Long hx hown (mvT hZ (ww hw 12 rfl)) (g := (mkF m 6 #[sJ q1, sS, sJ q2, sS] [(.long q2), (.long (q1 ^^^ (-9223372036854775808 : Int64)))])) rfl (hb hby d2_6)) ?_
  refine Go.st (S' := T0.setTop (mkF m 10 #[sJ q1, sS, sJ q2, sS] [(.long (q2 ^^^ (-9223372036854775808 : Int64))), (.long (q1 ^^^ (-9223372036854775808 : Int64)))])) (fun _ k => XS.lxor X0.here hx rfl (hb hby d2_9) rfl k) ?_
  refine Go.st (S' := T0.setTop (mkF m 11 #[sJ q1, sS, sJ q2, sS] [(.int (lcmpW (q1 ^^^ (-9223372036854775808 : Int64)) (q2 ^^^ (-9223372036854775808 : Int64))))])) (fun _ k => XS.lcmp X0.here hx rfl (hb hby d2_10) rfl k) ?_
  by_cases hc11 : (q1 ^^^ (-9223372036854775808 : Int64)) < (q2 ^^^ (-9223372036854775808 : Int64))
  · refine Go.st (S' := T0.setTop (mkF m 14 #[sJ q1, sS, sJ q2, sS] [])) (fun _ k => XS.ifNo X0.here hx rfl (hb hby d2_11) rfl (own_Llt hc11).2 k) ?_
    refine Go.st (S' := T0.setTop (mkF m 15 #[sJ q1, sS, sJ q2, sS] [(.int (1 : Int32))])) (fun _ k => XS.iconst X0.here hx rfl (hb hby d2_14) k) ?_
    refine Go.st (S' := T0.setTop (mkF m 19 #[sJ q1, sS, sJ q2, sS] [(.int (1 : Int32))])) (fun _ k => XS.goto X0.here hx rfl (pc0 := 15) (pc' := 19) rfl (hb hby d2_15) (by decide) (by decide) k) ?_
    exact own_retN X0 hx hlk hret (by simp) (hb hby d2_19) e0 ⟨by rw [own_b1 hc11]; rfl, N0, rfl⟩ (by decide) (by decide)
  · refine Go.st (S' := T0.setTop (mkF m 18 #[sJ q1, sS, sJ q2, sS] [])) (fun _ k => XS.ifYes X0.here hx rfl (pc0 := 11) (pc' := 18) rfl (hb hby d2_11) rfl (own_Lnlt hc11).2 (by decide) (by decide) k) ?_
    refine Go.st (S' := T0.setTop (mkF m 19 #[sJ q1, sS, sJ q2, sS] [(.int (0 : Int32))])) (fun _ k => XS.iconst X0.here hx rfl (hb hby d2_18) k) ?_
    exact own_retN X0 hx hlk hret (by simp) (hb hby d2_19) e0 ⟨by rw [own_b0 hc11]; rfl, N0, rfl⟩ (by decide) (by decide)
theorem d1_0 : decode method_4_code 0 = .ok (.aload_n 0, 1) := by decide +kernel
theorem d1_1 : decode method_4_code 1 = .ok (.iload_n 2, 1) := by decide +kernel
theorem d1_2 : decode method_4_code 2 = .ok (.laload, 1) := by decide +kernel
theorem d1_3 : decode method_4_code 3 = .ok (.aload_n 0, 1) := by decide +kernel
theorem d1_4 : decode method_4_code 4 = .ok (.iload_n 1, 1) := by decide +kernel
theorem d1_5 : decode method_4_code 5 = .ok (.laload, 1) := by decide +kernel
theorem d1_6 : decode method_4_code 6 = .ok (.invokestatic 45, 3) := by decide +kernel
theorem d1_9 : decode method_4_code 9 = .ok (.ifCond .eq 17, 3) := by decide +kernel
theorem d1_12 : decode method_4_code 12 = .ok (.aload_n 0, 1) := by decide +kernel
theorem d1_13 : decode method_4_code 13 = .ok (.iload_n 1, 1) := by decide +kernel
theorem d1_14 : decode method_4_code 14 = .ok (.laload, 1) := by decide +kernel
theorem d1_15 : decode method_4_code 15 = .ok (.lstore_n 3, 1) := by decide +kernel
theorem d1_16 : decode method_4_code 16 = .ok (.aload_n 0, 1) := by decide +kernel
theorem d1_17 : decode method_4_code 17 = .ok (.iload_n 1, 1) := by decide +kernel
theorem d1_18 : decode method_4_code 18 = .ok (.aload_n 0, 1) := by decide +kernel
theorem d1_19 : decode method_4_code 19 = .ok (.iload_n 2, 1) := by decide +kernel
theorem d1_20 : decode method_4_code 20 = .ok (.laload, 1) := by decide +kernel
theorem d1_21 : decode method_4_code 21 = .ok (.lastore, 1) := by decide +kernel
theorem d1_22 : decode method_4_code 22 = .ok (.aload_n 0, 1) := by decide +kernel
theorem d1_23 : decode method_4_code 23 = .ok (.iload_n 2, 1) := by decide +kernel
theorem d1_24 : decode method_4_code 24 = .ok (.lload_n 3, 1) := by decide +kernel
theorem d1_25 : decode method_4_code 25 = .ok (.lastore, 1) := by decide +kernel
theorem d1_26 : decode method_4_code 26 = .ok (.return_, 1) := by decide +kernel
theorem pd_212497 : parseMethodDescriptor "(JJ)Z" = some ⟨[.long, .long], some .boolean⟩ := by decide +kernel
theorem ef_rmCx0 (m : MethodId) (x0 : Addr) (x1 : Int32) (x2 : Int32) : entryFrame m #[(.ref x0), (.int x1), (.int x2)] 5 = mkF m 0 #[sR x0, sI x1, sI x2, sU, sU] [] := by first | (simp [entryFrame, mkF, argsToLocals, Value.category]; done) | rfl
set_option maxRecDepth 65536 in
set_option maxHeartbeats 400000000 in
theorem rmCx0 (l : Launch) (Z : State) (a0 : Array Value) (hw : ∀ d ∈ tables_1, d.before a0 Z = true) (ws : List Jvm.Cond) (w_BITS_32 : Addr) (w_BITS_64 : Addr) (hS : SF Z w_BITS_32 w_BITS_64) (a1 : Addr) (k1 : ClassId) (x0 x1 x2 x3 x4 x5 : Int64) (h0 : Heap) (O0 : Ext Z.heap h0) (ga : Z.heap.size ≤ a1) (VA : Arv Z h0 a1 k1 .long (6 : Int32) [(.long x0), (.long x1), (.long x2), (.long x3), (.long x4), (.long x5)] (.long (0 : Int64))) :
    Con l Z h0 (⟨"com/example/lenkki/lenkki/PositionIndexFirstAtOrAfterPinLaw", "cx", "([JII)V"⟩ : MethodName) method_4_code 5 none ws ({ frames := 1, cells := 0, slots := 0, locals := 15 } : Room) #[(.ref a1), (.int (0 : Int32)), (.int (1 : Int32))] (fun v h L => v = none ∧ Fr Z.heap.size L ∧ Keep h0 h [a1] ∧ ∃ y z : Int64, Arv Z h a1 k1 .long (6 : Int32) [(.long y), (.long z), (.long x2), (.long x3), (.long x4), (.long x5)] (.long (0 : Int64)) ∧ U y ≤ U z ∧ (y = x0 ∧ z = x1 ∨ y = x1 ∧ z = x0)) := by
  obtain ⟨S_BITS_32, E_BITS_32, F_BITS_32_bits, S_BITS_64, E_BITS_64, F_BITS_64_bits⟩ := id hS
  refine own_con (plainFor_of_name pn_372981) ?_
  intro p e s m below meth c T0 X0 hx hby hml hown hnm hret hlk hZ e0
  have hown : s.vm.findClass "com/example/lenkki/lenkki/PositionIndexFirstAtOrAfterPinLaw" = some m.cls := hown
  have N0 := Fr.nil Z.heap.size
  have KP0 : Keep h0 h0 [a1] := Keep.refl h0 _
  refine Go.st (S' := T0.setTop (mkF m 0 #[sR a1, sI 0, sI 1, sU, sU] [])) (fun _ k => castTop (ef_rmCx0 m a1 (0 : Int32) (1 : Int32)) k) ?_
  refine Go.st (S' := T0.setTop (mkF m 1 #[sR a1, sI 0, sI 1, sU, sU] [(.ref a1)])) (fun _ k => XS.aloadN X0.here hx rfl (hb hby d1_0) rfl rfl k) ?_
  refine Go.st (S' := T0.setTop (mkF m 2 #[sR a1, sI 0, sI 1, sU, sU] [(.int (1 : Int32)), (.ref a1)])) (fun _ k => XS.iloadN X0.here hx rfl (hb hby d1_1) rfl k) ?_
  refine Go.st (S' := T0.setTop (mkF m 3 #[sR a1, sI 0, sI 1, sU, sU] [(.long x1)])) (own_ldJ X0 hx hZ e0 VA ⟨by decide, by decide⟩ rfl (g := (mkF m 2 #[sR a1, sI 0, sI 1, sU, sU] [(.int (1 : Int32)), (.ref a1)])) rfl rfl (hb hby d1_2)) ?_
  refine Go.st (S' := T0.setTop (mkF m 4 #[sR a1, sI 0, sI 1, sU, sU] [(.ref a1), (.long x1)])) (fun _ k => XS.aloadN X0.here hx rfl (hb hby d1_3) rfl rfl k) ?_
  refine Go.st (S' := T0.setTop (mkF m 5 #[sR a1, sI 0, sI 1, sU, sU] [(.int (0 : Int32)), (.ref a1), (.long x1)])) (fun _ k => XS.iloadN X0.here hx rfl (hb hby d1_4) rfl k) ?_
  refine Go.st (S' := T0.setTop (mkF m 6 #[sR a1, sI 0, sI 1, sU, sU] [(.long x0), (.long x1)])) (own_ldJ X0 hx hZ e0 VA ⟨by decide, by decide⟩ rfl (g := (mkF m 5 #[sR a1, sI 0, sI 1, sU, sU] [(.int (0 : Int32)), (.ref a1), (.long x1)])) rfl rfl (hb hby d1_5)) ?_
  obtain ⟨_, T3, L3, X3, ⟨rfl, Nq3, eq3⟩, st3⟩ := own_callS X0 hx hZ hown (ww hw 9 rfl) (ww hw 10 rfl) (ww hw 7 rfl) (ww hw 11 rfl) (by decide) e0 (rmUlt l Z a0 hw [] w_BITS_32 w_BITS_64 hS x1 x0 h0 O0) 0 (by decide) (by decide) (by decide) (by decide) (g := (mkF m 6 #[sR a1, sI 0, sI 1, sU, sU] [(.long x0), (.long x1)])) rfl (by rw [hml]; rfl) [(.long x1), (.long x0)] [] rfl (lenOf pd_212497 rfl) rfl (by show 2 * 0 + _ ≤ _; exact Nat.le_of_eq rfl) (hb hby d1_6)
  have N3 := Fr.app N0 Nq3
  refine Go.st (S' := T3.setTop (mkF m 9 #[sR a1, sI 0, sI 1, sU, sU] [(.int (bF x1 x0))])) st3 ?_
  by_cases hc9 : (bF x1 x0) = (0 : Int32)
  · refine Go.st (S' := T3.setTop (mkF m 26 #[sR a1, sI 0, sI 1, sU, sU] [])) (fun _ k => XS.ifYes X3.here hx rfl (pc0 := 9) (pc' := 26) rfl (hb hby d1_9) rfl ((if0 _ _).trans (teq hc9).1) (by decide) (by decide) k) ?_
    exact own_retV X3 hx hlk hret (hb hby d1_26) eq3 ⟨rfl, N3, KP0, _, _, VA, own_b0' hc9, Or.inl ⟨rfl, rfl⟩⟩ (by decide) (by decide)
  · refine Go.st (S' := T3.setTop (mkF m 12 #[sR a1, sI 0, sI 1, sU, sU] [])) (fun _ k => XS.ifNo X3.here hx rfl (hb hby d1_9) rfl ((if0 _ _).trans (feq hc9).1) k) ?_
    refine Go.st (S' := T3.setTop (mkF m 13 #[sR a1, sI 0, sI 1, sU, sU] [(.ref a1)])) (fun _ k => XS.aloadN X3.here hx rfl (hb hby d1_12) rfl rfl k) ?_
    refine Go.st (S' := T3.setTop (mkF m 14 #[sR a1, sI 0, sI 1, sU, sU] [(.int (0 : Int32)), (.ref a1)])) (fun _ k => XS.iloadN X3.here hx rfl (hb hby d1_13) rfl k) ?_
    refine Go.st (S' := T3.setTop (mkF m 15 #[sR a1, sI 0, sI 1, sU, sU] [(.long x0)])) (own_ldJ X3 hx hZ eq3 VA ⟨by decide, by decide⟩ rfl (g := (mkF m 14 #[sR a1, sI 0, sI 1, sU, sU] [(.int (0 : Int32)), (.ref a1)])) rfl rfl (hb hby d1_14)) ?_
    refine Go.st (S' := T3.setTop (mkF m 16 #[sR a1, sI 0, sI 1, sJ x0, sS] [])) (fun _ k => XS.lstoreN X3.here hx rfl (hb hby d1_15) rfl (l' := #[sR a1, sI 0, sI 1, sJ x0, sS]) rfl k) ?_
    refine Go.st (S' := T3.setTop (mkF m 17 #[sR a1, sI 0, sI 1, sJ x0, sS] [(.ref a1)])) (fun _ k => XS.aloadN X3.here hx rfl (hb hby d1_16) rfl rfl k) ?_
    refine Go.st (S' := T3.setTop (mkF m 18 #[sR a1, sI 0, sI 1, sJ x0, sS] [(.int (0 : Int32)), (.ref a1)])) (fun _ k => XS.iloadN X3.here hx rfl (hb hby d1_17) rfl k) ?_
    refine Go.st (S' := T3.setTop (mkF m 19 #[sR a1, sI 0, sI 1, sJ x0, sS] [(.ref a1), (.int (0 : Int32)), (.ref a1)])) (fun _ k => XS.aloadN X3.here hx rfl (hb hby d1_18) rfl rfl k) ?_
    refine Go.st (S' := T3.setTop (mkF m 20 #[sR a1, sI 0, sI 1, sJ x0, sS] [(.int (1 : Int32)), (.ref a1), (.int (0 : Int32)), (.ref a1)])) (fun _ k => XS.iloadN X3.here hx rfl (hb hby d1_19) rfl k) ?_
    refine Go.st (S' := T3.setTop (mkF m 21 #[sR a1, sI 0, sI 1, sJ x0, sS] [(.long x1), (.int (0 : Int32)), (.ref a1)])) (own_ldJ X3 hx hZ eq3 VA ⟨by decide, by decide⟩ rfl (g := (mkF m 20 #[sR a1, sI 0, sI 1, sJ x0, sS] [(.int (1 : Int32)), (.ref a1), (.int (0 : Int32)), (.ref a1)])) rfl rfl (hb hby d1_20)) ?_
    obtain ⟨T6, h6, X6, e6, W6, V6, st6⟩ := own_stJ X3 hx hZ eq3 VA (j := (0 : Int32)) ⟨by decide, by decide⟩ 0 rfl (Nat.le_of_ble_eq_true rfl) (g := (mkF m 21 #[sR a1, sI 0, sI 1, sJ x0, sS] [(.long x1), (.int (0 : Int32)), (.ref a1)])) rfl rfl (hb hby d1_21)
    have N6 := Fr.snoc X6 N3 ga
    have V6 : Arv Z h6 a1 k1 .long (6 : Int32) [(.long x1), (.long x1), (.long x2), (.long x3), (.long x4), (.long x5)] (.long (0 : Int64)) := V6
    have O6 : Ext Z.heap h6 := own_Ext.wr O0 W6 ga
    have KP6 : Keep h0 h6 [a1] := KP0.wr W6 (Or.inl (List.mem_of_getElem? (i := 0) rfl))
    refine Go.st (S' := T6.setTop (mkF m 22 #[sR a1, sI 0, sI 1, sJ x0, sS] [])) st6 ?_
    refine Go.st (S' := T6.setTop (mkF m 23 #[sR a1, sI 0, sI 1, sJ x0, sS] [(.ref a1)])) (fun _ k => XS.aloadN X6.here hx rfl (hb hby d1_22) rfl rfl k) ?_
    refine Go.st (S' := T6.setTop (mkF m 24 #[sR a1, sI 0, sI 1, sJ x0, sS] [(.int (1 : Int32)), (.ref a1)])) (fun _ k => XS.iloadN X6.here hx rfl (hb hby d1_23) rfl k) ?_
    refine Go.st (S' := T6.setTop (mkF m 25 #[sR a1, sI 0, sI 1, sJ x0, sS] [(.long x0), (.int (1 : Int32)), (.ref a1)])) (fun _ k => XS.lloadN X6.here hx rfl (hb hby d1_24) rfl k) ?_
    obtain ⟨T7, h7, X7, e7, W7, V7, st7⟩ := own_stJ X6 hx hZ e6 V6 (j := (1 : Int32)) ⟨by decide, by decide⟩ 1 rfl (Nat.le_of_ble_eq_true rfl) (g := (mkF m 25 #[sR a1, sI 0, sI 1, sJ x0, sS] [(.long x0), (.int (1 : Int32)), (.ref a1)])) rfl rfl (hb hby d1_25)
    have N7 := Fr.snoc X7 N6 ga
    have V7 : Arv Z h7 a1 k1 .long (6 : Int32) [(.long x1), (.long x0), (.long x2), (.long x3), (.long x4), (.long x5)] (.long (0 : Int64)) := V7
    have O7 : Ext Z.heap h7 := own_Ext.wr O6 W7 ga
    have KP7 : Keep h0 h7 [a1] := KP6.wr W7 (Or.inl (List.mem_of_getElem? (i := 0) rfl))
    refine Go.st (S' := T7.setTop (mkF m 26 #[sR a1, sI 0, sI 1, sJ x0, sS] [])) st7 ?_
    exact own_retV X7 hx hlk hret (hb hby d1_26) e7 ⟨rfl, N7, KP7, _, _, V7, own_b1' hc9, Or.inr ⟨rfl, rfl⟩⟩ (by decide) (by decide)
theorem ef_rmCx1 (m : MethodId) (x0 : Addr) (x1 : Int32) (x2 : Int32) : entryFrame m #[(.ref x0), (.int x1), (.int x2)] 5 = mkF m 0 #[sR x0, sI x1, sI x2, sU, sU] [] := by first | (simp [entryFrame, mkF, argsToLocals, Value.category]; done) | rfl
set_option maxRecDepth 65536 in
set_option maxHeartbeats 400000000 in
theorem rmCx1 (l : Launch) (Z : State) (a0 : Array Value) (hw : ∀ d ∈ tables_1, d.before a0 Z = true) (ws : List Jvm.Cond) (w_BITS_32 : Addr) (w_BITS_64 : Addr) (hS : SF Z w_BITS_32 w_BITS_64) (a1 : Addr) (k1 : ClassId) (x0 x1 x2 x3 x4 x5 : Int64) (h0 : Heap) (O0 : Ext Z.heap h0) (ga : Z.heap.size ≤ a1) (VA : Arv Z h0 a1 k1 .long (6 : Int32) [(.long x0), (.long x1), (.long x2), (.long x3), (.long x4), (.long x5)] (.long (0 : Int64))) :
    Con l Z h0 (⟨"com/example/lenkki/lenkki/PositionIndexFirstAtOrAfterPinLaw", "cx", "([JII)V"⟩ : MethodName) method_4_code 5 none ws ({ frames := 1, cells := 0, slots := 0, locals := 15 } : Room) #[(.ref a1), (.int (1 : Int32)), (.int (2 : Int32))] (fun v h L => v = none ∧ Fr Z.heap.size L ∧ Keep h0 h [a1] ∧ ∃ y z : Int64, Arv Z h a1 k1 .long (6 : Int32) [(.long x0), (.long y), (.long z), (.long x3), (.long x4), (.long x5)] (.long (0 : Int64)) ∧ U y ≤ U z ∧ (y = x1 ∧ z = x2 ∨ y = x2 ∧ z = x1)) := by
  obtain ⟨S_BITS_32, E_BITS_32, F_BITS_32_bits, S_BITS_64, E_BITS_64, F_BITS_64_bits⟩ := id hS
  refine own_con (plainFor_of_name pn_372981) ?_
  intro p e s m below meth c T0 X0 hx hby hml hown hnm hret hlk hZ e0
  have hown : s.vm.findClass "com/example/lenkki/lenkki/PositionIndexFirstAtOrAfterPinLaw" = some m.cls := hown
  have N0 := Fr.nil Z.heap.size
  have KP0 : Keep h0 h0 [a1] := Keep.refl h0 _
  refine Go.st (S' := T0.setTop (mkF m 0 #[sR a1, sI 1, sI 2, sU, sU] [])) (fun _ k => castTop (ef_rmCx1 m a1 (1 : Int32) (2 : Int32)) k) ?_
  refine Go.st (S' := T0.setTop (mkF m 1 #[sR a1, sI 1, sI 2, sU, sU] [(.ref a1)])) (fun _ k => XS.aloadN X0.here hx rfl (hb hby d1_0) rfl rfl k) ?_
  refine Go.st (S' := T0.setTop (mkF m 2 #[sR a1, sI 1, sI 2, sU, sU] [(.int (2 : Int32)), (.ref a1)])) (fun _ k => XS.iloadN X0.here hx rfl (hb hby d1_1) rfl k) ?_
  refine Go.st (S' := T0.setTop (mkF m 3 #[sR a1, sI 1, sI 2, sU, sU] [(.long x2)])) (own_ldJ X0 hx hZ e0 VA ⟨by decide, by decide⟩ rfl (g := (mkF m 2 #[sR a1, sI 1, sI 2, sU, sU] [(.int (2 : Int32)), (.ref a1)])) rfl rfl (hb hby d1_2)) ?_
  refine Go.st (S' := T0.setTop (mkF m 4 #[sR a1, sI 1, sI 2, sU, sU] [(.ref a1), (.long x2)])) (fun _ k => XS.aloadN X0.here hx rfl (hb hby d1_3) rfl rfl k) ?_
  refine Go.st (S' := T0.setTop (mkF m 5 #[sR a1, sI 1, sI 2, sU, sU] [(.int (1 : Int32)), (.ref a1), (.long x2)])) (fun _ k => XS.iloadN X0.here hx rfl (hb hby d1_4) rfl k) ?_
  refine Go.st (S' := T0.setTop (mkF m 6 #[sR a1, sI 1, sI 2, sU, sU] [(.long x1), (.long x2)])) (own_ldJ X0 hx hZ e0 VA ⟨by decide, by decide⟩ rfl (g := (mkF m 5 #[sR a1, sI 1, sI 2, sU, sU] [(.int (1 : Int32)), (.ref a1), (.long x2)])) rfl rfl (hb hby d1_5)) ?_
  obtain ⟨_, T10, L10, X10, ⟨rfl, Nq10, eq10⟩, st10⟩ := own_callS X0 hx hZ hown (ww hw 9 rfl) (ww hw 10 rfl) (ww hw 7 rfl) (ww hw 11 rfl) (by decide) e0 (rmUlt l Z a0 hw [] w_BITS_32 w_BITS_64 hS x2 x1 h0 O0) 0 (by decide) (by decide) (by decide) (by decide) (g := (mkF m 6 #[sR a1, sI 1, sI 2, sU, sU] [(.long x1), (.long x2)])) rfl (by rw [hml]; rfl) [(.long x2), (.long x1)] [] rfl (lenOf pd_212497 rfl) rfl (by show 2 * 0 + _ ≤ _; exact Nat.le_of_eq rfl) (hb hby d1_6)
  have N10 := Fr.app N0 Nq10
  refine Go.st (S' := T10.setTop (mkF m 9 #[sR a1, sI 1, sI 2, sU, sU] [(.int (bF x2 x1))])) st10 ?_
  by_cases hc9 : (bF x2 x1) = (0 : Int32)
  · refine Go.st (S' := T10.setTop (mkF m 26 #[sR a1, sI 1, sI 2, sU, sU] [])) (fun _ k => XS.ifYes X10.here hx rfl (pc0 := 9) (pc' := 26) rfl (hb hby d1_9) rfl ((if0 _ _).trans (teq hc9).1) (by decide) (by decide) k) ?_
    exact own_retV X10 hx hlk hret (hb hby d1_26) eq10 ⟨rfl, N10, KP0, _, _, VA, own_b0' hc9, Or.inl ⟨rfl, rfl⟩⟩ (by decide) (by decide)
  · refine Go.st (S' := T10.setTop (mkF m 12 #[sR a1, sI 1, sI 2, sU, sU] [])) (fun _ k => XS.ifNo X10.here hx rfl (hb hby d1_9) rfl ((if0 _ _).trans (feq hc9).1) k) ?_
    refine Go.st (S' := T10.setTop (mkF m 13 #[sR a1, sI 1, sI 2, sU, sU] [(.ref a1)])) (fun _ k => XS.aloadN X10.here hx rfl (hb hby d1_12) rfl rfl k) ?_
    refine Go.st (S' := T10.setTop (mkF m 14 #[sR a1, sI 1, sI 2, sU, sU] [(.int (1 : Int32)), (.ref a1)])) (fun _ k => XS.iloadN X10.here hx rfl (hb hby d1_13) rfl k) ?_
    refine Go.st (S' := T10.setTop (mkF m 15 #[sR a1, sI 1, sI 2, sU, sU] [(.long x1)])) (own_ldJ X10 hx hZ eq10 VA ⟨by decide, by decide⟩ rfl (g := (mkF m 14 #[sR a1, sI 1, sI 2, sU, sU] [(.int (1 : Int32)), (.ref a1)])) rfl rfl (hb hby d1_14)) ?_
    refine Go.st (S' := T10.setTop (mkF m 16 #[sR a1, sI 1, sI 2, sJ x1, sS] [])) (fun _ k => XS.lstoreN X10.here hx rfl (hb hby d1_15) rfl (l' := #[sR a1, sI 1, sI 2, sJ x1, sS]) rfl k) ?_
    refine Go.st (S' := T10.setTop (mkF m 17 #[sR a1, sI 1, sI 2, sJ x1, sS] [(.ref a1)])) (fun _ k => XS.aloadN X10.here hx rfl (hb hby d1_16) rfl rfl k) ?_
    refine Go.st (S' := T10.setTop (mkF m 18 #[sR a1, sI 1, sI 2, sJ x1, sS] [(.int (1 : Int32)), (.ref a1)])) (fun _ k => XS.iloadN X10.here hx rfl (hb hby d1_17) rfl k) ?_
    refine Go.st (S' := T10.setTop (mkF m 19 #[sR a1, sI 1, sI 2, sJ x1, sS] [(.ref a1), (.int (1 : Int32)), (.ref a1)])) (fun _ k => XS.aloadN X10.here hx rfl (hb hby d1_18) rfl rfl k) ?_
    refine Go.st (S' := T10.setTop (mkF m 20 #[sR a1, sI 1, sI 2, sJ x1, sS] [(.int (2 : Int32)), (.ref a1), (.int (1 : Int32)), (.ref a1)])) (fun _ k => XS.iloadN X10.here hx rfl (hb hby d1_19) rfl k) ?_
    refine Go.st (S' := T10.setTop (mkF m 21 #[sR a1, sI 1, sI 2, sJ x1, sS] [(.long x2), (.int (1 : Int32)), (.ref a1)])) (own_ldJ X10 hx hZ eq10 VA ⟨by decide, by decide⟩ rfl (g := (mkF m 20 #[sR a1, sI 1, sI 2, sJ x1, sS] [(.int (2 : Int32)), (.ref a1), (.int (1 : Int32)), (.ref a1)])) rfl rfl (hb hby d1_20)) ?_
    obtain ⟨T13, h13, X13, e13, W13, V13, st13⟩ := own_stJ X10 hx hZ eq10 VA (j := (1 : Int32)) ⟨by decide, by decide⟩ 1 rfl (Nat.le_of_ble_eq_true rfl) (g := (mkF m 21 #[sR a1, sI 1, sI 2, sJ x1, sS] [(.long x2), (.int (1 : Int32)), (.ref a1)])) rfl rfl (hb hby d1_21)
    have N13 := Fr.snoc X13 N10 ga
    have V13 : Arv Z h13 a1 k1 .long (6 : Int32) [(.long x0), (.long x2), (.long x2), (.long x3), (.long x4), (.long x5)] (.long (0 : Int64)) := V13
    have O13 : Ext Z.heap h13 := own_Ext.wr O0 W13 ga
    have KP13 : Keep h0 h13 [a1] := KP0.wr W13 (Or.inl (List.mem_of_getElem? (i := 0) rfl))
    refine Go.st (S' := T13.setTop (mkF m 22 #[sR a1, sI 1, sI 2, sJ x1, sS] [])) st13 ?_
    refine Go.st (S' := T13.setTop (mkF m 23 #[sR a1, sI 1, sI 2, sJ x1, sS] [(.ref a1)])) (fun _ k => XS.aloadN X13.here hx rfl (hb hby d1_22) rfl rfl k) ?_
    refine Go.st (S' := T13.setTop (mkF m 24 #[sR a1, sI 1, sI 2, sJ x1, sS] [(.int (2 : Int32)), (.ref a1)])) (fun _ k => XS.iloadN X13.here hx rfl (hb hby d1_23) rfl k) ?_
    refine Go.st (S' := T13.setTop (mkF m 25 #[sR a1, sI 1, sI 2, sJ x1, sS] [(.long x1), (.int (2 : Int32)), (.ref a1)])) (fun _ k => XS.lloadN X13.here hx rfl (hb hby d1_24) rfl k) ?_
    obtain ⟨T14, h14, X14, e14, W14, V14, st14⟩ := own_stJ X13 hx hZ e13 V13 (j := (2 : Int32)) ⟨by decide, by decide⟩ 2 rfl (Nat.le_of_ble_eq_true rfl) (g := (mkF m 25 #[sR a1, sI 1, sI 2, sJ x1, sS] [(.long x1), (.int (2 : Int32)), (.ref a1)])) rfl rfl (hb hby d1_25)
    have N14 := Fr.snoc X14 N13 ga
    have V14 : Arv Z h14 a1 k1 .long (6 : Int32) [(.long x0), (.long x2), (.long x1), (.long x3), (.long x4), (.long x5)] (.long (0 : Int64)) := V14
    have O14 : Ext Z.heap h14 := own_Ext.wr O13 W14 ga
    have KP14 : Keep h0 h14 [a1] := KP13.wr W14 (Or.inl (List.mem_of_getElem? (i := 0) rfl))
    refine Go.st (S' := T14.setTop (mkF m 26 #[sR a1, sI 1, sI 2, sJ x1, sS] [])) st14 ?_
    exact own_retV X14 hx hlk hret (hb hby d1_26) e14 ⟨rfl, N14, KP14, _, _, V14, own_b1' hc9, Or.inr ⟨rfl, rfl⟩⟩ (by decide) (by decide)
theorem ef_rmCx2 (m : MethodId) (x0 : Addr) (x1 : Int32) (x2 : Int32) : entryFrame m #[(.ref x0), (.int x1), (.int x2)] 5 = mkF m 0 #[sR x0, sI x1, sI x2, sU, sU] [] := by first | (simp [entryFrame, mkF, argsToLocals, Value.category]; done) | rfl
set_option maxRecDepth 65536 in
set_option maxHeartbeats 400000000 in
theorem rmCx2 (l : Launch) (Z : State) (a0 : Array Value) (hw : ∀ d ∈ tables_1, d.before a0 Z = true) (ws : List Jvm.Cond) (w_BITS_32 : Addr) (w_BITS_64 : Addr) (hS : SF Z w_BITS_32 w_BITS_64) (a1 : Addr) (k1 : ClassId) (x0 x1 x2 x3 x4 x5 : Int64) (h0 : Heap) (O0 : Ext Z.heap h0) (ga : Z.heap.size ≤ a1) (VA : Arv Z h0 a1 k1 .long (6 : Int32) [(.long x0), (.long x1), (.long x2), (.long x3), (.long x4), (.long x5)] (.long (0 : Int64))) :
    Con l Z h0 (⟨"com/example/lenkki/lenkki/PositionIndexFirstAtOrAfterPinLaw", "cx", "([JII)V"⟩ : MethodName) method_4_code 5 none ws ({ frames := 1, cells := 0, slots := 0, locals := 15 } : Room) #[(.ref a1), (.int (2 : Int32)), (.int (3 : Int32))] (fun v h L => v = none ∧ Fr Z.heap.size L ∧ Keep h0 h [a1] ∧ ∃ y z : Int64, Arv Z h a1 k1 .long (6 : Int32) [(.long x0), (.long x1), (.long y), (.long z), (.long x4), (.long x5)] (.long (0 : Int64)) ∧ U y ≤ U z ∧ (y = x2 ∧ z = x3 ∨ y = x3 ∧ z = x2)) := by
  obtain ⟨S_BITS_32, E_BITS_32, F_BITS_32_bits, S_BITS_64, E_BITS_64, F_BITS_64_bits⟩ := id hS
  refine own_con (plainFor_of_name pn_372981) ?_
  intro p e s m below meth c T0 X0 hx hby hml hown hnm hret hlk hZ e0
  have hown : s.vm.findClass "com/example/lenkki/lenkki/PositionIndexFirstAtOrAfterPinLaw" = some m.cls := hown
  have N0 := Fr.nil Z.heap.size
  have KP0 : Keep h0 h0 [a1] := Keep.refl h0 _
  refine Go.st (S' := T0.setTop (mkF m 0 #[sR a1, sI 2, sI 3, sU, sU] [])) (fun _ k => castTop (ef_rmCx2 m a1 (2 : Int32) (3 : Int32)) k) ?_
  refine Go.st (S' := T0.setTop (mkF m 1 #[sR a1, sI 2, sI 3, sU, sU] [(.ref a1)])) (fun _ k => XS.aloadN X0.here hx rfl (hb hby d1_0) rfl rfl k) ?_
  refine Go.st (S' := T0.setTop (mkF m 2 #[sR a1, sI 2, sI 3, sU, sU] [(.int (3 : Int32)), (.ref a1)])) (fun _ k => XS.iloadN X0.here hx rfl (hb hby d1_1) rfl k) ?_
  refine Go.st (S' := T0.setTop (mkF m 3 #[sR a1, sI 2, sI 3, sU, sU] [(.long x3)])) (own_ldJ X0 hx hZ e0 VA ⟨by decide, by decide⟩ rfl (g := (mkF m 2 #[sR a1, sI 2, sI 3, sU, sU] [(.int (3 : Int32)), (.ref a1)])) rfl rfl (hb hby d1_2)) ?_
  refine Go.st (S' := T0.setTop (mkF m 4 #[sR a1, sI 2, sI 3, sU, sU] [(.ref a1), (.long x3)])) (fun _ k => XS.aloadN X0.here hx rfl (hb hby d1_3) rfl rfl k) ?_
  refine Go.st (S' := T0.setTop (mkF m 5 #[sR a1, sI 2, sI 3, sU, sU] [(.int (2 : Int32)), (.ref a1), (.long x3)])) (fun _ k => XS.iloadN X0.here hx rfl (hb hby d1_4) rfl k) ?_
  refine Go.st (S' := T0.setTop (mkF m 6 #[sR a1, sI 2, sI 3, sU, sU] [(.long x2), (.long x3)])) (own_ldJ X0 hx hZ e0 VA ⟨by decide, by decide⟩ rfl (g := (mkF m 5 #[sR a1, sI 2, sI 3, sU, sU] [(.int (2 : Int32)), (.ref a1), (.long x3)])) rfl rfl (hb hby d1_5)) ?_
  obtain ⟨_, T17, L17, X17, ⟨rfl, Nq17, eq17⟩, st17⟩ := own_callS X0 hx hZ hown (ww hw 9 rfl) (ww hw 10 rfl) (ww hw 7 rfl) (ww hw 11 rfl) (by decide) e0 (rmUlt l Z a0 hw [] w_BITS_32 w_BITS_64 hS x3 x2 h0 O0) 0 (by decide) (by decide) (by decide) (by decide) (g := (mkF m 6 #[sR a1, sI 2, sI 3, sU, sU] [(.long x2), (.long x3)])) rfl (by rw [hml]; rfl) [(.long x3), (.long x2)] [] rfl (lenOf pd_212497 rfl) rfl (by show 2 * 0 + _ ≤ _; exact Nat.le_of_eq rfl) (hb hby d1_6)
  have N17 := Fr.app N0 Nq17
  refine Go.st (S' := T17.setTop (mkF m 9 #[sR a1, sI 2, sI 3, sU, sU] [(.int (bF x3 x2))])) st17 ?_
  by_cases hc9 : (bF x3 x2) = (0 : Int32)
  · refine Go.st (S' := T17.setTop (mkF m 26 #[sR a1, sI 2, sI 3, sU, sU] [])) (fun _ k => XS.ifYes X17.here hx rfl (pc0 := 9) (pc' := 26) rfl (hb hby d1_9) rfl ((if0 _ _).trans (teq hc9).1) (by decide) (by decide) k) ?_
    exact own_retV X17 hx hlk hret (hb hby d1_26) eq17 ⟨rfl, N17, KP0, _, _, VA, own_b0' hc9, Or.inl ⟨rfl, rfl⟩⟩ (by decide) (by decide)
  · refine Go.st (S' := T17.setTop (mkF m 12 #[sR a1, sI 2, sI 3, sU, sU] [])) (fun _ k => XS.ifNo X17.here hx rfl (hb hby d1_9) rfl ((if0 _ _).trans (feq hc9).1) k) ?_
    refine Go.st (S' := T17.setTop (mkF m 13 #[sR a1, sI 2, sI 3, sU, sU] [(.ref a1)])) (fun _ k => XS.aloadN X17.here hx rfl (hb hby d1_12) rfl rfl k) ?_
    refine Go.st (S' := T17.setTop (mkF m 14 #[sR a1, sI 2, sI 3, sU, sU] [(.int (2 : Int32)), (.ref a1)])) (fun _ k => XS.iloadN X17.here hx rfl (hb hby d1_13) rfl k) ?_
    refine Go.st (S' := T17.setTop (mkF m 15 #[sR a1, sI 2, sI 3, sU, sU] [(.long x2)])) (own_ldJ X17 hx hZ eq17 VA ⟨by decide, by decide⟩ rfl (g := (mkF m 14 #[sR a1, sI 2, sI 3, sU, sU] [(.int (2 : Int32)), (.ref a1)])) rfl rfl (hb hby d1_14)) ?_
    refine Go.st (S' := T17.setTop (mkF m 16 #[sR a1, sI 2, sI 3, sJ x2, sS] [])) (fun _ k => XS.lstoreN X17.here hx rfl (hb hby d1_15) rfl (l' := #[sR a1, sI 2, sI 3, sJ x2, sS]) rfl k) ?_
    refine Go.st (S' := T17.setTop (mkF m 17 #[sR a1, sI 2, sI 3, sJ x2, sS] [(.ref a1)])) (fun _ k => XS.aloadN X17.here hx rfl (hb hby d1_16) rfl rfl k) ?_
    refine Go.st (S' := T17.setTop (mkF m 18 #[sR a1, sI 2, sI 3, sJ x2, sS] [(.int (2 : Int32)), (.ref a1)])) (fun _ k => XS.iloadN X17.here hx rfl (hb hby d1_17) rfl k) ?_
    refine Go.st (S' := T17.setTop (mkF m 19 #[sR a1, sI 2, sI 3, sJ x2, sS] [(.ref a1), (.int (2 : Int32)), (.ref a1)])) (fun _ k => XS.aloadN X17.here hx rfl (hb hby d1_18) rfl rfl k) ?_
    refine Go.st (S' := T17.setTop (mkF m 20 #[sR a1, sI 2, sI 3, sJ x2, sS] [(.int (3 : Int32)), (.ref a1), (.int (2 : Int32)), (.ref a1)])) (fun _ k => XS.iloadN X17.here hx rfl (hb hby d1_19) rfl k) ?_
    refine Go.st (S' := T17.setTop (mkF m 21 #[sR a1, sI 2, sI 3, sJ x2, sS] [(.long x3), (.int (2 : Int32)), (.ref a1)])) (own_ldJ X17 hx hZ eq17 VA ⟨by decide, by decide⟩ rfl (g := (mkF m 20 #[sR a1, sI 2, sI 3, sJ x2, sS] [(.int (3 : Int32)), (.ref a1), (.int (2 : Int32)), (.ref a1)])) rfl rfl (hb hby d1_20)) ?_
    obtain ⟨T20, h20, X20, e20, W20, V20, st20⟩ := own_stJ X17 hx hZ eq17 VA (j := (2 : Int32)) ⟨by decide, by decide⟩ 2 rfl (Nat.le_of_ble_eq_true rfl) (g := (mkF m 21 #[sR a1, sI 2, sI 3, sJ x2, sS] [(.long x3), (.int (2 : Int32)), (.ref a1)])) rfl rfl (hb hby d1_21)
    have N20 := Fr.snoc X20 N17 ga
    have V20 : Arv Z h20 a1 k1 .long (6 : Int32) [(.long x0), (.long x1), (.long x3), (.long x3), (.long x4), (.long x5)] (.long (0 : Int64)) := V20
    have O20 : Ext Z.heap h20 := own_Ext.wr O0 W20 ga
    have KP20 : Keep h0 h20 [a1] := KP0.wr W20 (Or.inl (List.mem_of_getElem? (i := 0) rfl))
    refine Go.st (S' := T20.setTop (mkF m 22 #[sR a1, sI 2, sI 3, sJ x2, sS] [])) st20 ?_
    refine Go.st (S' := T20.setTop (mkF m 23 #[sR a1, sI 2, sI 3, sJ x2, sS] [(.ref a1)])) (fun _ k => XS.aloadN X20.here hx rfl (hb hby d1_22) rfl rfl k) ?_
    refine Go.st (S' := T20.setTop (mkF m 24 #[sR a1, sI 2, sI 3, sJ x2, sS] [(.int (3 : Int32)), (.ref a1)])) (fun _ k => XS.iloadN X20.here hx rfl (hb hby d1_23) rfl k) ?_
    refine Go.st (S' := T20.setTop (mkF m 25 #[sR a1, sI 2, sI 3, sJ x2, sS] [(.long x2), (.int (3 : Int32)), (.ref a1)])) (fun _ k => XS.lloadN X20.here hx rfl (hb hby d1_24) rfl k) ?_
    obtain ⟨T21, h21, X21, e21, W21, V21, st21⟩ := own_stJ X20 hx hZ e20 V20 (j := (3 : Int32)) ⟨by decide, by decide⟩ 3 rfl (Nat.le_of_ble_eq_true rfl) (g := (mkF m 25 #[sR a1, sI 2, sI 3, sJ x2, sS] [(.long x2), (.int (3 : Int32)), (.ref a1)])) rfl rfl (hb hby d1_25)
    have N21 := Fr.snoc X21 N20 ga
    have V21 : Arv Z h21 a1 k1 .long (6 : Int32) [(.long x0), (.long x1), (.long x3), (.long x2), (.long x4), (.long x5)] (.long (0 : Int64)) := V21
    have O21 : Ext Z.heap h21 := own_Ext.wr O20 W21 ga
    have KP21 : Keep h0 h21 [a1] := KP20.wr W21 (Or.inl (List.mem_of_getElem? (i := 0) rfl))
    refine Go.st (S' := T21.setTop (mkF m 26 #[sR a1, sI 2, sI 3, sJ x2, sS] [])) st21 ?_
    exact own_retV X21 hx hlk hret (hb hby d1_26) e21 ⟨rfl, N21, KP21, _, _, V21, own_b1' hc9, Or.inr ⟨rfl, rfl⟩⟩ (by decide) (by decide)
theorem ef_rmCx3 (m : MethodId) (x0 : Addr) (x1 : Int32) (x2 : Int32) : entryFrame m #[(.ref x0), (.int x1), (.int x2)] 5 = mkF m 0 #[sR x0, sI x1, sI x2, sU, sU] [] := by first | (simp [entryFrame, mkF, argsToLocals, Value.category]; done) | rfl
set_option maxRecDepth 65536 in
set_option maxHeartbeats 400000000 in
theorem rmCx3 (l : Launch) (Z : State) (a0 : Array Value) (hw : ∀ d ∈ tables_1, d.before a0 Z = true) (ws : List Jvm.Cond) (w_BITS_32 : Addr) (w_BITS_64 : Addr) (hS : SF Z w_BITS_32 w_BITS_64) (a1 : Addr) (k1 : ClassId) (x0 x1 x2 x3 x4 x5 : Int64) (h0 : Heap) (O0 : Ext Z.heap h0) (ga : Z.heap.size ≤ a1) (VA : Arv Z h0 a1 k1 .long (6 : Int32) [(.long x0), (.long x1), (.long x2), (.long x3), (.long x4), (.long x5)] (.long (0 : Int64))) :
    Con l Z h0 (⟨"com/example/lenkki/lenkki/PositionIndexFirstAtOrAfterPinLaw", "cx", "([JII)V"⟩ : MethodName) method_4_code 5 none ws ({ frames := 1, cells := 0, slots := 0, locals := 15 } : Room) #[(.ref a1), (.int (3 : Int32)), (.int (4 : Int32))] (fun v h L => v = none ∧ Fr Z.heap.size L ∧ Keep h0 h [a1] ∧ ∃ y z : Int64, Arv Z h a1 k1 .long (6 : Int32) [(.long x0), (.long x1), (.long x2), (.long y), (.long z), (.long x5)] (.long (0 : Int64)) ∧ U y ≤ U z ∧ (y = x3 ∧ z = x4 ∨ y = x4 ∧ z = x3)) := by
  obtain ⟨S_BITS_32, E_BITS_32, F_BITS_32_bits, S_BITS_64, E_BITS_64, F_BITS_64_bits⟩ := id hS
  refine own_con (plainFor_of_name pn_372981) ?_
  intro p e s m below meth c T0 X0 hx hby hml hown hnm hret hlk hZ e0
  have hown : s.vm.findClass "com/example/lenkki/lenkki/PositionIndexFirstAtOrAfterPinLaw" = some m.cls := hown
  have N0 := Fr.nil Z.heap.size
  have KP0 : Keep h0 h0 [a1] := Keep.refl h0 _
  refine Go.st (S' := T0.setTop (mkF m 0 #[sR a1, sI 3, sI 4, sU, sU] [])) (fun _ k => castTop (ef_rmCx3 m a1 (3 : Int32) (4 : Int32)) k) ?_
  refine Go.st (S' := T0.setTop (mkF m 1 #[sR a1, sI 3, sI 4, sU, sU] [(.ref a1)])) (fun _ k => XS.aloadN X0.here hx rfl (hb hby d1_0) rfl rfl k) ?_
  refine Go.st (S' := T0.setTop (mkF m 2 #[sR a1, sI 3, sI 4, sU, sU] [(.int (4 : Int32)), (.ref a1)])) (fun _ k => XS.iloadN X0.here hx rfl (hb hby d1_1) rfl k) ?_
  refine Go.st (S' := T0.setTop (mkF m 3 #[sR a1, sI 3, sI 4, sU, sU] [(.long x4)])) (own_ldJ X0 hx hZ e0 VA ⟨by decide, by decide⟩ rfl (g := (mkF m 2 #[sR a1, sI 3, sI 4, sU, sU] [(.int (4 : Int32)), (.ref a1)])) rfl rfl (hb hby d1_2)) ?_
  refine Go.st (S' := T0.setTop (mkF m 4 #[sR a1, sI 3, sI 4, sU, sU] [(.ref a1), (.long x4)])) (fun _ k => XS.aloadN X0.here hx rfl (hb hby d1_3) rfl rfl k) ?_
  refine Go.st (S' := T0.setTop (mkF m 5 #[sR a1, sI 3, sI 4, sU, sU] [(.int (3 : Int32)), (.ref a1), (.long x4)])) (fun _ k => XS.iloadN X0.here hx rfl (hb hby d1_4) rfl k) ?_
  refine Go.st (S' := T0.setTop (mkF m 6 #[sR a1, sI 3, sI 4, sU, sU] [(.long x3), (.long x4)])) (own_ldJ X0 hx hZ e0 VA ⟨by decide, by decide⟩ rfl (g := (mkF m 5 #[sR a1, sI 3, sI 4, sU, sU] [(.int (3 : Int32)), (.ref a1), (.long x4)])) rfl rfl (hb hby d1_5)) ?_
  obtain ⟨_, T24, L24, X24, ⟨rfl, Nq24, eq24⟩, st24⟩ := own_callS X0 hx hZ hown (ww hw 9 rfl) (ww hw 10 rfl) (ww hw 7 rfl) (ww hw 11 rfl) (by decide) e0 (rmUlt l Z a0 hw [] w_BITS_32 w_BITS_64 hS x4 x3 h0 O0) 0 (by decide) (by decide) (by decide) (by decide) (g := (mkF m 6 #[sR a1, sI 3, sI 4, sU, sU] [(.long x3), (.long x4)])) rfl (by rw [hml]; rfl) [(.long x4), (.long x3)] [] rfl (lenOf pd_212497 rfl) rfl (by show 2 * 0 + _ ≤ _; exact Nat.le_of_eq rfl) (hb hby d1_6)
  have N24 := Fr.app N0 Nq24
  refine Go.st (S' := T24.setTop (mkF m 9 #[sR a1, sI 3, sI 4, sU, sU] [(.int (bF x4 x3))])) st24 ?_
  by_cases hc9 : (bF x4 x3) = (0 : Int32)
  · refine Go.st (S' := T24.setTop (mkF m 26 #[sR a1, sI 3, sI 4, sU, sU] [])) (fun _ k => XS.ifYes X24.here hx rfl (pc0 := 9) (pc' := 26) rfl (hb hby d1_9) rfl ((if0 _ _).trans (teq hc9).1) (by decide) (by decide) k) ?_
    exact own_retV X24 hx hlk hret (hb hby d1_26) eq24 ⟨rfl, N24, KP0, _, _, VA, own_b0' hc9, Or.inl ⟨rfl, rfl⟩⟩ (by decide) (by decide)
  · refine Go.st (S' := T24.setTop (mkF m 12 #[sR a1, sI 3, sI 4, sU, sU] [])) (fun _ k => XS.ifNo X24.here hx rfl (hb hby d1_9) rfl ((if0 _ _).trans (feq hc9).1) k) ?_
    refine Go.st (S' := T24.setTop (mkF m 13 #[sR a1, sI 3, sI 4, sU, sU] [(.ref a1)])) (fun _ k => XS.aloadN X24.here hx rfl (hb hby d1_12) rfl rfl k) ?_
    refine Go.st (S' := T24.setTop (mkF m 14 #[sR a1, sI 3, sI 4, sU, sU] [(.int (3 : Int32)), (.ref a1)])) (fun _ k => XS.iloadN X24.here hx rfl (hb hby d1_13) rfl k) ?_
    refine Go.st (S' := T24.setTop (mkF m 15 #[sR a1, sI 3, sI 4, sU, sU] [(.long x3)])) (own_ldJ X24 hx hZ eq24 VA ⟨by decide, by decide⟩ rfl (g := (mkF m 14 #[sR a1, sI 3, sI 4, sU, sU] [(.int (3 : Int32)), (.ref a1)])) rfl rfl (hb hby d1_14)) ?_
    refine Go.st (S' := T24.setTop (mkF m 16 #[sR a1, sI 3, sI 4, sJ x3, sS] [])) (fun _ k => XS.lstoreN X24.here hx rfl (hb hby d1_15) rfl (l' := #[sR a1, sI 3, sI 4, sJ x3, sS]) rfl k) ?_
    refine Go.st (S' := T24.setTop (mkF m 17 #[sR a1, sI 3, sI 4, sJ x3, sS] [(.ref a1)])) (fun _ k => XS.aloadN X24.here hx rfl (hb hby d1_16) rfl rfl k) ?_
    refine Go.st (S' := T24.setTop (mkF m 18 #[sR a1, sI 3, sI 4, sJ x3, sS] [(.int (3 : Int32)), (.ref a1)])) (fun _ k => XS.iloadN X24.here hx rfl (hb hby d1_17) rfl k) ?_
    refine Go.st (S' := T24.setTop (mkF m 19 #[sR a1, sI 3, sI 4, sJ x3, sS] [(.ref a1), (.int (3 : Int32)), (.ref a1)])) (fun _ k => XS.aloadN X24.here hx rfl (hb hby d1_18) rfl rfl k) ?_
    refine Go.st (S' := T24.setTop (mkF m 20 #[sR a1, sI 3, sI 4, sJ x3, sS] [(.int (4 : Int32)), (.ref a1), (.int (3 : Int32)), (.ref a1)])) (fun _ k => XS.iloadN X24.here hx rfl (hb hby d1_19) rfl k) ?_
    refine Go.st (S' := T24.setTop (mkF m 21 #[sR a1, sI 3, sI 4, sJ x3, sS] [(.long x4), (.int (3 : Int32)), (.ref a1)])) (own_ldJ X24 hx hZ eq24 VA ⟨by decide, by decide⟩ rfl (g := (mkF m 20 #[sR a1, sI 3, sI 4, sJ x3, sS] [(.int (4 : Int32)), (.ref a1), (.int (3 : Int32)), (.ref a1)])) rfl rfl (hb hby d1_20)) ?_
    obtain ⟨T27, h27, X27, e27, W27, V27, st27⟩ := own_stJ X24 hx hZ eq24 VA (j := (3 : Int32)) ⟨by decide, by decide⟩ 3 rfl (Nat.le_of_ble_eq_true rfl) (g := (mkF m 21 #[sR a1, sI 3, sI 4, sJ x3, sS] [(.long x4), (.int (3 : Int32)), (.ref a1)])) rfl rfl (hb hby d1_21)
    have N27 := Fr.snoc X27 N24 ga
    have V27 : Arv Z h27 a1 k1 .long (6 : Int32) [(.long x0), (.long x1), (.long x2), (.long x4), (.long x4), (.long x5)] (.long (0 : Int64)) := V27
    have O27 : Ext Z.heap h27 := own_Ext.wr O0 W27 ga
    have KP27 : Keep h0 h27 [a1] := KP0.wr W27 (Or.inl (List.mem_of_getElem? (i := 0) rfl))
    refine Go.st (S' := T27.setTop (mkF m 22 #[sR a1, sI 3, sI 4, sJ x3, sS] [])) st27 ?_
    refine Go.st (S' := T27.setTop (mkF m 23 #[sR a1, sI 3, sI 4, sJ x3, sS] [(.ref a1)])) (fun _ k => XS.aloadN X27.here hx rfl (hb hby d1_22) rfl rfl k) ?_
    refine Go.st (S' := T27.setTop (mkF m 24 #[sR a1, sI 3, sI 4, sJ x3, sS] [(.int (4 : Int32)), (.ref a1)])) (fun _ k => XS.iloadN X27.here hx rfl (hb hby d1_23) rfl k) ?_
    refine Go.st (S' := T27.setTop (mkF m 25 #[sR a1, sI 3, sI 4, sJ x3, sS] [(.long x3), (.int (4 : Int32)), (.ref a1)])) (fun _ k => XS.lloadN X27.here hx rfl (hb hby d1_24) rfl k) ?_
    obtain ⟨T28, h28, X28, e28, W28, V28, st28⟩ := own_stJ X27 hx hZ e27 V27 (j := (4 : Int32)) ⟨by decide, by decide⟩ 4 rfl (Nat.le_of_ble_eq_true rfl) (g := (mkF m 25 #[sR a1, sI 3, sI 4, sJ x3, sS] [(.long x3), (.int (4 : Int32)), (.ref a1)])) rfl rfl (hb hby d1_25)
    have N28 := Fr.snoc X28 N27 ga
    have V28 : Arv Z h28 a1 k1 .long (6 : Int32) [(.long x0), (.long x1), (.long x2), (.long x4), (.long x3), (.long x5)] (.long (0 : Int64)) := V28
    have O28 : Ext Z.heap h28 := own_Ext.wr O27 W28 ga
    have KP28 : Keep h0 h28 [a1] := KP27.wr W28 (Or.inl (List.mem_of_getElem? (i := 0) rfl))
    refine Go.st (S' := T28.setTop (mkF m 26 #[sR a1, sI 3, sI 4, sJ x3, sS] [])) st28 ?_
    exact own_retV X28 hx hlk hret (hb hby d1_26) e28 ⟨rfl, N28, KP28, _, _, V28, own_b1' hc9, Or.inr ⟨rfl, rfl⟩⟩ (by decide) (by decide)
theorem ef_rmCx4 (m : MethodId) (x0 : Addr) (x1 : Int32) (x2 : Int32) : entryFrame m #[(.ref x0), (.int x1), (.int x2)] 5 = mkF m 0 #[sR x0, sI x1, sI x2, sU, sU] [] := by first | (simp [entryFrame, mkF, argsToLocals, Value.category]; done) | rfl
set_option maxRecDepth 65536 in
set_option maxHeartbeats 400000000 in
theorem rmCx4 (l : Launch) (Z : State) (a0 : Array Value) (hw : ∀ d ∈ tables_1, d.before a0 Z = true) (ws : List Jvm.Cond) (w_BITS_32 : Addr) (w_BITS_64 : Addr) (hS : SF Z w_BITS_32 w_BITS_64) (a1 : Addr) (k1 : ClassId) (x0 x1 x2 x3 x4 x5 : Int64) (h0 : Heap) (O0 : Ext Z.heap h0) (ga : Z.heap.size ≤ a1) (VA : Arv Z h0 a1 k1 .long (6 : Int32) [(.long x0), (.long x1), (.long x2), (.long x3), (.long x4), (.long x5)] (.long (0 : Int64))) :
    Con l Z h0 (⟨"com/example/lenkki/lenkki/PositionIndexFirstAtOrAfterPinLaw", "cx", "([JII)V"⟩ : MethodName) method_4_code 5 none ws ({ frames := 1, cells := 0, slots := 0, locals := 15 } : Room) #[(.ref a1), (.int (4 : Int32)), (.int (5 : Int32))] (fun v h L => v = none ∧ Fr Z.heap.size L ∧ Keep h0 h [a1] ∧ ∃ y z : Int64, Arv Z h a1 k1 .long (6 : Int32) [(.long x0), (.long x1), (.long x2), (.long x3), (.long y), (.long z)] (.long (0 : Int64)) ∧ U y ≤ U z ∧ (y = x4 ∧ z = x5 ∨ y = x5 ∧ z = x4)) := by
  obtain ⟨S_BITS_32, E_BITS_32, F_BITS_32_bits, S_BITS_64, E_BITS_64, F_BITS_64_bits⟩ := id hS
  refine own_con (plainFor_of_name pn_372981) ?_
  intro p e s m below meth c T0 X0 hx hby hml hown hnm hret hlk hZ e0
  have hown : s.vm.findClass "com/example/lenkki/lenkki/PositionIndexFirstAtOrAfterPinLaw" = some m.cls := hown
  have N0 := Fr.nil Z.heap.size
  have KP0 : Keep h0 h0 [a1] := Keep.refl h0 _
  refine Go.st (S' := T0.setTop (mkF m 0 #[sR a1, sI 4, sI 5, sU, sU] [])) (fun _ k => castTop (ef_rmCx4 m a1 (4 : Int32) (5 : Int32)) k) ?_
  refine Go.st (S' := T0.setTop (mkF m 1 #[sR a1, sI 4, sI 5, sU, sU] [(.ref a1)])) (fun _ k => XS.aloadN X0.here hx rfl (hb hby d1_0) rfl rfl k) ?_
  refine Go.st (S' := T0.setTop (mkF m 2 #[sR a1, sI 4, sI 5, sU, sU] [(.int (5 : Int32)), (.ref a1)])) (fun _ k => XS.iloadN X0.here hx rfl (hb hby d1_1) rfl k) ?_
  refine Go.st (S' := T0.setTop (mkF m 3 #[sR a1, sI 4, sI 5, sU, sU] [(.long x5)])) (own_ldJ X0 hx hZ e0 VA ⟨by decide, by decide⟩ rfl (g := (mkF m 2 #[sR a1, sI 4, sI 5, sU, sU] [(.int (5 : Int32)), (.ref a1)])) rfl rfl (hb hby d1_2)) ?_
  refine Go.st (S' := T0.setTop (mkF m 4 #[sR a1, sI 4, sI 5, sU, sU] [(.ref a1), (.long x5)])) (fun _ k => XS.aloadN X0.here hx rfl (hb hby d1_3) rfl rfl k) ?_
  refine Go.st (S' := T0.setTop (mkF m 5 #[sR a1, sI 4, sI 5, sU, sU] [(.int (4 : Int32)), (.ref a1), (.long x5)])) (fun _ k => XS.iloadN X0.here hx rfl (hb hby d1_4) rfl k) ?_
  refine Go.st (S' := T0.setTop (mkF m 6 #[sR a1, sI 4, sI 5, sU, sU] [(.long x4), (.long x5)])) (own_ldJ X0 hx hZ e0 VA ⟨by decide, by decide⟩ rfl (g := (mkF m 5 #[sR a1, sI 4, sI 5, sU, sU] [(.int (4 : Int32)), (.ref a1), (.long x5)])) rfl rfl (hb hby d1_5)) ?_
  obtain ⟨_, T31, L31, X31, ⟨rfl, Nq31, eq31⟩, st31⟩ := own_callS X0 hx hZ hown (ww hw 9 rfl) (ww hw 10 rfl) (ww hw 7 rfl) (ww hw 11 rfl) (by decide) e0 (rmUlt l Z a0 hw [] w_BITS_32 w_BITS_64 hS x5 x4 h0 O0) 0 (by decide) (by decide) (by decide) (by decide) (g := (mkF m 6 #[sR a1, sI 4, sI 5, sU, sU] [(.long x4), (.long x5)])) rfl (by rw [hml]; rfl) [(.long x5), (.long x4)] [] rfl (lenOf pd_212497 rfl) rfl (by show 2 * 0 + _ ≤ _; exact Nat.le_of_eq rfl) (hb hby d1_6)
  have N31 := Fr.app N0 Nq31
  refine Go.st (S' := T31.setTop (mkF m 9 #[sR a1, sI 4, sI 5, sU, sU] [(.int (bF x5 x4))])) st31 ?_
  by_cases hc9 : (bF x5 x4) = (0 : Int32)
  · refine Go.st (S' := T31.setTop (mkF m 26 #[sR a1, sI 4, sI 5, sU, sU] [])) (fun _ k => XS.ifYes X31.here hx rfl (pc0 := 9) (pc' := 26) rfl (hb hby d1_9) rfl ((if0 _ _).trans (teq hc9).1) (by decide) (by decide) k) ?_
    exact own_retV X31 hx hlk hret (hb hby d1_26) eq31 ⟨rfl, N31, KP0, _, _, VA, own_b0' hc9, Or.inl ⟨rfl, rfl⟩⟩ (by decide) (by decide)
  · refine Go.st (S' := T31.setTop (mkF m 12 #[sR a1, sI 4, sI 5, sU, sU] [])) (fun _ k => XS.ifNo X31.here hx rfl (hb hby d1_9) rfl ((if0 _ _).trans (feq hc9).1) k) ?_
    refine Go.st (S' := T31.setTop (mkF m 13 #[sR a1, sI 4, sI 5, sU, sU] [(.ref a1)])) (fun _ k => XS.aloadN X31.here hx rfl (hb hby d1_12) rfl rfl k) ?_
    refine Go.st (S' := T31.setTop (mkF m 14 #[sR a1, sI 4, sI 5, sU, sU] [(.int (4 : Int32)), (.ref a1)])) (fun _ k => XS.iloadN X31.here hx rfl (hb hby d1_13) rfl k) ?_
    refine Go.st (S' := T31.setTop (mkF m 15 #[sR a1, sI 4, sI 5, sU, sU] [(.long x4)])) (own_ldJ X31 hx hZ eq31 VA ⟨by decide, by decide⟩ rfl (g := (mkF m 14 #[sR a1, sI 4, sI 5, sU, sU] [(.int (4 : Int32)), (.ref a1)])) rfl rfl (hb hby d1_14)) ?_
    refine Go.st (S' := T31.setTop (mkF m 16 #[sR a1, sI 4, sI 5, sJ x4, sS] [])) (fun _ k => XS.lstoreN X31.here hx rfl (hb hby d1_15) rfl (l' := #[sR a1, sI 4, sI 5, sJ x4, sS]) rfl k) ?_
    refine Go.st (S' := T31.setTop (mkF m 17 #[sR a1, sI 4, sI 5, sJ x4, sS] [(.ref a1)])) (fun _ k => XS.aloadN X31.here hx rfl (hb hby d1_16) rfl rfl k) ?_
    refine Go.st (S' := T31.setTop (mkF m 18 #[sR a1, sI 4, sI 5, sJ x4, sS] [(.int (4 : Int32)), (.ref a1)])) (fun _ k => XS.iloadN X31.here hx rfl (hb hby d1_17) rfl k) ?_
    refine Go.st (S' := T31.setTop (mkF m 19 #[sR a1, sI 4, sI 5, sJ x4, sS] [(.ref a1), (.int (4 : Int32)), (.ref a1)])) (fun _ k => XS.aloadN X31.here hx rfl (hb hby d1_18) rfl rfl k) ?_
    refine Go.st (S' := T31.setTop (mkF m 20 #[sR a1, sI 4, sI 5, sJ x4, sS] [(.int (5 : Int32)), (.ref a1), (.int (4 : Int32)), (.ref a1)])) (fun _ k => XS.iloadN X31.here hx rfl (hb hby d1_19) rfl k) ?_
    refine Go.st (S' := T31.setTop (mkF m 21 #[sR a1, sI 4, sI 5, sJ x4, sS] [(.long x5), (.int (4 : Int32)), (.ref a1)])) (own_ldJ X31 hx hZ eq31 VA ⟨by decide, by decide⟩ rfl (g := (mkF m 20 #[sR a1, sI 4, sI 5, sJ x4, sS] [(.int (5 : Int32)), (.ref a1), (.int (4 : Int32)), (.ref a1)])) rfl rfl (hb hby d1_20)) ?_
    obtain ⟨T34, h34, X34, e34, W34, V34, st34⟩ := own_stJ X31 hx hZ eq31 VA (j := (4 : Int32)) ⟨by decide, by decide⟩ 4 rfl (Nat.le_of_ble_eq_true rfl) (g := (mkF m 21 #[sR a1, sI 4, sI 5, sJ x4, sS] [(.long x5), (.int (4 : Int32)), (.ref a1)])) rfl rfl (hb hby d1_21)
    have N34 := Fr.snoc X34 N31 ga
    have V34 : Arv Z h34 a1 k1 .long (6 : Int32) [(.long x0), (.long x1), (.long x2), (.long x3), (.long x5), (.long x5)] (.long (0 : Int64)) := V34
    have O34 : Ext Z.heap h34 := own_Ext.wr O0 W34 ga
    have KP34 : Keep h0 h34 [a1] := KP0.wr W34 (Or.inl (List.mem_of_getElem? (i := 0) rfl))
    refine Go.st (S' := T34.setTop (mkF m 22 #[sR a1, sI 4, sI 5, sJ x4, sS] [])) st34 ?_
    refine Go.st (S' := T34.setTop (mkF m 23 #[sR a1, sI 4, sI 5, sJ x4, sS] [(.ref a1)])) (fun _ k => XS.aloadN X34.here hx rfl (hb hby d1_22) rfl rfl k) ?_
    refine Go.st (S' := T34.setTop (mkF m 24 #[sR a1, sI 4, sI 5, sJ x4, sS] [(.int (5 : Int32)), (.ref a1)])) (fun _ k => XS.iloadN X34.here hx rfl (hb hby d1_23) rfl k) ?_
    refine Go.st (S' := T34.setTop (mkF m 25 #[sR a1, sI 4, sI 5, sJ x4, sS] [(.long x4), (.int (5 : Int32)), (.ref a1)])) (fun _ k => XS.lloadN X34.here hx rfl (hb hby d1_24) rfl k) ?_
    obtain ⟨T35, h35, X35, e35, W35, V35, st35⟩ := own_stJ X34 hx hZ e34 V34 (j := (5 : Int32)) ⟨by decide, by decide⟩ 5 rfl (Nat.le_of_ble_eq_true rfl) (g := (mkF m 25 #[sR a1, sI 4, sI 5, sJ x4, sS] [(.long x4), (.int (5 : Int32)), (.ref a1)])) rfl rfl (hb hby d1_25)
    have N35 := Fr.snoc X35 N34 ga
    have V35 : Arv Z h35 a1 k1 .long (6 : Int32) [(.long x0), (.long x1), (.long x2), (.long x3), (.long x5), (.long x4)] (.long (0 : Int64)) := V35
    have O35 : Ext Z.heap h35 := own_Ext.wr O34 W35 ga
    have KP35 : Keep h0 h35 [a1] := KP34.wr W35 (Or.inl (List.mem_of_getElem? (i := 0) rfl))
    refine Go.st (S' := T35.setTop (mkF m 26 #[sR a1, sI 4, sI 5, sJ x4, sS] [])) st35 ?_
    exact own_retV X35 hx hlk hret (hb hby d1_26) e35 ⟨rfl, N35, KP35, _, _, V35, own_b1' hc9, Or.inr ⟨rfl, rfl⟩⟩ (by decide) (by decide)
theorem d5_0 : decode jdk_29_method_65_code 0 = .ok (.iload_n 0, 1) := by decide +kernel
theorem d5_1 : decode jdk_29_method_65_code 1 = .ok (.iload_n 1, 1) := by decide +kernel
theorem d5_2 : decode jdk_29_method_65_code 2 = .ok (.if_icmp .lt 7, 3) := by decide +kernel
theorem d5_5 : decode jdk_29_method_65_code 5 = .ok (.iload_n 0, 1) := by decide +kernel
theorem d5_6 : decode jdk_29_method_65_code 6 = .ok (.goto 4, 3) := by decide +kernel
theorem d5_9 : decode jdk_29_method_65_code 9 = .ok (.iload_n 1, 1) := by decide +kernel
theorem d5_10 : decode jdk_29_method_65_code 10 = .ok (.ireturn, 1) := by decide +kernel
theorem pn_85959 {n d : String} (h : plainFor ⟨"java/lang/Math", n, d⟩ = true) : plainFor ⟨"java/lang/Math", n, d⟩ = true := h
theorem ef_rmMax (m : MethodId) (x0 : Int32) (x1 : Int32) : entryFrame m #[(.int x0), (.int x1)] 2 = mkF m 0 #[sI x0, sI x1] [] := by first | (simp [entryFrame, mkF, argsToLocals, Value.category]; done) | rfl
set_option maxRecDepth 65536 in
set_option maxHeartbeats 400000000 in
theorem rmMax (l : Launch) (Z : State) (a0 : Array Value) (hw : ∀ d ∈ tables_1, d.before a0 Z = true) (ws : List Jvm.Cond) (w_BITS_32 : Addr) (w_BITS_64 : Addr) (hS : SF Z w_BITS_32 w_BITS_64) (p1 : Int32) (p2 : Int32) (h0 : Heap) (O0 : Ext Z.heap h0)  :
    Con l Z h0 (⟨"java/lang/Math", "max", "(II)I"⟩ : MethodName) jdk_29_method_65_code 2 (some .int) ws ({ frames := 0, cells := 0, slots := 0, locals := 0 } : Room) #[(.int p1), (.int p2)] (fun v h L => v = some (.int (maxF p1 p2)) ∧ Fr Z.heap.size L ∧ h = h0) := by
  obtain ⟨S_BITS_32, E_BITS_32, F_BITS_32_bits, S_BITS_64, E_BITS_64, F_BITS_64_bits⟩ := id hS
  refine own_con (Jvm.Free.JP.mathPlain rfl (by decide +kernel)) ?_
  intro p e s m below meth c T0 X0 hx hby hml hown hnm hret hlk hZ e0
  have hown : s.vm.findClass "java/lang/Math" = some m.cls := hown
  have N0 := Fr.nil Z.heap.size
  refine Go.st (S' := T0.setTop (mkF m 0 #[sI p1, sI p2] [])) (fun _ k => castTop (ef_rmMax m p1 p2) k) ?_
  refine Go.st (S' := T0.setTop (mkF m 1 #[sI p1, sI p2] [(.int p1)])) (fun _ k => XS.iloadN X0.here hx rfl (hb hby d5_0) rfl k) ?_
  refine Go.st (S' := T0.setTop (mkF m 2 #[sI p1, sI p2] [(.int p2), (.int p1)])) (fun _ k => XS.iloadN X0.here hx rfl (hb hby d5_1) rfl k) ?_
  by_cases hc2 : p1 < p2
  · refine Go.st (S' := T0.setTop (mkF m 9 #[sI p1, sI p2] [])) (fun _ k => XS.icmpYes X0.here hx rfl (pc0 := 2) (pc' := 9) rfl (hb hby d5_2) rfl (tlt hc2).1 (by decide) (by decide) k) ?_
    refine Go.st (S' := T0.setTop (mkF m 10 #[sI p1, sI p2] [(.int p2)])) (fun _ k => XS.iloadN X0.here hx rfl (hb hby d5_9) rfl k) ?_
    exact own_retI X0 hx hlk hret (hb hby d5_10) e0 ⟨by simp only [maxF, hc2, if_true, if_false], N0, rfl⟩ (by decide) (by decide)
  · refine Go.st (S' := T0.setTop (mkF m 5 #[sI p1, sI p2] [])) (fun _ k => XS.icmpNo X0.here hx rfl (hb hby d5_2) rfl (flt hc2).1 k) ?_
    refine Go.st (S' := T0.setTop (mkF m 6 #[sI p1, sI p2] [(.int p1)])) (fun _ k => XS.iloadN X0.here hx rfl (hb hby d5_5) rfl k) ?_
    refine Go.st (S' := T0.setTop (mkF m 10 #[sI p1, sI p2] [(.int p1)])) (fun _ k => XS.goto X0.here hx rfl (pc0 := 6) (pc' := 10) rfl (hb hby d5_6) (by decide) (by decide) k) ?_
    exact own_retI X0 hx hlk hret (hb hby d5_10) e0 ⟨by simp only [maxF, hc2, if_true, if_false], N0, rfl⟩ (by decide) (by decide)
theorem d6_0 : decode jdk_33_method_47_code 0 = .ok (.iload_n 0, 1) := by decide +kernel
theorem d6_1 : decode jdk_33_method_47_code 1 = .ok (.ifCond .gt 14, 3) := by decide +kernel
theorem d6_15 : decode jdk_33_method_47_code 15 = .ok (.bipush 31, 2) := by decide +kernel
theorem d6_17 : decode jdk_33_method_47_code 17 = .ok (.istore_n 1, 1) := by decide +kernel
theorem d6_18 : decode jdk_33_method_47_code 18 = .ok (.iload_n 0, 1) := by decide +kernel
theorem d6_19 : decode jdk_33_method_47_code 19 = .ok (.ldc_w 264, 3) := by decide +kernel
theorem d6_22 : decode jdk_33_method_47_code 22 = .ok (.if_icmp .lt 11, 3) := by decide +kernel
theorem d6_33 : decode jdk_33_method_47_code 33 = .ok (.iload_n 0, 1) := by decide +kernel
theorem d6_34 : decode jdk_33_method_47_code 34 = .ok (.sipush 256, 3) := by decide +kernel
theorem d6_37 : decode jdk_33_method_47_code 37 = .ok (.if_icmp .lt 11, 3) := by decide +kernel
theorem d6_48 : decode jdk_33_method_47_code 48 = .ok (.iload_n 0, 1) := by decide +kernel
theorem d6_49 : decode jdk_33_method_47_code 49 = .ok (.bipush 16, 2) := by decide +kernel
theorem d6_51 : decode jdk_33_method_47_code 51 = .ok (.if_icmp .lt 10, 3) := by decide +kernel
theorem d6_61 : decode jdk_33_method_47_code 61 = .ok (.iload_n 0, 1) := by decide +kernel
theorem d6_62 : decode jdk_33_method_47_code 62 = .ok (.iconst 4, 1) := by decide +kernel
theorem d6_63 : decode jdk_33_method_47_code 63 = .ok (.if_icmp .lt 10, 3) := by decide +kernel
theorem d6_66 : decode jdk_33_method_47_code 66 = .ok (.iinc 1 (-2), 3) := by decide +kernel
theorem d6_69 : decode jdk_33_method_47_code 69 = .ok (.iload_n 0, 1) := by decide +kernel
theorem d6_70 : decode jdk_33_method_47_code 70 = .ok (.iconst 2, 1) := by decide +kernel
theorem d6_71 : decode jdk_33_method_47_code 71 = .ok (.iushr, 1) := by decide +kernel
theorem d6_72 : decode jdk_33_method_47_code 72 = .ok (.istore_n 0, 1) := by decide +kernel
theorem d6_73 : decode jdk_33_method_47_code 73 = .ok (.iload_n 1, 1) := by decide +kernel
theorem d6_74 : decode jdk_33_method_47_code 74 = .ok (.iload_n 0, 1) := by decide +kernel
theorem d6_75 : decode jdk_33_method_47_code 75 = .ok (.iconst 1, 1) := by decide +kernel
theorem d6_76 : decode jdk_33_method_47_code 76 = .ok (.iushr, 1) := by decide +kernel
theorem d6_77 : decode jdk_33_method_47_code 77 = .ok (.isub, 1) := by decide +kernel
theorem d6_78 : decode jdk_33_method_47_code 78 = .ok (.ireturn, 1) := by decide +kernel
theorem pn_41729 : plainName "java/lang/Integer" = true := by first | (simp [plainName, overriddenIn]; done) | decide +kernel
theorem ef_rmNlz (m : MethodId) (x0 : Int32) : entryFrame m #[(.int x0)] 2 = mkF m 0 #[sI x0, sU] [] := by first | (simp [entryFrame, mkF, argsToLocals, Value.category]; done) | rfl
set_option maxRecDepth 65536 in
set_option maxHeartbeats 400000000 in
theorem rmNlz (l : Launch) (Z : State) (a0 : Array Value) (hw : ∀ d ∈ tables_1, d.before a0 Z = true) (ws : List Jvm.Cond) (w_BITS_32 : Addr) (w_BITS_64 : Addr) (hS : SF Z w_BITS_32 w_BITS_64) (x r : Int32) (hz : x = 1 ∧ r = 31 ∨ x = 2 ∧ r = 30 ∨ x = 3 ∧ r = 30 ∨ x = 4 ∧ r = 29) (h0 : Heap) (O0 : Ext Z.heap h0)  :
    Con l Z h0 (⟨"java/lang/Integer", "numberOfLeadingZeros", "(I)I"⟩ : MethodName) jdk_33_method_47_code 2 (some .int) ws ({ frames := 0, cells := 0, slots := 0, locals := 0 } : Room) #[(.int x)] (fun v h L => v = some (.int r) ∧ Fr Z.heap.size L ∧ h = h0) := by
  obtain ⟨S_BITS_32, E_BITS_32, F_BITS_32_bits, S_BITS_64, E_BITS_64, F_BITS_64_bits⟩ := id hS
  refine own_con (plainFor_of_name pn_41729) ?_
  intro p e s m below meth c T0 X0 hx hby hml hown hnm hret hlk hZ e0
  have hown : s.vm.findClass "java/lang/Integer" = some m.cls := hown
  have N0 := Fr.nil Z.heap.size
  refine Go.st (S' := T0.setTop (mkF m 0 #[sI x, sU] [])) (fun _ k => castTop (ef_rmNlz m x) k) ?_
  rcases hz with ⟨rfl, rfl⟩ | ⟨rfl, rfl⟩ | ⟨rfl, rfl⟩ | ⟨rfl, rfl⟩
  · refine Go.st (S' := T0.setTop (mkF m 1 #[sI 1, sU] [(.int (1 : Int32))])) (fun _ k => XS.iloadN X0.here hx rfl (hb hby d6_0) rfl k) ?_
    refine Go.st (S' := T0.setTop (mkF m 15 #[sI 1, sU] [])) (fun _ k => XS.ifYes X0.here hx rfl (pc0 := 1) (pc' := 15) rfl (hb hby d6_1) rfl ((if0 _ _).trans (tlt (by decide)).2.2.1) (by decide) (by decide) k) ?_
    refine Go.st (S' := T0.setTop (mkF m 17 #[sI 1, sU] [(.int (31 : Int32))])) (fun _ k => XS.bipush X0.here hx rfl (hb hby d6_15) k) ?_
    refine Go.st (S' := T0.setTop (mkF m 18 #[sI 1, sI 31] [])) (fun _ k => XS.istoreN X0.here hx rfl (hb hby d6_17) rfl (l' := #[sI 1, sI 31]) rfl k) ?_
    refine Go.st (S' := T0.setTop (mkF m 19 #[sI 1, sI 31] [(.int (1 : Int32))])) (fun _ k => XS.iloadN X0.here hx rfl (hb hby d6_18) rfl k) ?_
    refine Go.st (S' := T0.setTop (mkF m 22 #[sI 1, sI 31] [(.int (65536 : Int32)), (.int (1 : Int32))])) (X0.ldcwInt hx hown (mvT hZ (ww hw 32 rfl)) (g := (mkF m 19 #[sI 1, sI 31] [(.int (1 : Int32))])) rfl (hb hby d6_19)) ?_
    refine Go.st (S' := T0.setTop (mkF m 33 #[sI 1, sI 31] [])) (fun _ k => XS.icmpYes X0.here hx rfl (pc0 := 22) (pc' := 33) rfl (hb hby d6_22) rfl (tlt (by decide)).1 (by decide) (by decide) k) ?_
    refine Go.st (S' := T0.setTop (mkF m 34 #[sI 1, sI 31] [(.int (1 : Int32))])) (fun _ k => XS.iloadN X0.here hx rfl (hb hby d6_33) rfl k) ?_
    refine Go.st (S' := T0.setTop (mkF m 37 #[sI 1, sI 31] [(.int (256 : Int32)), (.int (1 : Int32))])) (fun _ k => XS.sipush X0.here hx rfl (hb hby d6_34) k) ?_
    refine Go.st (S' := T0.setTop (mkF m 48 #[sI 1, sI 31] [])) (fun _ k => XS.icmpYes X0.here hx rfl (pc0 := 37) (pc' := 48) rfl (hb hby d6_37) rfl (tlt (by decide)).1 (by decide) (by decide) k) ?_
    refine Go.st (S' := T0.setTop (mkF m 49 #[sI 1, sI 31] [(.int (1 : Int32))])) (fun _ k => XS.iloadN X0.here hx rfl (hb hby d6_48) rfl k) ?_
    refine Go.st (S' := T0.setTop (mkF m 51 #[sI 1, sI 31] [(.int (16 : Int32)), (.int (1 : Int32))])) (fun _ k => XS.bipush X0.here hx rfl (hb hby d6_49) k) ?_
    refine Go.st (S' := T0.setTop (mkF m 61 #[sI 1, sI 31] [])) (fun _ k => XS.icmpYes X0.here hx rfl (pc0 := 51) (pc' := 61) rfl (hb hby d6_51) rfl (tlt (by decide)).1 (by decide) (by decide) k) ?_
    refine Go.st (S' := T0.setTop (mkF m 62 #[sI 1, sI 31] [(.int (1 : Int32))])) (fun _ k => XS.iloadN X0.here hx rfl (hb hby d6_61) rfl k) ?_
    refine Go.st (S' := T0.setTop (mkF m 63 #[sI 1, sI 31] [(.int (4 : Int32)), (.int (1 : Int32))])) (fun _ k => XS.iconst X0.here hx rfl (hb hby d6_62) k) ?_
    refine Go.st (S' := T0.setTop (mkF m 73 #[sI 1, sI 31] [])) (fun _ k => XS.icmpYes X0.here hx rfl (pc0 := 63) (pc' := 73) rfl (hb hby d6_63) rfl (tlt (by decide)).1 (by decide) (by decide) k) ?_
    refine Go.st (S' := T0.setTop (mkF m 74 #[sI 1, sI 31] [(.int (31 : Int32))])) (fun _ k => XS.iloadN X0.here hx rfl (hb hby d6_73) rfl k) ?_
    refine Go.st (S' := T0.setTop (mkF m 75 #[sI 1, sI 31] [(.int (1 : Int32)), (.int (31 : Int32))])) (fun _ k => XS.iloadN X0.here hx rfl (hb hby d6_74) rfl k) ?_
    refine Go.st (S' := T0.setTop (mkF m 76 #[sI 1, sI 31] [(.int (1 : Int32)), (.int (1 : Int32)), (.int (31 : Int32))])) (fun _ k => XS.iconst X0.here hx rfl (hb hby d6_75) k) ?_
    refine Go.st (S' := T0.setTop (mkF m 77 #[sI 1, sI 31] [(.int (((1 : Int32).toUInt32 >>> ((1 : Int32) &&& 31).toUInt32).toInt32)), (.int (31 : Int32))])) (fun _ k => XS.iushr X0.here hx rfl (hb hby d6_76) rfl k) ?_
    refine Go.st (S' := T0.setTop (mkF m 78 #[sI 1, sI 31] [(.int ((31 : Int32) - (((1 : Int32).toUInt32 >>> ((1 : Int32) &&& 31).toUInt32).toInt32)))])) (fun _ k => XS.isub X0.here hx rfl (hb hby d6_77) rfl k) ?_
    exact own_retI X0 hx hlk hret (hb hby d6_78) e0 ⟨congrArg (fun z => some (Value.int z)) (by decide), N0, rfl⟩ (by decide) (by decide)
  · refine Go.st (S' := T0.setTop (mkF m 1 #[sI 2, sU] [(.int (2 : Int32))])) (fun _ k => XS.iloadN X0.here hx rfl (hb hby d6_0) rfl k) ?_
    refine Go.st (S' := T0.setTop (mkF m 15 #[sI 2, sU] [])) (fun _ k => XS.ifYes X0.here hx rfl (pc0 := 1) (pc' := 15) rfl (hb hby d6_1) rfl ((if0 _ _).trans (tlt (by decide)).2.2.1) (by decide) (by decide) k) ?_
    refine Go.st (S' := T0.setTop (mkF m 17 #[sI 2, sU] [(.int (31 : Int32))])) (fun _ k => XS.bipush X0.here hx rfl (hb hby d6_15) k) ?_
    refine Go.st (S' := T0.setTop (mkF m 18 #[sI 2, sI 31] [])) (fun _ k => XS.istoreN X0.here hx rfl (hb hby d6_17) rfl (l' := #[sI 2, sI 31]) rfl k) ?_
    refine Go.st (S' := T0.setTop (mkF m 19 #[sI 2, sI 31] [(.int (2 : Int32))])) (fun _ k => XS.iloadN X0.here hx rfl (hb hby d6_18) rfl k) ?_
    refine Go.st (S' := T0.setTop (mkF m 22 #[sI 2, sI 31] [(.int (65536 : Int32)), (.int (2 : Int32))])) (X0.ldcwInt hx hown (mvT hZ (ww hw 32 rfl)) (g := (mkF m 19 #[sI 2, sI 31] [(.int (2 : Int32))])) rfl (hb hby d6_19)) ?_
    refine Go.st (S' := T0.setTop (mkF m 33 #[sI 2, sI 31] [])) (fun _ k => XS.icmpYes X0.here hx rfl (pc0 := 22) (pc' := 33) rfl (hb hby d6_22) rfl (tlt (by decide)).1 (by decide) (by decide) k) ?_
    refine Go.st (S' := T0.setTop (mkF m 34 #[sI 2, sI 31] [(.int (2 : Int32))])) (fun _ k => XS.iloadN X0.here hx rfl (hb hby d6_33) rfl k) ?_
    refine Go.st (S' := T0.setTop (mkF m 37 #[sI 2, sI 31] [(.int (256 : Int32)), (.int (2 : Int32))])) (fun _ k => XS.sipush X0.here hx rfl (hb hby d6_34) k) ?_
    refine Go.st (S' := T0.setTop (mkF m 48 #[sI 2, sI 31] [])) (fun _ k => XS.icmpYes X0.here hx rfl (pc0 := 37) (pc' := 48) rfl (hb hby d6_37) rfl (tlt (by decide)).1 (by decide) (by decide) k) ?_
    refine Go.st (S' := T0.setTop (mkF m 49 #[sI 2, sI 31] [(.int (2 : Int32))])) (fun _ k => XS.iloadN X0.here hx rfl (hb hby d6_48) rfl k) ?_
    refine Go.st (S' := T0.setTop (mkF m 51 #[sI 2, sI 31] [(.int (16 : Int32)), (.int (2 : Int32))])) (fun _ k => XS.bipush X0.here hx rfl (hb hby d6_49) k) ?_
    refine Go.st (S' := T0.setTop (mkF m 61 #[sI 2, sI 31] [])) (fun _ k => XS.icmpYes X0.here hx rfl (pc0 := 51) (pc' := 61) rfl (hb hby d6_51) rfl (tlt (by decide)).1 (by decide) (by decide) k) ?_
    refine Go.st (S' := T0.setTop (mkF m 62 #[sI 2, sI 31] [(.int (2 : Int32))])) (fun _ k => XS.iloadN X0.here hx rfl (hb hby d6_61) rfl k) ?_
    refine Go.st (S' := T0.setTop (mkF m 63 #[sI 2, sI 31] [(.int (4 : Int32)), (.int (2 : Int32))])) (fun _ k => XS.iconst X0.here hx rfl (hb hby d6_62) k) ?_
    refine Go.st (S' := T0.setTop (mkF m 73 #[sI 2, sI 31] [])) (fun _ k => XS.icmpYes X0.here hx rfl (pc0 := 63) (pc' := 73) rfl (hb hby d6_63) rfl (tlt (by decide)).1 (by decide) (by decide) k) ?_
    refine Go.st (S' := T0.setTop (mkF m 74 #[sI 2, sI 31] [(.int (31 : Int32))])) (fun _ k => XS.iloadN X0.here hx rfl (hb hby d6_73) rfl k) ?_
    refine Go.st (S' := T0.setTop (mkF m 75 #[sI 2, sI 31] [(.int (2 : Int32)), (.int (31 : Int32))])) (fun _ k => XS.iloadN X0.here hx rfl (hb hby d6_74) rfl k) ?_
    refine Go.st (S' := T0.setTop (mkF m 76 #[sI 2, sI 31] [(.int (1 : Int32)), (.int (2 : Int32)), (.int (31 : Int32))])) (fun _ k => XS.iconst X0.here hx rfl (hb hby d6_75) k) ?_
    refine Go.st (S' := T0.setTop (mkF m 77 #[sI 2, sI 31] [(.int (((2 : Int32).toUInt32 >>> ((1 : Int32) &&& 31).toUInt32).toInt32)), (.int (31 : Int32))])) (fun _ k => XS.iushr X0.here hx rfl (hb hby d6_76) rfl k) ?_
    refine Go.st (S' := T0.setTop (mkF m 78 #[sI 2, sI 31] [(.int ((31 : Int32) - (((2 : Int32).toUInt32 >>> ((1 : Int32) &&& 31).toUInt32).toInt32)))])) (fun _ k => XS.isub X0.here hx rfl (hb hby d6_77) rfl k) ?_
    exact own_retI X0 hx hlk hret (hb hby d6_78) e0 ⟨congrArg (fun z => some (Value.int z)) (by decide), N0, rfl⟩ (by decide) (by decide)
  · refine Go.st (S' := T0.setTop (mkF m 1 #[sI 3, sU] [(.int (3 : Int32))])) (fun _ k => XS.iloadN X0.here hx rfl (hb hby d6_0) rfl k) ?_
    refine Go.st (S' := T0.setTop (mkF m 15 #[sI 3, sU] [])) (fun _ k => XS.ifYes X0.here hx rfl (pc0 := 1) (pc' := 15) rfl (hb hby d6_1) rfl ((if0 _ _).trans (tlt (by decide)).2.2.1) (by decide) (by decide) k) ?_
    refine Go.st (S' := T0.setTop (mkF m 17 #[sI 3, sU] [(.int (31 : Int32))])) (fun _ k => XS.bipush X0.here hx rfl (hb hby d6_15) k) ?_
    refine Go.st (S' := T0.setTop (mkF m 18 #[sI 3, sI 31] [])) (fun _ k => XS.istoreN X0.here hx rfl (hb hby d6_17) rfl (l' := #[sI 3, sI 31]) rfl k) ?_
    refine Go.st (S' := T0.setTop (mkF m 19 #[sI 3, sI 31] [(.int (3 : Int32))])) (fun _ k => XS.iloadN X0.here hx rfl (hb hby d6_18) rfl k) ?_
    refine Go.st (S' := T0.setTop (mkF m 22 #[sI 3, sI 31] [(.int (65536 : Int32)), (.int (3 : Int32))])) (X0.ldcwInt hx hown (mvT hZ (ww hw 32 rfl)) (g := (mkF m 19 #[sI 3, sI 31] [(.int (3 : Int32))])) rfl (hb hby d6_19)) ?_
    refine Go.st (S' := T0.setTop (mkF m 33 #[sI 3, sI 31] [])) (fun _ k => XS.icmpYes X0.here hx rfl (pc0 := 22) (pc' := 33) rfl (hb hby d6_22) rfl (tlt (by decide)).1 (by decide) (by decide) k) ?_
    refine Go.st (S' := T0.setTop (mkF m 34 #[sI 3, sI 31] [(.int (3 : Int32))])) (fun _ k => XS.iloadN X0.here hx rfl (hb hby d6_33) rfl k) ?_
    refine Go.st (S' := T0.setTop (mkF m 37 #[sI 3, sI 31] [(.int (256 : Int32)), (.int (3 : Int32))])) (fun _ k => XS.sipush X0.here hx rfl (hb hby d6_34) k) ?_
    refine Go.st (S' := T0.setTop (mkF m 48 #[sI 3, sI 31] [])) (fun _ k => XS.icmpYes X0.here hx rfl (pc0 := 37) (pc' := 48) rfl (hb hby d6_37) rfl (tlt (by decide)).1 (by decide) (by decide) k) ?_
    refine Go.st (S' := T0.setTop (mkF m 49 #[sI 3, sI 31] [(.int (3 : Int32))])) (fun _ k => XS.iloadN X0.here hx rfl (hb hby d6_48) rfl k) ?_
    refine Go.st (S' := T0.setTop (mkF m 51 #[sI 3, sI 31] [(.int (16 : Int32)), (.int (3 : Int32))])) (fun _ k => XS.bipush X0.here hx rfl (hb hby d6_49) k) ?_
    refine Go.st (S' := T0.setTop (mkF m 61 #[sI 3, sI 31] [])) (fun _ k => XS.icmpYes X0.here hx rfl (pc0 := 51) (pc' := 61) rfl (hb hby d6_51) rfl (tlt (by decide)).1 (by decide) (by decide) k) ?_
    refine Go.st (S' := T0.setTop (mkF m 62 #[sI 3, sI 31] [(.int (3 : Int32))])) (fun _ k => XS.iloadN X0.here hx rfl (hb hby d6_61) rfl k) ?_
    refine Go.st (S' := T0.setTop (mkF m 63 #[sI 3, sI 31] [(.int (4 : Int32)), (.int (3 : Int32))])) (fun _ k => XS.iconst X0.here hx rfl (hb hby d6_62) k) ?_
    refine Go.st (S' := T0.setTop (mkF m 73 #[sI 3, sI 31] [])) (fun _ k => XS.icmpYes X0.here hx rfl (pc0 := 63) (pc' := 73) rfl (hb hby d6_63) rfl (tlt (by decide)).1 (by decide) (by decide) k) ?_
    refine Go.st (S' := T0.setTop (mkF m 74 #[sI 3, sI 31] [(.int (31 : Int32))])) (fun _ k => XS.iloadN X0.here hx rfl (hb hby d6_73) rfl k) ?_
    refine Go.st (S' := T0.setTop (mkF m 75 #[sI 3, sI 31] [(.int (3 : Int32)), (.int (31 : Int32))])) (fun _ k => XS.iloadN X0.here hx rfl (hb hby d6_74) rfl k) ?_
    refine Go.st (S' := T0.setTop (mkF m 76 #[sI 3, sI 31] [(.int (1 : Int32)), (.int (3 : Int32)), (.int (31 : Int32))])) (fun _ k => XS.iconst X0.here hx rfl (hb hby d6_75) k) ?_
    refine Go.st (S' := T0.setTop (mkF m 77 #[sI 3, sI 31] [(.int (((3 : Int32).toUInt32 >>> ((1 : Int32) &&& 31).toUInt32).toInt32)), (.int (31 : Int32))])) (fun _ k => XS.iushr X0.here hx rfl (hb hby d6_76) rfl k) ?_
    refine Go.st (S' := T0.setTop (mkF m 78 #[sI 3, sI 31] [(.int ((31 : Int32) - (((3 : Int32).toUInt32 >>> ((1 : Int32) &&& 31).toUInt32).toInt32)))])) (fun _ k => XS.isub X0.here hx rfl (hb hby d6_77) rfl k) ?_
    exact own_retI X0 hx hlk hret (hb hby d6_78) e0 ⟨congrArg (fun z => some (Value.int z)) (by decide), N0, rfl⟩ (by decide) (by decide)
  · refine Go.st (S' := T0.setTop (mkF m 1 #[sI 4, sU] [(.int (4 : Int32))])) (fun _ k => XS.iloadN X0.here hx rfl (hb hby d6_0) rfl k) ?_
    refine Go.st (S' := T0.setTop (mkF m 15 #[sI 4, sU] [])) (fun _ k => XS.ifYes X0.here hx rfl (pc0 := 1) (pc' := 15) rfl (hb hby d6_1) rfl ((if0 _ _).trans (tlt (by decide)).2.2.1) (by decide) (by decide) k) ?_
    refine Go.st (S' := T0.setTop (mkF m 17 #[sI 4, sU] [(.int (31 : Int32))])) (fun _ k => XS.bipush X0.here hx rfl (hb hby d6_15) k) ?_
    refine Go.st (S' := T0.setTop (mkF m 18 #[sI 4, sI 31] [])) (fun _ k => XS.istoreN X0.here hx rfl (hb hby d6_17) rfl (l' := #[sI 4, sI 31]) rfl k) ?_
    refine Go.st (S' := T0.setTop (mkF m 19 #[sI 4, sI 31] [(.int (4 : Int32))])) (fun _ k => XS.iloadN X0.here hx rfl (hb hby d6_18) rfl k) ?_
    refine Go.st (S' := T0.setTop (mkF m 22 #[sI 4, sI 31] [(.int (65536 : Int32)), (.int (4 : Int32))])) (X0.ldcwInt hx hown (mvT hZ (ww hw 32 rfl)) (g := (mkF m 19 #[sI 4, sI 31] [(.int (4 : Int32))])) rfl (hb hby d6_19)) ?_
    refine Go.st (S' := T0.setTop (mkF m 33 #[sI 4, sI 31] [])) (fun _ k => XS.icmpYes X0.here hx rfl (pc0 := 22) (pc' := 33) rfl (hb hby d6_22) rfl (tlt (by decide)).1 (by decide) (by decide) k) ?_
    refine Go.st (S' := T0.setTop (mkF m 34 #[sI 4, sI 31] [(.int (4 : Int32))])) (fun _ k => XS.iloadN X0.here hx rfl (hb hby d6_33) rfl k) ?_
    refine Go.st (S' := T0.setTop (mkF m 37 #[sI 4, sI 31] [(.int (256 : Int32)), (.int (4 : Int32))])) (fun _ k => XS.sipush X0.here hx rfl (hb hby d6_34) k) ?_
    refine Go.st (S' := T0.setTop (mkF m 48 #[sI 4, sI 31] [])) (fun _ k => XS.icmpYes X0.here hx rfl (pc0 := 37) (pc' := 48) rfl (hb hby d6_37) rfl (tlt (by decide)).1 (by decide) (by decide) k) ?_
    refine Go.st (S' := T0.setTop (mkF m 49 #[sI 4, sI 31] [(.int (4 : Int32))])) (fun _ k => XS.iloadN X0.here hx rfl (hb hby d6_48) rfl k) ?_
    refine Go.st (S' := T0.setTop (mkF m 51 #[sI 4, sI 31] [(.int (16 : Int32)), (.int (4 : Int32))])) (fun _ k => XS.bipush X0.here hx rfl (hb hby d6_49) k) ?_
    refine Go.st (S' := T0.setTop (mkF m 61 #[sI 4, sI 31] [])) (fun _ k => XS.icmpYes X0.here hx rfl (pc0 := 51) (pc' := 61) rfl (hb hby d6_51) rfl (tlt (by decide)).1 (by decide) (by decide) k) ?_
    refine Go.st (S' := T0.setTop (mkF m 62 #[sI 4, sI 31] [(.int (4 : Int32))])) (fun _ k => XS.iloadN X0.here hx rfl (hb hby d6_61) rfl k) ?_
    refine Go.st (S' := T0.setTop (mkF m 63 #[sI 4, sI 31] [(.int (4 : Int32)), (.int (4 : Int32))])) (fun _ k => XS.iconst X0.here hx rfl (hb hby d6_62) k) ?_
    refine Go.st (S' := T0.setTop (mkF m 66 #[sI 4, sI 31] [])) (fun _ k => XS.icmpNo X0.here hx rfl (hb hby d6_63) rfl (flt (by decide)).1 k) ?_
    refine Go.st (S' := T0.setTop (mkF m 69 #[sI 4, sI ((31 : Int32) + (-2 : Int32))] [])) (fun _ k => XS.iinc X0.here hx rfl (hb hby d6_66) rfl (l' := #[sI 4, sI ((31 : Int32) + (-2 : Int32))]) rfl k) ?_
    refine Go.st (S' := T0.setTop (mkF m 70 #[sI 4, sI ((31 : Int32) + (-2 : Int32))] [(.int (4 : Int32))])) (fun _ k => XS.iloadN X0.here hx rfl (hb hby d6_69) rfl k) ?_
    refine Go.st (S' := T0.setTop (mkF m 71 #[sI 4, sI ((31 : Int32) + (-2 : Int32))] [(.int (2 : Int32)), (.int (4 : Int32))])) (fun _ k => XS.iconst X0.here hx rfl (hb hby d6_70) k) ?_
    refine Go.st (S' := T0.setTop (mkF m 72 #[sI 4, sI ((31 : Int32) + (-2 : Int32))] [(.int (((4 : Int32).toUInt32 >>> ((2 : Int32) &&& 31).toUInt32).toInt32))])) (fun _ k => XS.iushr X0.here hx rfl (hb hby d6_71) rfl k) ?_
    refine Go.st (S' := T0.setTop (mkF m 73 #[sI (((4 : Int32).toUInt32 >>> ((2 : Int32) &&& 31).toUInt32).toInt32), sI ((31 : Int32) + (-2 : Int32))] [])) (fun _ k => XS.istoreN X0.here hx rfl (hb hby d6_72) rfl (l' := #[sI (((4 : Int32).toUInt32 >>> ((2 : Int32) &&& 31).toUInt32).toInt32), sI ((31 : Int32) + (-2 : Int32))]) rfl k) ?_
    refine Go.st (S' := T0.setTop (mkF m 74 #[sI (((4 : Int32).toUInt32 >>> ((2 : Int32) &&& 31).toUInt32).toInt32), sI ((31 : Int32) + (-2 : Int32))] [(.int ((31 : Int32) + (-2 : Int32)))])) (fun _ k => XS.iloadN X0.here hx rfl (hb hby d6_73) rfl k) ?_
    refine Go.st (S' := T0.setTop (mkF m 75 #[sI (((4 : Int32).toUInt32 >>> ((2 : Int32) &&& 31).toUInt32).toInt32), sI ((31 : Int32) + (-2 : Int32))] [(.int (((4 : Int32).toUInt32 >>> ((2 : Int32) &&& 31).toUInt32).toInt32)), (.int ((31 : Int32) + (-2 : Int32)))])) (fun _ k => XS.iloadN X0.here hx rfl (hb hby d6_74) rfl k) ?_
    refine Go.st (S' := T0.setTop (mkF m 76 #[sI (((4 : Int32).toUInt32 >>> ((2 : Int32) &&& 31).toUInt32).toInt32), sI ((31 : Int32) + (-2 : Int32))] [(.int (1 : Int32)), (.int (((4 : Int32).toUInt32 >>> ((2 : Int32) &&& 31).toUInt32).toInt32)), (.int ((31 : Int32) + (-2 : Int32)))])) (fun _ k => XS.iconst X0.here hx rfl (hb hby d6_75) k) ?_
    refine Go.st (S' := T0.setTop (mkF m 77 #[sI (((4 : Int32).toUInt32 >>> ((2 : Int32) &&& 31).toUInt32).toInt32), sI ((31 : Int32) + (-2 : Int32))] [(.int (((((4 : Int32).toUInt32 >>> ((2 : Int32) &&& 31).toUInt32).toInt32).toUInt32 >>> ((1 : Int32) &&& 31).toUInt32).toInt32)), (.int ((31 : Int32) + (-2 : Int32)))])) (fun _ k => XS.iushr X0.here hx rfl (hb hby d6_76) rfl k) ?_
    refine Go.st (S' := T0.setTop (mkF m 78 #[sI (((4 : Int32).toUInt32 >>> ((2 : Int32) &&& 31).toUInt32).toInt32), sI ((31 : Int32) + (-2 : Int32))] [(.int (((31 : Int32) + (-2 : Int32)) - (((((4 : Int32).toUInt32 >>> ((2 : Int32) &&& 31).toUInt32).toInt32).toUInt32 >>> ((1 : Int32) &&& 31).toUInt32).toInt32)))])) (fun _ k => XS.isub X0.here hx rfl (hb hby d6_77) rfl k) ?_
    exact own_retI X0 hx hlk hret (hb hby d6_78) e0 ⟨congrArg (fun z => some (Value.int z)) (by decide), N0, rfl⟩ (by decide) (by decide)
theorem d7_0 : decode prog_17_method_4_code 0 = .ok (.aload_n 0, 1) := by decide +kernel
theorem d7_1 : decode prog_17_method_4_code 1 = .ok (.getfield 29, 3) := by decide +kernel
theorem d7_4 : decode prog_17_method_4_code 4 = .ok (.ireturn, 1) := by decide +kernel
theorem pn_41515 : plainName "com/example/lenkki/lenkki/RingWidth" = true := by first | (simp [plainName, overriddenIn]; done) | decide +kernel
theorem ef_rmBits (m : MethodId) (x0 : Addr) : entryFrame m #[(.ref x0)] 1 = mkF m 0 #[sR x0] [] := by first | (simp [entryFrame, mkF, argsToLocals, Value.category]; done) | rfl
set_option maxRecDepth 65536 in
set_option maxHeartbeats 400000000 in
theorem rmBits (l : Launch) (Z : State) (a0 : Array Value) (hw : ∀ d ∈ tables_1, d.before a0 Z = true) (ws : List Jvm.Cond) (w_BITS_32 : Addr) (w_BITS_64 : Addr) (hS : SF Z w_BITS_32 w_BITS_64) (a1 : Addr) (W : Int32) (h0 : Heap) (O0 : Ext Z.heap h0) (FW : Fld Z h0 a1 "com/example/lenkki/lenkki/RingWidth" "bits" "I" (.int W)) :
    Con l Z h0 (⟨"com/example/lenkki/lenkki/RingWidth", "bits", "()I"⟩ : MethodName) prog_17_method_4_code 1 (some .int) ws ({ frames := 0, cells := 0, slots := 0, locals := 0 } : Room) #[(.ref a1)] (fun v h L => v = some (.int W) ∧ Fr Z.heap.size L ∧ h = h0) := by
  obtain ⟨S_BITS_32, E_BITS_32, F_BITS_32_bits, S_BITS_64, E_BITS_64, F_BITS_64_bits⟩ := id hS
  refine own_con (plainFor_of_name pn_41515) ?_
  intro p e s m below meth c T0 X0 hx hby hml hown hnm hret hlk hZ e0
  have hown : s.vm.findClass "com/example/lenkki/lenkki/RingWidth" = some m.cls := hown
  have N0 := Fr.nil Z.heap.size
  refine Go.st (S' := T0.setTop (mkF m 0 #[sR a1] [])) (fun _ k => castTop (ef_rmBits m a1) k) ?_
  refine Go.st (S' := T0.setTop (mkF m 1 #[sR a1] [(.ref a1)])) (fun _ k => XS.aloadN X0.here hx rfl (hb hby d7_0) rfl rfl k) ?_
  obtain ⟨T36, X36, e36, st36⟩ := getF X0 hx hZ hown (host := "") (Or.inl (ww hw 38 rfl)) Via.refl e0 FW (g := (mkF m 1 #[sR a1] [(.ref a1)])) rfl rfl (hb hby d7_1)
  refine Go.st (S' := T36.setTop (mkF m 4 #[sR a1] [(.int W)])) st36 ?_
  exact own_retI X36 hx hlk hret (hb hby d7_4) e36 ⟨rfl, N0, rfl⟩ (by decide) (by decide)
theorem own_mem (xs : List Int64) (k : Nat) (h : k < xs.length) : xs.getD k 0 ∈ xs := by
  rw [List.getD_eq_getElem?_getD, List.getElem?_eq_getElem h]; exact List.getElem_mem h
theorem own_CL0 (s : Int32) (xs : List Int64) (N : Nat) : ∀ i, (CL s xs 0 N).getD i (.int 0) = (List.replicate 5 (Value.int (0 : Int32))).getD i (.int 0) := by
  intro i
  have e : (List.replicate 5 (Value.int (0 : Int32))).getD i (.int 0) = .int 0 := by
    rw [List.getD_eq_getElem?_getD, List.getElem?_replicate]; split <;> rfl
  rw [e]
  unfold CL Cn
  rw [List.getD_eq_getElem?_getD, List.getElem?_map]
  cases (List.range (N + 1))[i]? with
  | none => rfl
  | some j => simp
theorem own_CLl (s : Int32) (xs : List Int64) (k N : Nat) : (CL s xs k N).length = N + 1 := by simp [CL]
theorem own_PLl (s : Int32) (xs : List Int64) (k N : Nat) : (PL s xs k N).length = N + 1 := by simp [PL]
theorem own_CLg (s : Int32) (xs : List Int64) (k N j : Nat) (h : j ≤ N) : (CL s xs k N).getD j (.int 0) = .int (Int32.ofNat (Cn s xs k j)) := own_getR _ _ _ _ (by omega)
theorem own_PLg (s : Int32) (xs : List Int64) (t N j : Nat) (h : j ≤ N) : (PL s xs t N).getD j (.int 0) = .int (Int32.ofNat (if j ≤ t then Pn s xs j else Cn s xs xs.length j)) := own_getR _ _ _ _ (by omega)
theorem own_nb1 {nb : Int32} {N : Nat} (hN : nb.toInt = N) (h : N ≤ 4) : (nb + (1 : Int32)).toInt = (N + 1 : Nat) := own_p1 hN (by omega)
theorem d3_0 : decode prog_9_method_1_code 0 = .ok (.aload_n 0, 1) := by decide +kernel
theorem d3_1 : decode prog_9_method_1_code 1 = .ok (.invokespecial 1, 3) := by decide +kernel
theorem d3_4 : decode prog_9_method_1_code 4 = .ok (.aload_n 0, 1) := by decide +kernel
theorem d3_5 : decode prog_9_method_1_code 5 = .ok (.aload_n 1, 1) := by decide +kernel
theorem d3_6 : decode prog_9_method_1_code 6 = .ok (.putfield 7, 3) := by decide +kernel
theorem d3_9 : decode prog_9_method_1_code 9 = .ok (.iconst 1, 1) := by decide +kernel
theorem d3_10 : decode prog_9_method_1_code 10 = .ok (.bipush 31, 2) := by decide +kernel
theorem d3_12 : decode prog_9_method_1_code 12 = .ok (.aload_n 1, 1) := by decide +kernel
theorem d3_13 : decode prog_9_method_1_code 13 = .ok (.arraylength, 1) := by decide +kernel
theorem d3_14 : decode prog_9_method_1_code 14 = .ok (.iconst 2, 1) := by decide +kernel
theorem d3_15 : decode prog_9_method_1_code 15 = .ok (.imul, 1) := by decide +kernel
theorem d3_16 : decode prog_9_method_1_code 16 = .ok (.iconst 3, 1) := by decide +kernel
theorem d3_17 : decode prog_9_method_1_code 17 = .ok (.idiv, 1) := by decide +kernel
theorem d3_18 : decode prog_9_method_1_code 18 = .ok (.iconst 1, 1) := by decide +kernel
theorem d3_19 : decode prog_9_method_1_code 19 = .ok (.invokestatic 13, 3) := by decide +kernel
theorem d3_22 : decode prog_9_method_1_code 22 = .ok (.invokestatic 19, 3) := by decide +kernel
theorem d3_25 : decode prog_9_method_1_code 25 = .ok (.isub, 1) := by decide +kernel
theorem d3_26 : decode prog_9_method_1_code 26 = .ok (.invokestatic 13, 3) := by decide +kernel
theorem d3_29 : decode prog_9_method_1_code 29 = .ok (.istore_n 3, 1) := by decide +kernel
theorem d3_30 : decode prog_9_method_1_code 30 = .ok (.aload_n 0, 1) := by decide +kernel
theorem d3_31 : decode prog_9_method_1_code 31 = .ok (.aload_n 2, 1) := by decide +kernel
theorem d3_32 : decode prog_9_method_1_code 32 = .ok (.invokevirtual 25, 3) := by decide +kernel
theorem d3_35 : decode prog_9_method_1_code 35 = .ok (.iload_n 3, 1) := by decide +kernel
theorem d3_36 : decode prog_9_method_1_code 36 = .ok (.isub, 1) := by decide +kernel
theorem d3_37 : decode prog_9_method_1_code 37 = .ok (.putfield 31, 3) := by decide +kernel
theorem d3_40 : decode prog_9_method_1_code 40 = .ok (.iconst 1, 1) := by decide +kernel
theorem d3_41 : decode prog_9_method_1_code 41 = .ok (.iload_n 3, 1) := by decide +kernel
theorem d3_42 : decode prog_9_method_1_code 42 = .ok (.ishl, 1) := by decide +kernel
theorem d3_43 : decode prog_9_method_1_code 43 = .ok (.istore 4, 2) := by decide +kernel
theorem d3_45 : decode prog_9_method_1_code 45 = .ok (.aload_n 0, 1) := by decide +kernel
theorem d3_46 : decode prog_9_method_1_code 46 = .ok (.iload 4, 2) := by decide +kernel
theorem d3_48 : decode prog_9_method_1_code 48 = .ok (.iconst 1, 1) := by decide +kernel
theorem d3_49 : decode prog_9_method_1_code 49 = .ok (.iadd, 1) := by decide +kernel
theorem d3_50 : decode prog_9_method_1_code 50 = .ok (.newarray .int, 2) := by decide +kernel
theorem d3_52 : decode prog_9_method_1_code 52 = .ok (.putfield 35, 3) := by decide +kernel
theorem d3_55 : decode prog_9_method_1_code 55 = .ok (.aload_n 1, 1) := by decide +kernel
theorem d3_56 : decode prog_9_method_1_code 56 = .ok (.astore 5, 2) := by decide +kernel
theorem d3_58 : decode prog_9_method_1_code 58 = .ok (.aload 5, 2) := by decide +kernel
theorem d3_60 : decode prog_9_method_1_code 60 = .ok (.arraylength, 1) := by decide +kernel
theorem d3_61 : decode prog_9_method_1_code 61 = .ok (.istore 6, 2) := by decide +kernel
theorem d3_63 : decode prog_9_method_1_code 63 = .ok (.iconst 0, 1) := by decide +kernel
theorem d3_64 : decode prog_9_method_1_code 64 = .ok (.istore 7, 2) := by decide +kernel
theorem d3_66 : decode prog_9_method_1_code 66 = .ok (.iload 7, 2) := by decide +kernel
theorem d3_68 : decode prog_9_method_1_code 68 = .ok (.iload 6, 2) := by decide +kernel
theorem d3_70 : decode prog_9_method_1_code 70 = .ok (.if_icmp .ge 35, 3) := by decide +kernel
theorem d3_73 : decode prog_9_method_1_code 73 = .ok (.aload 5, 2) := by decide +kernel
theorem d3_75 : decode prog_9_method_1_code 75 = .ok (.iload 7, 2) := by decide +kernel
theorem d3_77 : decode prog_9_method_1_code 77 = .ok (.laload, 1) := by decide +kernel
theorem d3_78 : decode prog_9_method_1_code 78 = .ok (.lstore 8, 2) := by decide +kernel
theorem d3_80 : decode prog_9_method_1_code 80 = .ok (.aload_n 0, 1) := by decide +kernel
theorem d3_81 : decode prog_9_method_1_code 81 = .ok (.getfield 35, 3) := by decide +kernel
theorem d3_84 : decode prog_9_method_1_code 84 = .ok (.lload 8, 2) := by decide +kernel
theorem d3_86 : decode prog_9_method_1_code 86 = .ok (.aload_n 0, 1) := by decide +kernel
theorem d3_87 : decode prog_9_method_1_code 87 = .ok (.getfield 31, 3) := by decide +kernel
theorem d3_90 : decode prog_9_method_1_code 90 = .ok (.lushr, 1) := by decide +kernel
theorem d3_91 : decode prog_9_method_1_code 91 = .ok (.l2i, 1) := by decide +kernel
theorem d3_92 : decode prog_9_method_1_code 92 = .ok (.iconst 1, 1) := by decide +kernel
theorem d3_93 : decode prog_9_method_1_code 93 = .ok (.iadd, 1) := by decide +kernel
theorem d3_94 : decode prog_9_method_1_code 94 = .ok (.dup2, 1) := by decide +kernel
theorem d3_95 : decode prog_9_method_1_code 95 = .ok (.iaload, 1) := by decide +kernel
theorem d3_96 : decode prog_9_method_1_code 96 = .ok (.iconst 1, 1) := by decide +kernel
theorem d3_97 : decode prog_9_method_1_code 97 = .ok (.iadd, 1) := by decide +kernel
theorem d3_98 : decode prog_9_method_1_code 98 = .ok (.iastore, 1) := by decide +kernel
theorem d3_99 : decode prog_9_method_1_code 99 = .ok (.iinc 7 1, 3) := by decide +kernel
theorem d3_102 : decode prog_9_method_1_code 102 = .ok (.goto (-36), 3) := by decide +kernel
theorem d3_105 : decode prog_9_method_1_code 105 = .ok (.iconst 0, 1) := by decide +kernel
theorem d3_106 : decode prog_9_method_1_code 106 = .ok (.istore 5, 2) := by decide +kernel
theorem d3_108 : decode prog_9_method_1_code 108 = .ok (.iload 5, 2) := by decide +kernel
theorem d3_110 : decode prog_9_method_1_code 110 = .ok (.iload 4, 2) := by decide +kernel
theorem d3_112 : decode prog_9_method_1_code 112 = .ok (.if_icmp .ge 28, 3) := by decide +kernel
theorem d3_115 : decode prog_9_method_1_code 115 = .ok (.aload_n 0, 1) := by decide +kernel
theorem d3_116 : decode prog_9_method_1_code 116 = .ok (.getfield 35, 3) := by decide +kernel
theorem d3_119 : decode prog_9_method_1_code 119 = .ok (.iload 5, 2) := by decide +kernel
theorem d3_121 : decode prog_9_method_1_code 121 = .ok (.iconst 1, 1) := by decide +kernel
theorem d3_122 : decode prog_9_method_1_code 122 = .ok (.iadd, 1) := by decide +kernel
theorem d3_123 : decode prog_9_method_1_code 123 = .ok (.dup2, 1) := by decide +kernel
theorem d3_124 : decode prog_9_method_1_code 124 = .ok (.iaload, 1) := by decide +kernel
theorem d3_125 : decode prog_9_method_1_code 125 = .ok (.aload_n 0, 1) := by decide +kernel
theorem d3_126 : decode prog_9_method_1_code 126 = .ok (.getfield 35, 3) := by decide +kernel
theorem d3_129 : decode prog_9_method_1_code 129 = .ok (.iload 5, 2) := by decide +kernel
theorem d3_131 : decode prog_9_method_1_code 131 = .ok (.iaload, 1) := by decide +kernel
theorem d3_132 : decode prog_9_method_1_code 132 = .ok (.iadd, 1) := by decide +kernel
theorem d3_133 : decode prog_9_method_1_code 133 = .ok (.iastore, 1) := by decide +kernel
theorem d3_134 : decode prog_9_method_1_code 134 = .ok (.iinc 5 1, 3) := by decide +kernel
theorem d3_137 : decode prog_9_method_1_code 137 = .ok (.goto (-29), 3) := by decide +kernel
theorem d3_140 : decode prog_9_method_1_code 140 = .ok (.return_, 1) := by decide +kernel
theorem pf_132122 : parseFieldDescriptor "[J" = some (.array .long) := by decide +kernel
theorem pd_947237 : parseMethodDescriptor "(II)I" = some ⟨[.int, .int], some .int⟩ := by decide +kernel
theorem pd_674828 : parseMethodDescriptor "(I)I" = some ⟨[.int], some .int⟩ := by decide +kernel
theorem pd_428473 : parseMethodDescriptor "()I" = some ⟨[], some .int⟩ := by decide +kernel
theorem sn_297842_shift_positions {Z : State} {a0 : Array Value} (hw : ∀ d ∈ tables_1, d.before a0 Z = true) : Jvm.RoadKit.slotOf Z "com/example/lenkki/lenkki/PositionIndex" "shift" "I" ≠ Jvm.RoadKit.slotOf Z "com/example/lenkki/lenkki/PositionIndex" "positions" "[J" := slot_ne (Or.inr (ww hw 41 rfl)) (Or.inr (ww hw 23 rfl)) (by decide +kernel) (t := .int) (t' := (.array .long)) (by decide +kernel) (by decide +kernel)
theorem pf_990 : parseFieldDescriptor "I" = some .int := by decide +kernel
theorem sn_297842_positions_shift {Z : State} {a0 : Array Value} (hw : ∀ d ∈ tables_1, d.before a0 Z = true) : Jvm.RoadKit.slotOf Z "com/example/lenkki/lenkki/PositionIndex" "positions" "[J" ≠ Jvm.RoadKit.slotOf Z "com/example/lenkki/lenkki/PositionIndex" "shift" "I" := slot_ne (Or.inr (ww hw 23 rfl)) (Or.inr (ww hw 41 rfl)) (by decide +kernel) (t := (.array .long)) (t' := .int) (by decide +kernel) (by decide +kernel)
theorem sn_297842_bucketStarts_positions {Z : State} {a0 : Array Value} (hw : ∀ d ∈ tables_1, d.before a0 Z = true) : Jvm.RoadKit.slotOf Z "com/example/lenkki/lenkki/PositionIndex" "bucketStarts" "[I" ≠ Jvm.RoadKit.slotOf Z "com/example/lenkki/lenkki/PositionIndex" "positions" "[J" := slot_ne (Or.inr (ww hw 44 rfl)) (Or.inr (ww hw 23 rfl)) (by decide +kernel) (t := (.array .int)) (t' := (.array .long)) (by decide +kernel) (by decide +kernel)
theorem sn_297842_bucketStarts_shift {Z : State} {a0 : Array Value} (hw : ∀ d ∈ tables_1, d.before a0 Z = true) : Jvm.RoadKit.slotOf Z "com/example/lenkki/lenkki/PositionIndex" "bucketStarts" "[I" ≠ Jvm.RoadKit.slotOf Z "com/example/lenkki/lenkki/PositionIndex" "shift" "I" := slot_ne (Or.inr (ww hw 44 rfl)) (Or.inr (ww hw 41 rfl)) (by decide +kernel) (t := (.array .int)) (t' := .int) (by decide +kernel) (by decide +kernel)
theorem pf_132121 : parseFieldDescriptor "[I" = some (.array .int) := by decide +kernel
theorem sn_297842_positions_bucketStarts {Z : State} {a0 : Array Value} (hw : ∀ d ∈ tables_1, d.before a0 Z = true) : Jvm.RoadKit.slotOf Z "com/example/lenkki/lenkki/PositionIndex" "positions" "[J" ≠ Jvm.RoadKit.slotOf Z "com/example/lenkki/lenkki/PositionIndex" "bucketStarts" "[I" := slot_ne (Or.inr (ww hw 23 rfl)) (Or.inr (ww hw 44 rfl)) (by decide +kernel) (t := (.array .long)) (t' := (.array .int)) (by decide +kernel) (by decide +kernel)
theorem sn_297842_shift_bucketStarts {Z : State} {a0 : Array Value} (hw : ∀ d ∈ tables_1, d.before a0 Z = true) : Jvm.RoadKit.slotOf Z "com/example/lenkki/lenkki/PositionIndex" "shift" "I" ≠ Jvm.RoadKit.slotOf Z "com/example/lenkki/lenkki/PositionIndex" "bucketStarts" "[I" := slot_ne (Or.inr (ww hw 41 rfl)) (Or.inr (ww hw 44 rfl)) (by decide +kernel) (t := .int) (t' := (.array .int)) (by decide +kernel) (by decide +kernel)
theorem pn_195672 : plainName "com/example/lenkki/lenkki/PositionIndex" = true := by first | (simp [plainName, overriddenIn]; done) | decide +kernel
theorem ef_rmPI (m : MethodId) (x0 : Addr) (x1 : Addr) (x2 : Addr) : entryFrame m #[(.ref x0), (.ref x1), (.ref x2)] 10 = mkF m 0 #[sR x0, sR x1, sR x2, sU, sU, sU, sU, sU, sU, sU] [] := by first | (simp [entryFrame, mkF, argsToLocals, Value.category]; done) | rfl
set_option maxRecDepth 65536 in
set_option maxHeartbeats 400000000 in
theorem rmPI (l : Launch) (Z : State) (a0 : Array Value) (hw : ∀ d ∈ tables_1, d.before a0 Z = true) (ws : List Jvm.Cond) (w_BITS_32 : Addr) (w_BITS_64 : Addr) (hS : SF Z w_BITS_32 w_BITS_64) (a1 a2 a3 : Addr) (k2 : ClassId) (n r bt W sf nb : Int32) (xs : List Int64) (N : Nat) (hn : n.toInt = xs.length) (hn6 : xs.length ≤ 6) (hz : (maxF (n * 2 / 3) 1) = 1 ∧ r = 31 ∨ (maxF (n * 2 / 3) 1) = 2 ∧ r = 30 ∨ (maxF (n * 2 / 3) 1) = 3 ∧ r = 30 ∨ (maxF (n * 2 / 3) 1) = 4 ∧ r = 29) (hbt : maxF 1 (31 - r) = bt) (hsf : W - bt = sf) (hnb : (1 <<< (bt &&& 31) : Int32) = nb) (hs : sf = 30 ∨ sf = 31 ∨ sf = 62 ∨ sf = 63) (hN : nb.toInt = N) (hN4 : N ≤ 4) (hB : ∀ x ∈ xs, B sf x < N) (h0 : Heap) (O0 : Ext Z.heap h0) (ga : Z.heap.size ≤ a1) (EA : Exa Z h0 a1 "com/example/lenkki/lenkki/PositionIndex") (F_positions : Fld Z h0 a1 "com/example/lenkki/lenkki/PositionIndex" "positions" "[J" .null) (F_bucketStarts : Fld Z h0 a1 "com/example/lenkki/lenkki/PositionIndex" "bucketStarts" "[I" .null) (F_shift : Fld Z h0 a1 "com/example/lenkki/lenkki/PositionIndex" "shift" "I" (.int (0 : Int32))) (VP : Arv Z h0 a2 k2 .long n (xs.map Value.long) (.long (0 : Int64))) (EW : Exa Z h0 a3 "com/example/lenkki/lenkki/RingWidth") (FW : Fld Z h0 a3 "com/example/lenkki/lenkki/RingWidth" "bits" "I" (.int W)) (n12 : a1 ≠ a2) (n13 : a1 ≠ a3) :
    Con l Z h0 (⟨"com/example/lenkki/lenkki/PositionIndex", "<init>", "([JLcom/example/lenkki/lenkki/RingWidth;)V"⟩ : MethodName) prog_9_method_1_code 10 none ws ({ frames := 1, cells := 1, slots := 5, locals := 30 } : Room) #[(.ref a1), (.ref a2), (.ref a3)] (fun v h L => v = none ∧ Fr Z.heap.size L ∧ Keep h0 h [a1] ∧ ∃ ba kb, h0.size ≤ ba ∧ Fld Z h a1 "com/example/lenkki/lenkki/PositionIndex" "positions" "[J" (.ref a2) ∧ Fld Z h a1 "com/example/lenkki/lenkki/PositionIndex" "shift" "I" (.int sf) ∧ Fld Z h a1 "com/example/lenkki/lenkki/PositionIndex" "bucketStarts" "[I" (.ref ba) ∧ Arv Z h a2 k2 .long n (xs.map Value.long) (.long (0 : Int64)) ∧ Arv Z h ba kb .int (nb + (1 : Int32)) (PL sf xs N N) (.int 0)) := by
  obtain ⟨S_BITS_32, E_BITS_32, F_BITS_32_bits, S_BITS_64, E_BITS_64, F_BITS_64_bits⟩ := id hS
  refine own_con (plainFor_of_name pn_195672) ?_
  intro p e s m below meth c T0 X0 hx hby hml hown hnm hret hlk hZ e0
  have hown : s.vm.findClass "com/example/lenkki/lenkki/PositionIndex" = some m.cls := hown
  have N0 := Fr.nil Z.heap.size
  have KP0 : Keep h0 h0 [a1] := Keep.refl h0 _
  refine Go.st (S' := T0.setTop (mkF m 0 #[sR a1, sR a2, sR a3, sU, sU, sU, sU, sU, sU, sU] [])) (fun _ k => castTop (ef_rmPI m a1 a2 a3) k) ?_
  refine Go.st (S' := T0.setTop (mkF m 1 #[sR a1, sR a2, sR a3, sU, sU, sU, sU, sU, sU, sU] [(.ref a1)])) (fun _ k => XS.aloadN X0.here hx rfl (hb hby d3_0) rfl rfl k) ?_
  obtain ⟨T37, X37, e37, st37⟩ := initO X0 hx hZ hown (ww hw 19 rfl) (ww hw 20 rfl) (ww hw 21 rfl) e0 (g := (mkF m 1 #[sR a1, sR a2, sR a3, sU, sU, sU, sU, sU, sU, sU] [(.ref a1)])) rfl (by rw [hml]; rfl) rfl (hb hby d3_1) (by decide) (W := 0) (by show 2 * 0 + _ ≤ _; exact Nat.le_of_eq rfl) (by decide)
  refine Go.st (S' := T37.setTop (mkF m 4 #[sR a1, sR a2, sR a3, sU, sU, sU, sU, sU, sU, sU] [])) st37 ?_
  refine Go.st (S' := T37.setTop (mkF m 5 #[sR a1, sR a2, sR a3, sU, sU, sU, sU, sU, sU, sU] [(.ref a1)])) (fun _ k => XS.aloadN X37.here hx rfl (hb hby d3_4) rfl rfl k) ?_
  refine Go.st (S' := T37.setTop (mkF m 6 #[sR a1, sR a2, sR a3, sU, sU, sU, sU, sU, sU, sU] [(.ref a2), (.ref a1)])) (fun _ k => XS.aloadN X37.here hx rfl (hb hby d3_5) rfl rfl k) ?_
  obtain ⟨T38, h38, X38, e38, W38, st38⟩ := putF X37 hx hZ hown (host := "") (Or.inl (ww hw 22 rfl)) Via.refl e37 F_positions EA (Or.inr ⟨(ww hw 23 rfl), rfl, hnm⟩) (ww hw 14 rfl) (ty := (.array .long)) pf_132122 rfl rfl (g := (mkF m 6 #[sR a1, sR a2, sR a3, sU, sU, sU, sU, sU, sU, sU] [(.ref a2), (.ref a1)])) rfl rfl (hb hby d3_6)
  have N38 := Fr.snoc X38 N0 ga
  have Fw38 := F_positions.same W38
  have O38 : Ext Z.heap h38 := own_Ext.wr O0 W38 ga
  have KP38 : Keep h0 h38 [a1] := KP0.wr W38 (Or.inl (List.mem_of_getElem? (i := 0) rfl))
  refine Go.st (S' := T38.setTop (mkF m 9 #[sR a1, sR a2, sR a3, sU, sU, sU, sU, sU, sU, sU] [])) st38 ?_
  refine Go.st (S' := T38.setTop (mkF m 10 #[sR a1, sR a2, sR a3, sU, sU, sU, sU, sU, sU, sU] [(.int (1 : Int32))])) (fun _ k => XS.iconst X38.here hx rfl (hb hby d3_9) k) ?_
  refine Go.st (S' := T38.setTop (mkF m 12 #[sR a1, sR a2, sR a3, sU, sU, sU, sU, sU, sU, sU] [(.int (31 : Int32)), (.int (1 : Int32))])) (fun _ k => XS.bipush X38.here hx rfl (hb hby d3_10) k) ?_
  refine Go.st (S' := T38.setTop (mkF m 13 #[sR a1, sR a2, sR a3, sU, sU, sU, sU, sU, sU, sU] [(.ref a2), (.int (31 : Int32)), (.int (1 : Int32))])) (fun _ k => XS.aloadN X38.here hx rfl (hb hby d3_12) rfl rfl k) ?_
  refine Go.st (S' := T38.setTop (mkF m 14 #[sR a1, sR a2, sR a3, sU, sU, sU, sU, sU, sU, sU] [(.int n), (.int (31 : Int32)), (.int (1 : Int32))])) (own_alen X38 hx hZ e38 (VP.other W38 (Ne.symm n12)) (g := (mkF m 13 #[sR a1, sR a2, sR a3, sU, sU, sU, sU, sU, sU, sU] [(.ref a2), (.int (31 : Int32)), (.int (1 : Int32))])) rfl rfl (hb hby d3_13)) ?_
  refine Go.st (S' := T38.setTop (mkF m 15 #[sR a1, sR a2, sR a3, sU, sU, sU, sU, sU, sU, sU] [(.int (2 : Int32)), (.int n), (.int (31 : Int32)), (.int (1 : Int32))])) (fun _ k => XS.iconst X38.here hx rfl (hb hby d3_14) k) ?_
  refine Go.st (S' := T38.setTop (mkF m 16 #[sR a1, sR a2, sR a3, sU, sU, sU, sU, sU, sU, sU] [(.int (n * (2 : Int32))), (.int (31 : Int32)), (.int (1 : Int32))])) (fun _ k => XS.imul X38.here hx rfl (hb hby d3_15) rfl k) ?_
  refine Go.st (S' := T38.setTop (mkF m 17 #[sR a1, sR a2, sR a3, sU, sU, sU, sU, sU, sU, sU] [(.int (3 : Int32)), (.int (n * (2 : Int32))), (.int (31 : Int32)), (.int (1 : Int32))])) (fun _ k => XS.iconst X38.here hx rfl (hb hby d3_16) k) ?_
  refine Go.st (S' := T38.setTop (mkF m 18 #[sR a1, sR a2, sR a3, sU, sU, sU, sU, sU, sU, sU] [(.int ((n * (2 : Int32)) / (3 : Int32))), (.int (31 : Int32)), (.int (1 : Int32))])) (fun _ k => XS.idiv X38.here hx rfl (hb hby d3_17) rfl (by decide) k) ?_
  refine Go.st (S' := T38.setTop (mkF m 19 #[sR a1, sR a2, sR a3, sU, sU, sU, sU, sU, sU, sU] [(.int (1 : Int32)), (.int ((n * (2 : Int32)) / (3 : Int32))), (.int (31 : Int32)), (.int (1 : Int32))])) (fun _ k => XS.iconst X38.here hx rfl (hb hby d3_18) k) ?_
  obtain ⟨_, T40, L40, X40, ⟨rfl, Nq40, eq40⟩, st40⟩ := own_callS X38 hx hZ hown (ww hw 24 rfl) (ww hw 25 rfl) (ww hw 26 rfl) (ww hw 27 rfl) (by decide) e38 (rmMax l Z a0 hw [] w_BITS_32 w_BITS_64 hS ((n * (2 : Int32)) / (3 : Int32)) (1 : Int32) h38 O38) 2 (by decide) (by decide) (by decide) (by decide) (g := (mkF m 19 #[sR a1, sR a2, sR a3, sU, sU, sU, sU, sU, sU, sU] [(.int (1 : Int32)), (.int ((n * (2 : Int32)) / (3 : Int32))), (.int (31 : Int32)), (.int (1 : Int32))])) rfl (by rw [hml]; rfl) [(.int ((n * (2 : Int32)) / (3 : Int32))), (.int (1 : Int32))] [(.int (31 : Int32)), (.int (1 : Int32))] rfl (lenOf pd_947237 rfl) rfl (by show 2 * 0 + _ ≤ _; exact Nat.le_of_eq rfl) (hb hby d3_19)
  have N40 := Fr.app N38 Nq40
  refine Go.st (S' := T40.setTop (mkF m 22 #[sR a1, sR a2, sR a3, sU, sU, sU, sU, sU, sU, sU] [(.int (maxF ((n * (2 : Int32)) / (3 : Int32)) (1 : Int32))), (.int (31 : Int32)), (.int (1 : Int32))])) st40 ?_
  obtain ⟨_, T41, L41, X41, ⟨rfl, Nq41, eq41⟩, st41⟩ := own_callS X40 hx hZ hown (ww hw 28 rfl) (ww hw 29 rfl) (ww hw 30 rfl) (ww hw 31 rfl) (by decide) eq40 (rmNlz l Z a0 hw [] w_BITS_32 w_BITS_64 hS (maxF ((n * (2 : Int32)) / (3 : Int32)) (1 : Int32)) r hz h38 O38) 2 (by decide) (by decide) (by decide) (by decide) (g := (mkF m 22 #[sR a1, sR a2, sR a3, sU, sU, sU, sU, sU, sU, sU] [(.int (maxF ((n * (2 : Int32)) / (3 : Int32)) (1 : Int32))), (.int (31 : Int32)), (.int (1 : Int32))])) rfl (by rw [hml]; rfl) [(.int (maxF ((n * (2 : Int32)) / (3 : Int32)) (1 : Int32)))] [(.int (31 : Int32)), (.int (1 : Int32))] rfl (lenOf pd_674828 rfl) rfl (by show 2 * 0 + _ ≤ _; exact Nat.le_of_eq rfl) (hb hby d3_22)
  have N41 := Fr.app N40 Nq41
  refine Go.st (S' := T41.setTop (mkF m 25 #[sR a1, sR a2, sR a3, sU, sU, sU, sU, sU, sU, sU] [(.int r), (.int (31 : Int32)), (.int (1 : Int32))])) st41 ?_
  refine Go.st (S' := T41.setTop (mkF m 26 #[sR a1, sR a2, sR a3, sU, sU, sU, sU, sU, sU, sU] [(.int ((31 : Int32) - r)), (.int (1 : Int32))])) (fun _ k => XS.isub X41.here hx rfl (hb hby d3_25) rfl k) ?_
  obtain ⟨_, T42, L42, X42, ⟨rfl, Nq42, eq42⟩, st42⟩ := own_callS X41 hx hZ hown (ww hw 24 rfl) (ww hw 25 rfl) (ww hw 26 rfl) (ww hw 27 rfl) (by decide) eq41 (rmMax l Z a0 hw [] w_BITS_32 w_BITS_64 hS (1 : Int32) ((31 : Int32) - r) h38 O38) 0 (by decide) (by decide) (by decide) (by decide) (g := (mkF m 26 #[sR a1, sR a2, sR a3, sU, sU, sU, sU, sU, sU, sU] [(.int ((31 : Int32) - r)), (.int (1 : Int32))])) rfl (by rw [hml]; rfl) [(.int (1 : Int32)), (.int ((31 : Int32) - r))] [] rfl (lenOf pd_947237 rfl) rfl (by show 2 * 0 + _ ≤ _; exact Nat.le_of_eq rfl) (hb hby d3_26)
  have N42 := Fr.app N41 Nq42
  refine Go.st (S' := T42.setTop (mkF m 29 #[sR a1, sR a2, sR a3, sU, sU, sU, sU, sU, sU, sU] [(.int (maxF (1 : Int32) ((31 : Int32) - r)))])) st42 ?_
  refine Go.st (S' := T42.setTop (mkF m 29 #[sR a1, sR a2, sR a3, sU, sU, sU, sU, sU, sU, sU] [(.int bt)])) (fun _ k => by rw [(hbt : (maxF (1 : Int32) ((31 : Int32) - r)) = bt)]; exact k) ?_
  refine Go.st (S' := T42.setTop (mkF m 30 #[sR a1, sR a2, sR a3, sI bt, sU, sU, sU, sU, sU, sU] [])) (fun _ k => XS.istoreN X42.here hx rfl (hb hby d3_29) rfl (l' := #[sR a1, sR a2, sR a3, sI bt, sU, sU, sU, sU, sU, sU]) rfl k) ?_
  refine Go.st (S' := T42.setTop (mkF m 31 #[sR a1, sR a2, sR a3, sI bt, sU, sU, sU, sU, sU, sU] [(.ref a1)])) (fun _ k => XS.aloadN X42.here hx rfl (hb hby d3_30) rfl rfl k) ?_
  refine Go.st (S' := T42.setTop (mkF m 32 #[sR a1, sR a2, sR a3, sI bt, sU, sU, sU, sU, sU, sU] [(.ref a3), (.ref a1)])) (fun _ k => XS.aloadN X42.here hx rfl (hb hby d3_31) rfl rfl k) ?_
  obtain ⟨_, T43, L43, X43, ⟨rfl, Nq43, eq43⟩, st43⟩ := own_callV X42 hx hZ hown (ww hw 33 rfl) (ww hw 34 rfl) (notFace_of_selects (args := #[]) (mvT hZ (ww hw 36 rfl))) (ww hw 36 rfl) (ww hw 35 rfl) (ww hw 1 rfl) (ww hw 37 rfl) (by decide) eq42 (EW.wr W38) (rmBits l Z a0 hw [] w_BITS_32 w_BITS_64 hS a3 W h38 O38 (FW.other W38 (Or.inl (Ne.symm n13)))) 1 (by decide) (by decide) (by decide) (by decide) (g := (mkF m 32 #[sR a1, sR a2, sR a3, sI bt, sU, sU, sU, sU, sU, sU] [(.ref a3), (.ref a1)])) rfl (by rw [hml]; rfl) [] [(.ref a1)] rfl (lenOf pd_428473 rfl) rfl (by show 2 * 0 + _ ≤ _; exact Nat.le_of_eq rfl) (hb hby d3_32)
  have N43 := Fr.app N42 Nq43
  refine Go.st (S' := T43.setTop (mkF m 35 #[sR a1, sR a2, sR a3, sI bt, sU, sU, sU, sU, sU, sU] [(.int W), (.ref a1)])) st43 ?_
  refine Go.st (S' := T43.setTop (mkF m 36 #[sR a1, sR a2, sR a3, sI bt, sU, sU, sU, sU, sU, sU] [(.int bt), (.int W), (.ref a1)])) (fun _ k => XS.iloadN X43.here hx rfl (hb hby d3_35) rfl k) ?_
  refine Go.st (S' := T43.setTop (mkF m 37 #[sR a1, sR a2, sR a3, sI bt, sU, sU, sU, sU, sU, sU] [(.int (W - bt)), (.ref a1)])) (fun _ k => XS.isub X43.here hx rfl (hb hby d3_36) rfl k) ?_
  refine Go.st (S' := T43.setTop (mkF m 37 #[sR a1, sR a2, sR a3, sI bt, sU, sU, sU, sU, sU, sU] [(.int sf), (.ref a1)])) (fun _ k => by rw [(hsf : (W - bt) = sf)]; exact k) ?_
  obtain ⟨T44, h44, X44, e44, W44, st44⟩ := putF X43 hx hZ hown (host := "") (Or.inl (ww hw 40 rfl)) Via.refl eq43 (F_shift.other W38 (Or.inr (sn_297842_shift_positions hw))) (EA.wr W38) (Or.inr ⟨(ww hw 41 rfl), rfl, hnm⟩) (ww hw 14 rfl) (ty := .int) pf_990 rfl rfl (g := (mkF m 37 #[sR a1, sR a2, sR a3, sI bt, sU, sU, sU, sU, sU, sU] [(.int sf), (.ref a1)])) rfl rfl (hb hby d3_37)
  have N44 := Fr.snoc X44 N43 ga
  have Fw44 := (F_shift.other W38 (Or.inr (sn_297842_shift_positions hw))).same W44
  have O44 : Ext Z.heap h44 := own_Ext.wr O38 W44 ga
  have KP44 : Keep h0 h44 [a1] := KP38.wr W44 (Or.inl (List.mem_of_getElem? (i := 0) rfl))
  refine Go.st (S' := T44.setTop (mkF m 40 #[sR a1, sR a2, sR a3, sI bt, sU, sU, sU, sU, sU, sU] [])) st44 ?_
  refine Go.st (S' := T44.setTop (mkF m 41 #[sR a1, sR a2, sR a3, sI bt, sU, sU, sU, sU, sU, sU] [(.int (1 : Int32))])) (fun _ k => XS.iconst X44.here hx rfl (hb hby d3_40) k) ?_
  refine Go.st (S' := T44.setTop (mkF m 42 #[sR a1, sR a2, sR a3, sI bt, sU, sU, sU, sU, sU, sU] [(.int bt), (.int (1 : Int32))])) (fun _ k => XS.iloadN X44.here hx rfl (hb hby d3_41) rfl k) ?_
  refine Go.st (S' := T44.setTop (mkF m 43 #[sR a1, sR a2, sR a3, sI bt, sU, sU, sU, sU, sU, sU] [(.int ((1 : Int32) <<< (bt &&& 31)))])) (fun _ k => XS.ishl X44.here hx rfl (hb hby d3_42) rfl k) ?_
  refine Go.st (S' := T44.setTop (mkF m 43 #[sR a1, sR a2, sR a3, sI bt, sU, sU, sU, sU, sU, sU] [(.int nb)])) (fun _ k => by rw [(hnb : ((1 : Int32) <<< (bt &&& 31)) = nb)]; exact k) ?_
  refine Go.st (S' := T44.setTop (mkF m 45 #[sR a1, sR a2, sR a3, sI bt, sI nb, sU, sU, sU, sU, sU] [])) (fun _ k => XS.istore X44.here hx rfl (hb hby d3_43) rfl (l' := #[sR a1, sR a2, sR a3, sI bt, sI nb, sU, sU, sU, sU, sU]) rfl k) ?_
  refine Go.st (S' := T44.setTop (mkF m 46 #[sR a1, sR a2, sR a3, sI bt, sI nb, sU, sU, sU, sU, sU] [(.ref a1)])) (fun _ k => XS.aloadN X44.here hx rfl (hb hby d3_45) rfl rfl k) ?_
  refine Go.st (S' := T44.setTop (mkF m 48 #[sR a1, sR a2, sR a3, sI bt, sI nb, sU, sU, sU, sU, sU] [(.int nb), (.ref a1)])) (fun _ k => XS.iload X44.here hx rfl (hb hby d3_46) rfl k) ?_
  refine Go.st (S' := T44.setTop (mkF m 49 #[sR a1, sR a2, sR a3, sI bt, sI nb, sU, sU, sU, sU, sU] [(.int (1 : Int32)), (.int nb), (.ref a1)])) (fun _ k => XS.iconst X44.here hx rfl (hb hby d3_48) k) ?_
  refine Go.st (S' := T44.setTop (mkF m 50 #[sR a1, sR a2, sR a3, sI bt, sI nb, sU, sU, sU, sU, sU] [(.int (nb + (1 : Int32))), (.ref a1)])) (fun _ k => XS.iadd X44.here hx rfl (hb hby d3_49) rfl k) ?_
  obtain ⟨T45, h45, k45, X45, e45, E45, A45, Ea45, st45⟩ := newPE X44 hx hZ (ww hw 42 rfl) e44 (g := (mkF m 50 #[sR a1, sR a2, sR a3, sI bt, sI nb, sU, sU, sU, sU, sU] [(.int (nb + (1 : Int32))), (.ref a1)])) rfl (hb hby d3_50) rfl (own_pos (by rw [own_nb1 hN hN4]; omega)) (cap := 5) (by rw [own_tn (own_nb1 hN hN4)]; omega) (by decide) (by decide) (by decide) (ad := "[I") (by decide)
  obtain ⟨b45, g45⟩ : ∃ z, z = h44.size := ⟨_, rfl⟩
  rw [← g45] at A45 Ea45 st45
  have gz45 : Z.heap.size ≤ b45 := Nat.le_trans O44.1 (Nat.le_of_eq g45.symm)
  have sz45 : h0.size ≤ b45 := Nat.le_trans KP44.1 (Nat.le_of_eq g45.symm)
  have ne_a1_b45 : a1 ≠ b45 := own_lt_ne (Fw38.other W44 (Or.inr (sn_297842_positions_shift hw))).lt g45
  have ne_a2_b45 : a2 ≠ b45 := own_lt_ne ((VP.other W38 (Ne.symm n12)).other W44 (Ne.symm n12)).lt g45
  have ne_a3_b45 : a3 ≠ b45 := own_lt_ne ((FW.other W38 (Or.inl (Ne.symm n13))).other W44 (Or.inl (Ne.symm n13))).lt g45
  have O45 : Ext Z.heap h45 := own_Ext.trans O44 E45
  have KP45 : Keep h0 h45 [a1] := KP44.ext E45
  have V45 : Arv Z h45 b45 k45 .int (nb + (1 : Int32)) (List.replicate 5 (.int (0 : Int32))) (.int (0 : Int32)) := (Arv.new A45 (own_pos (by rw [own_nb1 hN hN4]; omega))).pad (pad_rep [] (.int (0 : Int32)) 5)
  refine Go.st (S' := T45.setTop (mkF m 52 #[sR a1, sR a2, sR a3, sI bt, sI nb, sU, sU, sU, sU, sU] [(.ref b45), (.ref a1)])) st45 ?_
  obtain ⟨T46, h46, X46, e46, W46, st46⟩ := putF X45 hx hZ hown (host := "") (Or.inl (ww hw 43 rfl)) Via.refl e45 (((F_bucketStarts.other W38 (Or.inr (sn_297842_bucketStarts_positions hw))).other W44 (Or.inr (sn_297842_bucketStarts_shift hw))).ext E45) (((EA.wr W38).wr W44).ext E45) (Or.inr ⟨(ww hw 44 rfl), rfl, hnm⟩) (ww hw 14 rfl) (ty := (.array .int)) pf_132121 rfl rfl (g := (mkF m 52 #[sR a1, sR a2, sR a3, sI bt, sI nb, sU, sU, sU, sU, sU] [(.ref b45), (.ref a1)])) rfl rfl (hb hby d3_52)
  have N46 := Fr.snoc X46 N44 ga
  have Fw46 := (((F_bucketStarts.other W38 (Or.inr (sn_297842_bucketStarts_positions hw))).other W44 (Or.inr (sn_297842_bucketStarts_shift hw))).ext E45).same W46
  have O46 : Ext Z.heap h46 := own_Ext.wr O45 W46 ga
  have KP46 : Keep h0 h46 [a1] := KP45.wr W46 (Or.inl (List.mem_of_getElem? (i := 0) rfl))
  refine Go.st (S' := T46.setTop (mkF m 55 #[sR a1, sR a2, sR a3, sI bt, sI nb, sU, sU, sU, sU, sU] [])) st46 ?_
  refine Go.st (S' := T46.setTop (mkF m 56 #[sR a1, sR a2, sR a3, sI bt, sI nb, sU, sU, sU, sU, sU] [(.ref a2)])) (fun _ k => XS.aloadN X46.here hx rfl (hb hby d3_55) rfl rfl k) ?_
  refine Go.st (S' := T46.setTop (mkF m 58 #[sR a1, sR a2, sR a3, sI bt, sI nb, sR a2, sU, sU, sU, sU] [])) (fun _ k => XS.astore X46.here hx rfl (hb hby d3_56) rfl rfl (l' := #[sR a1, sR a2, sR a3, sI bt, sI nb, sR a2, sU, sU, sU, sU]) rfl k) ?_
  refine Go.st (S' := T46.setTop (mkF m 60 #[sR a1, sR a2, sR a3, sI bt, sI nb, sR a2, sU, sU, sU, sU] [(.ref a2)])) (fun _ k => XS.aload X46.here hx rfl (hb hby d3_58) rfl rfl k) ?_
  refine Go.st (S' := T46.setTop (mkF m 61 #[sR a1, sR a2, sR a3, sI bt, sI nb, sR a2, sU, sU, sU, sU] [(.int n)])) (own_alen X46 hx hZ e46 ((((VP.other W38 (Ne.symm n12)).other W44 (Ne.symm n12)).ext E45).other W46 (Ne.symm n12)) (g := (mkF m 60 #[sR a1, sR a2, sR a3, sI bt, sI nb, sR a2, sU, sU, sU, sU] [(.ref a2)])) rfl rfl (hb hby d3_60)) ?_
  refine Go.st (S' := T46.setTop (mkF m 63 #[sR a1, sR a2, sR a3, sI bt, sI nb, sR a2, sI n, sU, sU, sU] [])) (fun _ k => XS.istore X46.here hx rfl (hb hby d3_61) rfl (l' := #[sR a1, sR a2, sR a3, sI bt, sI nb, sR a2, sI n, sU, sU, sU]) rfl k) ?_
  refine Go.st (S' := T46.setTop (mkF m 64 #[sR a1, sR a2, sR a3, sI bt, sI nb, sR a2, sI n, sU, sU, sU] [(.int (0 : Int32))])) (fun _ k => XS.iconst X46.here hx rfl (hb hby d3_63) k) ?_
  refine Go.st (S' := T46.setTop (mkF m 66 #[sR a1, sR a2, sR a3, sI bt, sI nb, sR a2, sI n, sI 0, sU, sU] [])) (fun _ k => XS.istore X46.here hx rfl (hb hby d3_64) rfl (l' := #[sR a1, sR a2, sR a3, sI bt, sI nb, sR a2, sI n, sI 0, sU, sU]) rfl k) ?_
  have lp : ∀ m_ : Nat, ∀ (Tj : State) (lj : List Loc) (hj : Heap) (Xj : Stand p l e ({ frames := 1, cells := 1, slots := 5, locals := 30 } : Room) s m #[(.ref a1), (.ref a2), (.ref a3)] below meth c Tj lj 1 5) (ej : Tj.heap = hj) (Nj : Fr Z.heap.size lj) (Oj : Ext Z.heap hj) (kk : Nat) (i : Int32) (u8 u9 : Slot) (Ej : Exa Z hj a1 "com/example/lenkki/lenkki/PositionIndex") (Fpj : Fld Z hj a1 "com/example/lenkki/lenkki/PositionIndex" "positions" "[J" (.ref a2)) (Fsj : Fld Z hj a1 "com/example/lenkki/lenkki/PositionIndex" "shift" "I" (.int sf)) (Fbj : Fld Z hj a1 "com/example/lenkki/lenkki/PositionIndex" "bucketStarts" "[I" (.ref b45)) (Vpj : Arv Z hj a2 k2 .long n (xs.map Value.long) (.long (0 : Int64))) (Vbj : Arv Z hj b45 k45 .int (nb + (1 : Int32)) (CL sf xs kk N) (.int 0)) (KPj : Keep h0 hj [a1]) (hik : i.toInt = kk) (hkm : kk + m_ = xs.length) (hu : u8 = .unset ∧ u9 = .unset ∨ ∃ z, u8 = sJ z ∧ u9 = sS), Go p e below (Ret s (fun v h L => v = none ∧ Fr Z.heap.size L ∧ Keep h0 h [a1] ∧ ∃ ba kb, h0.size ≤ ba ∧ Fld Z h a1 "com/example/lenkki/lenkki/PositionIndex" "positions" "[J" (.ref a2) ∧ Fld Z h a1 "com/example/lenkki/lenkki/PositionIndex" "shift" "I" (.int sf) ∧ Fld Z h a1 "com/example/lenkki/lenkki/PositionIndex" "bucketStarts" "[I" (.ref ba) ∧ Arv Z h a2 k2 .long n (xs.map Value.long) (.long (0 : Int64)) ∧ Arv Z h ba kb .int (nb + (1 : Int32)) (PL sf xs N N) (.int 0)) ({ frames := 1, cells := 1, slots := 5, locals := 30 } : Room).cells ({ frames := 1, cells := 1, slots := 5, locals := 30 } : Room).slots) (Tj.setTop (mkF m 66 #[sR a1, sR a2, sR a3, sI bt, sI nb, sR a2, sI n, sI i, u8, u9] [])) := by
    intro m_
    induction m_ with
    | zero =>
      intro Tj lj  hj Xj ej Nj Oj  kk i u8 u9 Ej Fpj Fsj Fbj Vpj Vbj KPj hik hkm hu
      refine Go.st (S' := Tj.setTop (mkF m 68 #[sR a1, sR a2, sR a3, sI bt, sI nb, sR a2, sI n, sI i, u8, u9] [(.int i)])) (fun _ k => XS.iload Xj.here hx rfl (hb hby d3_66) rfl k) ?_
      refine Go.st (S' := Tj.setTop (mkF m 70 #[sR a1, sR a2, sR a3, sI bt, sI nb, sR a2, sI n, sI i, u8, u9] [(.int n), (.int i)])) (fun _ k => XS.iload Xj.here hx rfl (hb hby d3_68) rfl k) ?_
      refine Go.st (S' := Tj.setTop (mkF m 105 #[sR a1, sR a2, sR a3, sI bt, sI nb, sR a2, sI n, sI i, u8, u9] [])) (fun _ k => XS.icmpYes Xj.here hx rfl (pc0 := 70) (pc' := 105) rfl (hb hby d3_70) rfl (flt (fun q => absurd (Int32.lt_iff_toInt_lt.mp q) (by omega))).2.1 (by decide) (by decide) k) ?_
      refine Go.st (S' := Tj.setTop (mkF m 106 #[sR a1, sR a2, sR a3, sI bt, sI nb, sR a2, sI n, sI i, u8, u9] [(.int (0 : Int32))])) (fun _ k => XS.iconst Xj.here hx rfl (hb hby d3_105) k) ?_
      refine Go.st (S' := Tj.setTop (mkF m 108 #[sR a1, sR a2, sR a3, sI bt, sI nb, sI 0, sI n, sI i, u8, u9] [])) (fun _ k => XS.istore Xj.here hx rfl (hb hby d3_106) rfl (l' := #[sR a1, sR a2, sR a3, sI bt, sI nb, sI 0, sI n, sI i, u8, u9]) rfl k) ?_
      have l2 : ∀ m_ : Nat, ∀ (Tj : State) (lj : List Loc) (hj : Heap) (Xj : Stand p l e ({ frames := 1, cells := 1, slots := 5, locals := 30 } : Room) s m #[(.ref a1), (.ref a2), (.ref a3)] below meth c Tj lj 1 5) (ej : Tj.heap = hj) (Nj : Fr Z.heap.size lj) (Oj : Ext Z.heap hj) (t : Nat) (b : Int32) (Ej : Exa Z hj a1 "com/example/lenkki/lenkki/PositionIndex") (Fpj : Fld Z hj a1 "com/example/lenkki/lenkki/PositionIndex" "positions" "[J" (.ref a2)) (Fsj : Fld Z hj a1 "com/example/lenkki/lenkki/PositionIndex" "shift" "I" (.int sf)) (Fbj : Fld Z hj a1 "com/example/lenkki/lenkki/PositionIndex" "bucketStarts" "[I" (.ref b45)) (Vpj : Arv Z hj a2 k2 .long n (xs.map Value.long) (.long (0 : Int64))) (Vbj : Arv Z hj b45 k45 .int (nb + (1 : Int32)) (PL sf xs t N) (.int 0)) (KPj : Keep h0 hj [a1]) (hb_ : b.toInt = t) (htm : t + m_ = N), Go p e below (Ret s (fun v h L => v = none ∧ Fr Z.heap.size L ∧ Keep h0 h [a1] ∧ ∃ ba kb, h0.size ≤ ba ∧ Fld Z h a1 "com/example/lenkki/lenkki/PositionIndex" "positions" "[J" (.ref a2) ∧ Fld Z h a1 "com/example/lenkki/lenkki/PositionIndex" "shift" "I" (.int sf) ∧ Fld Z h a1 "com/example/lenkki/lenkki/PositionIndex" "bucketStarts" "[I" (.ref ba) ∧ Arv Z h a2 k2 .long n (xs.map Value.long) (.long (0 : Int64)) ∧ Arv Z h ba kb .int (nb + (1 : Int32)) (PL sf xs N N) (.int 0)) ({ frames := 1, cells := 1, slots := 5, locals := 30 } : Room).cells ({ frames := 1, cells := 1, slots := 5, locals := 30 } : Room).slots) (Tj.setTop (mkF m 108 #[sR a1, sR a2, sR a3, sI bt, sI nb, sI b, sI n, sI i, u8, u9] [])) := by
        intro m_
        induction m_ with
        | zero =>
          intro Tj lj  hj Xj ej Nj Oj  t b Ej Fpj Fsj Fbj Vpj Vbj KPj hb_ htm
          have htN : t = N := by omega
          rw [htN] at Vbj
          refine Go.st (S' := Tj.setTop (mkF m 110 #[sR a1, sR a2, sR a3, sI bt, sI nb, sI b, sI n, sI i, u8, u9] [(.int b)])) (fun _ k => XS.iload Xj.here hx rfl (hb hby d3_108) rfl k) ?_
          refine Go.st (S' := Tj.setTop (mkF m 112 #[sR a1, sR a2, sR a3, sI bt, sI nb, sI b, sI n, sI i, u8, u9] [(.int nb), (.int b)])) (fun _ k => XS.iload Xj.here hx rfl (hb hby d3_110) rfl k) ?_
          refine Go.st (S' := Tj.setTop (mkF m 140 #[sR a1, sR a2, sR a3, sI bt, sI nb, sI b, sI n, sI i, u8, u9] [])) (fun _ k => XS.icmpYes Xj.here hx rfl (pc0 := 112) (pc' := 140) rfl (hb hby d3_112) rfl (flt (fun q => absurd (Int32.lt_iff_toInt_lt.mp q) (by omega))).2.1 (by decide) (by decide) k) ?_
          exact own_retV Xj hx hlk hret (hb hby d3_140) ej ⟨rfl, Nj, KPj, _, _, sz45, Fpj, Fsj, Fbj, Vpj, Vbj⟩ (by decide) (by decide)
        | succ m_ ih =>
          intro Tj lj  hj Xj ej Nj Oj  t b Ej Fpj Fsj Fbj Vpj Vbj KPj hb_ htm
          have htl : t < N := by omega
          refine Go.st (S' := Tj.setTop (mkF m 110 #[sR a1, sR a2, sR a3, sI bt, sI nb, sI b, sI n, sI i, u8, u9] [(.int b)])) (fun _ k => XS.iload Xj.here hx rfl (hb hby d3_108) rfl k) ?_
          refine Go.st (S' := Tj.setTop (mkF m 112 #[sR a1, sR a2, sR a3, sI bt, sI nb, sI b, sI n, sI i, u8, u9] [(.int nb), (.int b)])) (fun _ k => XS.iload Xj.here hx rfl (hb hby d3_110) rfl k) ?_
          refine Go.st (S' := Tj.setTop (mkF m 115 #[sR a1, sR a2, sR a3, sI bt, sI nb, sI b, sI n, sI i, u8, u9] [])) (fun _ k => XS.icmpNo Xj.here hx rfl (hb hby d3_112) rfl (tlt (Int32.lt_iff_toInt_lt.mpr (by omega))).2.1 k) ?_
          refine Go.st (S' := Tj.setTop (mkF m 116 #[sR a1, sR a2, sR a3, sI bt, sI nb, sI b, sI n, sI i, u8, u9] [(.ref a1)])) (fun _ k => XS.aloadN Xj.here hx rfl (hb hby d3_115) rfl rfl k) ?_
          obtain ⟨T48, X48, e48, st48⟩ := getF Xj hx hZ hown (host := "") (Or.inl (ww hw 43 rfl)) Via.refl ej Fbj (g := (mkF m 116 #[sR a1, sR a2, sR a3, sI bt, sI nb, sI b, sI n, sI i, u8, u9] [(.ref a1)])) rfl rfl (hb hby d3_116)
          refine Go.st (S' := T48.setTop (mkF m 119 #[sR a1, sR a2, sR a3, sI bt, sI nb, sI b, sI n, sI i, u8, u9] [(.ref b45)])) st48 ?_
          refine Go.st (S' := T48.setTop (mkF m 121 #[sR a1, sR a2, sR a3, sI bt, sI nb, sI b, sI n, sI i, u8, u9] [(.int b), (.ref b45)])) (fun _ k => XS.iload X48.here hx rfl (hb hby d3_119) rfl k) ?_
          refine Go.st (S' := T48.setTop (mkF m 122 #[sR a1, sR a2, sR a3, sI bt, sI nb, sI b, sI n, sI i, u8, u9] [(.int (1 : Int32)), (.int b), (.ref b45)])) (fun _ k => XS.iconst X48.here hx rfl (hb hby d3_121) k) ?_
          refine Go.st (S' := T48.setTop (mkF m 123 #[sR a1, sR a2, sR a3, sI bt, sI nb, sI b, sI n, sI i, u8, u9] [(.int (b + (1 : Int32))), (.ref b45)])) (fun _ k => XS.iadd X48.here hx rfl (hb hby d3_122) rfl k) ?_
          refine Go.st (S' := T48.setTop (mkF m 124 #[sR a1, sR a2, sR a3, sI bt, sI nb, sI b, sI n, sI i, u8, u9] [(.int (b + (1 : Int32))), (.ref b45), (.int (b + (1 : Int32))), (.ref b45)])) (fun _ k => XT.dup2 X48.here hx rfl (hb hby d3_123) rfl rfl rfl k) ?_
          refine Go.st (S' := T48.setTop (mkF m 125 #[sR a1, sR a2, sR a3, sI bt, sI nb, sI b, sI n, sI i, u8, u9] [(.int (Int32.ofNat (Cn sf xs xs.length (t + 1)))), (.int (b + (1 : Int32))), (.ref b45)])) (own_ldI X48 hx hZ e48 Vbj (own_bd (by rw [own_p1 hb_ (by omega)]; omega) (by rw [own_p1 hb_ (by omega), own_nb1 hN hN4]; omega)) (by rw [own_tn (own_p1 hb_ (by omega)), own_PLg _ _ _ _ _ (by omega), if_neg (by omega)]) (g := (mkF m 124 #[sR a1, sR a2, sR a3, sI bt, sI nb, sI b, sI n, sI i, u8, u9] [(.int (b + (1 : Int32))), (.ref b45), (.int (b + (1 : Int32))), (.ref b45)])) rfl rfl (hb hby d3_124)) ?_
          refine Go.st (S' := T48.setTop (mkF m 126 #[sR a1, sR a2, sR a3, sI bt, sI nb, sI b, sI n, sI i, u8, u9] [(.ref a1), (.int (Int32.ofNat (Cn sf xs xs.length (t + 1)))), (.int (b + (1 : Int32))), (.ref b45)])) (fun _ k => XS.aloadN X48.here hx rfl (hb hby d3_125) rfl rfl k) ?_
          obtain ⟨T50, X50, e50, st50⟩ := getF X48 hx hZ hown (host := "") (Or.inl (ww hw 43 rfl)) Via.refl e48 Fbj (g := (mkF m 126 #[sR a1, sR a2, sR a3, sI bt, sI nb, sI b, sI n, sI i, u8, u9] [(.ref a1), (.int (Int32.ofNat (Cn sf xs xs.length (t + 1)))), (.int (b + (1 : Int32))), (.ref b45)])) rfl rfl (hb hby d3_126)
          refine Go.st (S' := T50.setTop (mkF m 129 #[sR a1, sR a2, sR a3, sI bt, sI nb, sI b, sI n, sI i, u8, u9] [(.ref b45), (.int (Int32.ofNat (Cn sf xs xs.length (t + 1)))), (.int (b + (1 : Int32))), (.ref b45)])) st50 ?_
          refine Go.st (S' := T50.setTop (mkF m 131 #[sR a1, sR a2, sR a3, sI bt, sI nb, sI b, sI n, sI i, u8, u9] [(.int b), (.ref b45), (.int (Int32.ofNat (Cn sf xs xs.length (t + 1)))), (.int (b + (1 : Int32))), (.ref b45)])) (fun _ k => XS.iload X50.here hx rfl (hb hby d3_129) rfl k) ?_
          refine Go.st (S' := T50.setTop (mkF m 132 #[sR a1, sR a2, sR a3, sI bt, sI nb, sI b, sI n, sI i, u8, u9] [(.int (Int32.ofNat (Pn sf xs t))), (.int (Int32.ofNat (Cn sf xs xs.length (t + 1)))), (.int (b + (1 : Int32))), (.ref b45)])) (own_ldI X50 hx hZ e50 Vbj (own_bd (by omega) (by rw [own_nb1 hN hN4]; omega)) (by rw [own_tn hb_, own_PLg _ _ _ _ _ (by omega), if_pos (Nat.le_refl _)]) (g := (mkF m 131 #[sR a1, sR a2, sR a3, sI bt, sI nb, sI b, sI n, sI i, u8, u9] [(.int b), (.ref b45), (.int (Int32.ofNat (Cn sf xs xs.length (t + 1)))), (.int (b + (1 : Int32))), (.ref b45)])) rfl rfl (hb hby d3_131)) ?_
          refine Go.st (S' := T50.setTop (mkF m 133 #[sR a1, sR a2, sR a3, sI bt, sI nb, sI b, sI n, sI i, u8, u9] [(.int ((Int32.ofNat (Cn sf xs xs.length (t + 1))) + (Int32.ofNat (Pn sf xs t)))), (.int (b + (1 : Int32))), (.ref b45)])) (fun _ k => XS.iadd X50.here hx rfl (hb hby d3_132) rfl k) ?_
          obtain ⟨T52, h52, X52, e52, W52, V52, st52⟩ := own_stI X50 hx hZ e50 Vbj (j := (b + (1 : Int32))) (own_bd (by rw [own_p1 hb_ (by omega)]; omega) (by rw [own_p1 hb_ (by omega), own_nb1 hN hN4]; omega)) (t + 1) (own_tn (own_p1 hb_ (by omega))) (by rw [own_PLl]; omega) (g := (mkF m 133 #[sR a1, sR a2, sR a3, sI bt, sI nb, sI b, sI n, sI i, u8, u9] [(.int ((Int32.ofNat (Cn sf xs xs.length (t + 1))) + (Int32.ofNat (Pn sf xs t)))), (.int (b + (1 : Int32))), (.ref b45)])) rfl rfl (hb hby d3_133)
          have N52 := Fr.snoc X52 Nj gz45
          have O52 : Ext Z.heap h52 := own_Ext.wr Oj W52 gz45
          have KP52 : Keep h0 h52 [a1] := KPj.wr W52 (Or.inr sz45)
          refine Go.st (S' := T52.setTop (mkF m 134 #[sR a1, sR a2, sR a3, sI bt, sI nb, sI b, sI n, sI i, u8, u9] [])) st52 ?_
          have VN53 : Arv Z h52 b45 k45 .int (nb + (1 : Int32)) (PL sf xs (t + 1) N) (.int 0) := by rw [← own_PLset sf xs t N]; exact V52
          refine Go.st (S' := T52.setTop (mkF m 137 #[sR a1, sR a2, sR a3, sI bt, sI nb, sI (b + (1 : Int32)), sI n, sI i, u8, u9] [])) (fun _ k => XS.iinc X52.here hx rfl (hb hby d3_134) rfl (l' := #[sR a1, sR a2, sR a3, sI bt, sI nb, sI (b + (1 : Int32)), sI n, sI i, u8, u9]) rfl k) ?_
          refine Go.st (S' := T52.setTop (mkF m 108 #[sR a1, sR a2, sR a3, sI bt, sI nb, sI (b + (1 : Int32)), sI n, sI i, u8, u9] [])) (fun _ k => XS.goto X52.here hx rfl (pc0 := 137) (pc' := 108) rfl (hb hby d3_137) (by decide) (by decide) k) ?_
          exact ih  _ _ _ X52 e52 N52 O52  _ _ (Ej.wr W52) (Fpj.other W52 (Or.inl ne_a1_b45)) (Fsj.other W52 (Or.inl ne_a1_b45)) (Fbj.other W52 (Or.inl ne_a1_b45)) (Vpj.other W52 ne_a2_b45) VN53 KP52 (own_p1 hb_ (by omega)) (by omega)
      have hkx : kk = xs.length := by omega
      have V1 : Arv Z hj b45 k45 .int (nb + (1 : Int32)) (PL sf xs 0 N) (.int 0) := by rw [← own_CP0, ← hkx]; exact Vbj
      exact l2 N _ _ _ Xj ej Nj Oj  0 _ Ej Fpj Fsj Fbj Vpj V1 KPj (by decide) (by omega)
    | succ m_ ih =>
      intro Tj lj  hj Xj ej Nj Oj  kk i u8 u9 Ej Fpj Fsj Fbj Vpj Vbj KPj hik hkm hu
      have hkl : kk < xs.length := by omega
      have hbk := hB _ (own_mem xs kk hkl)
      refine Go.st (S' := Tj.setTop (mkF m 68 #[sR a1, sR a2, sR a3, sI bt, sI nb, sR a2, sI n, sI i, u8, u9] [(.int i)])) (fun _ k => XS.iload Xj.here hx rfl (hb hby d3_66) rfl k) ?_
      refine Go.st (S' := Tj.setTop (mkF m 70 #[sR a1, sR a2, sR a3, sI bt, sI nb, sR a2, sI n, sI i, u8, u9] [(.int n), (.int i)])) (fun _ k => XS.iload Xj.here hx rfl (hb hby d3_68) rfl k) ?_
      refine Go.st (S' := Tj.setTop (mkF m 73 #[sR a1, sR a2, sR a3, sI bt, sI nb, sR a2, sI n, sI i, u8, u9] [])) (fun _ k => XS.icmpNo Xj.here hx rfl (hb hby d3_70) rfl (tlt (Int32.lt_iff_toInt_lt.mpr (by omega))).2.1 k) ?_
      rcases hu with ⟨rfl, rfl⟩ | ⟨pz, rfl, rfl⟩
      · refine Go.st (S' := Tj.setTop (mkF m 75 #[sR a1, sR a2, sR a3, sI bt, sI nb, sR a2, sI n, sI i, sU, sU] [(.ref a2)])) (fun _ k => XS.aload Xj.here hx rfl (hb hby d3_73) rfl rfl k) ?_
        refine Go.st (S' := Tj.setTop (mkF m 77 #[sR a1, sR a2, sR a3, sI bt, sI nb, sR a2, sI n, sI i, sU, sU] [(.int i), (.ref a2)])) (fun _ k => XS.iload Xj.here hx rfl (hb hby d3_75) rfl k) ?_
        refine Go.st (S' := Tj.setTop (mkF m 78 #[sR a1, sR a2, sR a3, sI bt, sI nb, sR a2, sI n, sI i, sU, sU] [(.long (xs.getD i.toNatClampNeg 0))])) (own_ldJ Xj hx hZ ej Vpj (own_bd (by omega) (by omega)) (own_getJ xs _) (g := (mkF m 77 #[sR a1, sR a2, sR a3, sI bt, sI nb, sR a2, sI n, sI i, sU, sU] [(.int i), (.ref a2)])) rfl rfl (hb hby d3_77)) ?_
        refine Go.st (S' := Tj.setTop (mkF m 78 #[sR a1, sR a2, sR a3, sI bt, sI nb, sR a2, sI n, sI i, sU, sU] [(.long (xs.getD kk 0))])) (fun _ k => by rw [(by rw [own_tn hik] : (xs.getD i.toNatClampNeg 0) = (xs.getD kk 0))]; exact k) ?_
        refine Go.st (S' := Tj.setTop (mkF m 80 #[sR a1, sR a2, sR a3, sI bt, sI nb, sR a2, sI n, sI i, sJ (xs.getD kk 0), sS] [])) (fun _ k => XS.lstore Xj.here hx rfl (hb hby d3_78) rfl (l' := #[sR a1, sR a2, sR a3, sI bt, sI nb, sR a2, sI n, sI i, sJ (xs.getD kk 0), sS]) rfl k) ?_
        refine Go.st (S' := Tj.setTop (mkF m 81 #[sR a1, sR a2, sR a3, sI bt, sI nb, sR a2, sI n, sI i, sJ (xs.getD kk 0), sS] [(.ref a1)])) (fun _ k => XS.aloadN Xj.here hx rfl (hb hby d3_80) rfl rfl k) ?_
        obtain ⟨T55, X55, e55, st55⟩ := getF Xj hx hZ hown (host := "") (Or.inl (ww hw 43 rfl)) Via.refl ej Fbj (g := (mkF m 81 #[sR a1, sR a2, sR a3, sI bt, sI nb, sR a2, sI n, sI i, sJ (xs.getD kk 0), sS] [(.ref a1)])) rfl rfl (hb hby d3_81)
        refine Go.st (S' := T55.setTop (mkF m 84 #[sR a1, sR a2, sR a3, sI bt, sI nb, sR a2, sI n, sI i, sJ (xs.getD kk 0), sS] [(.ref b45)])) st55 ?_
        refine Go.st (S' := T55.setTop (mkF m 86 #[sR a1, sR a2, sR a3, sI bt, sI nb, sR a2, sI n, sI i, sJ (xs.getD kk 0), sS] [(.long (xs.getD kk 0)), (.ref b45)])) (fun _ k => XS.lload X55.here hx rfl (hb hby d3_84) rfl k) ?_
        refine Go.st (S' := T55.setTop (mkF m 87 #[sR a1, sR a2, sR a3, sI bt, sI nb, sR a2, sI n, sI i, sJ (xs.getD kk 0), sS] [(.ref a1), (.long (xs.getD kk 0)), (.ref b45)])) (fun _ k => XS.aloadN X55.here hx rfl (hb hby d3_86) rfl rfl k) ?_
        obtain ⟨T56, X56, e56, st56⟩ := getF X55 hx hZ hown (host := "") (Or.inl (ww hw 40 rfl)) Via.refl e55 Fsj (g := (mkF m 87 #[sR a1, sR a2, sR a3, sI bt, sI nb, sR a2, sI n, sI i, sJ (xs.getD kk 0), sS] [(.ref a1), (.long (xs.getD kk 0)), (.ref b45)])) rfl rfl (hb hby d3_87)
        refine Go.st (S' := T56.setTop (mkF m 90 #[sR a1, sR a2, sR a3, sI bt, sI nb, sR a2, sI n, sI i, sJ (xs.getD kk 0), sS] [(.int sf), (.long (xs.getD kk 0)), (.ref b45)])) st56 ?_
        refine Go.st (S' := T56.setTop (mkF m 91 #[sR a1, sR a2, sR a3, sI bt, sI nb, sR a2, sI n, sI i, sJ (xs.getD kk 0), sS] [(.long (((xs.getD kk 0).toUInt64 >>> (sf &&& 0x3f).toInt64.toUInt64).toInt64)), (.ref b45)])) (fun _ k => XS.lushr X56.here hx rfl (hb hby d3_90) rfl k) ?_
        refine Go.st (S' := T56.setTop (mkF m 92 #[sR a1, sR a2, sR a3, sI bt, sI nb, sR a2, sI n, sI i, sJ (xs.getD kk 0), sS] [(.int ((((xs.getD kk 0).toUInt64 >>> (sf &&& 0x3f).toInt64.toUInt64).toInt64).toInt32)), (.ref b45)])) (fun _ k => XS.l2i X56.here hx rfl (hb hby d3_91) rfl k) ?_
        refine Go.st (S' := T56.setTop (mkF m 92 #[sR a1, sR a2, sR a3, sI bt, sI nb, sR a2, sI n, sI i, sJ (xs.getD kk 0), sS] [(.int (bI sf (xs.getD kk 0))), (.ref b45)])) (fun _ k => by rw [(rfl : ((((xs.getD kk 0).toUInt64 >>> (sf &&& 0x3f).toInt64.toUInt64).toInt64).toInt32) = (bI sf (xs.getD kk 0)))]; exact k) ?_
        refine Go.st (S' := T56.setTop (mkF m 93 #[sR a1, sR a2, sR a3, sI bt, sI nb, sR a2, sI n, sI i, sJ (xs.getD kk 0), sS] [(.int (1 : Int32)), (.int (bI sf (xs.getD kk 0))), (.ref b45)])) (fun _ k => XS.iconst X56.here hx rfl (hb hby d3_92) k) ?_
        refine Go.st (S' := T56.setTop (mkF m 94 #[sR a1, sR a2, sR a3, sI bt, sI nb, sR a2, sI n, sI i, sJ (xs.getD kk 0), sS] [(.int ((bI sf (xs.getD kk 0)) + (1 : Int32))), (.ref b45)])) (fun _ k => XS.iadd X56.here hx rfl (hb hby d3_93) rfl k) ?_
        obtain ⟨ix, hix⟩ : ∃ z : Int32, z = ((bI sf (xs.getD kk 0)) + (1 : Int32)) := ⟨_, rfl⟩
        refine Go.st (S' := T56.setTop (mkF m 94 #[sR a1, sR a2, sR a3, sI bt, sI nb, sR a2, sI n, sI i, sJ (xs.getD kk 0), sS] [(.int ix), (.ref b45)])) (fun _ k => by rw [hix] at k; exact k) ?_
        have hixv : ix.toInt = ((B sf (xs.getD kk 0) + 1) : Nat) := by rw [hix]; exact own_p1 (own_bI hs (by omega)) (by omega)
        refine Go.st (S' := T56.setTop (mkF m 95 #[sR a1, sR a2, sR a3, sI bt, sI nb, sR a2, sI n, sI i, sJ (xs.getD kk 0), sS] [(.int ix), (.ref b45), (.int ix), (.ref b45)])) (fun _ k => XT.dup2 X56.here hx rfl (hb hby d3_94) rfl rfl rfl k) ?_
        refine Go.st (S' := T56.setTop (mkF m 96 #[sR a1, sR a2, sR a3, sI bt, sI nb, sR a2, sI n, sI i, sJ (xs.getD kk 0), sS] [(.int (Int32.ofNat (Cn sf xs kk (B sf (xs.getD kk 0) + 1)))), (.int ix), (.ref b45)])) (own_ldI X56 hx hZ e56 Vbj (own_bd (by omega) (by rw [own_nb1 hN hN4]; omega)) (by rw [own_tn hixv]; exact own_CLg _ _ _ _ _ (by omega)) (g := (mkF m 95 #[sR a1, sR a2, sR a3, sI bt, sI nb, sR a2, sI n, sI i, sJ (xs.getD kk 0), sS] [(.int ix), (.ref b45), (.int ix), (.ref b45)])) rfl rfl (hb hby d3_95)) ?_
        refine Go.st (S' := T56.setTop (mkF m 97 #[sR a1, sR a2, sR a3, sI bt, sI nb, sR a2, sI n, sI i, sJ (xs.getD kk 0), sS] [(.int (1 : Int32)), (.int (Int32.ofNat (Cn sf xs kk (B sf (xs.getD kk 0) + 1)))), (.int ix), (.ref b45)])) (fun _ k => XS.iconst X56.here hx rfl (hb hby d3_96) k) ?_
        refine Go.st (S' := T56.setTop (mkF m 98 #[sR a1, sR a2, sR a3, sI bt, sI nb, sR a2, sI n, sI i, sJ (xs.getD kk 0), sS] [(.int ((Int32.ofNat (Cn sf xs kk (B sf (xs.getD kk 0) + 1))) + (1 : Int32))), (.int ix), (.ref b45)])) (fun _ k => XS.iadd X56.here hx rfl (hb hby d3_97) rfl k) ?_
        obtain ⟨T58, h58, X58, e58, W58, V58, st58⟩ := own_stI X56 hx hZ e56 Vbj (j := ix) (own_bd (by omega) (by rw [own_nb1 hN hN4]; omega)) (B sf (xs.getD kk 0) + 1) (own_tn hixv) (by rw [own_CLl]; omega) (g := (mkF m 98 #[sR a1, sR a2, sR a3, sI bt, sI nb, sR a2, sI n, sI i, sJ (xs.getD kk 0), sS] [(.int ((Int32.ofNat (Cn sf xs kk (B sf (xs.getD kk 0) + 1))) + (1 : Int32))), (.int ix), (.ref b45)])) rfl rfl (hb hby d3_98)
        have N58 := Fr.snoc X58 Nj gz45
        have O58 : Ext Z.heap h58 := own_Ext.wr Oj W58 gz45
        have KP58 : Keep h0 h58 [a1] := KPj.wr W58 (Or.inr sz45)
        refine Go.st (S' := T58.setTop (mkF m 99 #[sR a1, sR a2, sR a3, sI bt, sI nb, sR a2, sI n, sI i, sJ (xs.getD kk 0), sS] [])) st58 ?_
        have VN59 : Arv Z h58 b45 k45 .int (nb + (1 : Int32)) (CL sf xs (kk + 1) N) (.int 0) := by rw [← own_CLset sf xs kk N hkl]; exact V58
        refine Go.st (S' := T58.setTop (mkF m 102 #[sR a1, sR a2, sR a3, sI bt, sI nb, sR a2, sI n, sI (i + (1 : Int32)), sJ (xs.getD kk 0), sS] [])) (fun _ k => XS.iinc X58.here hx rfl (hb hby d3_99) rfl (l' := #[sR a1, sR a2, sR a3, sI bt, sI nb, sR a2, sI n, sI (i + (1 : Int32)), sJ (xs.getD kk 0), sS]) rfl k) ?_
        refine Go.st (S' := T58.setTop (mkF m 66 #[sR a1, sR a2, sR a3, sI bt, sI nb, sR a2, sI n, sI (i + (1 : Int32)), sJ (xs.getD kk 0), sS] [])) (fun _ k => XS.goto X58.here hx rfl (pc0 := 102) (pc' := 66) rfl (hb hby d3_102) (by decide) (by decide) k) ?_
        exact ih  _ _ _ X58 e58 N58 O58  _ _ _ _ (Ej.wr W58) (Fpj.other W58 (Or.inl ne_a1_b45)) (Fsj.other W58 (Or.inl ne_a1_b45)) (Fbj.other W58 (Or.inl ne_a1_b45)) (Vpj.other W58 ne_a2_b45) VN59 KP58 (own_p1 hik (by omega)) (by omega) (Or.inr ⟨_, rfl, rfl⟩)
      · refine Go.st (S' := Tj.setTop (mkF m 75 #[sR a1, sR a2, sR a3, sI bt, sI nb, sR a2, sI n, sI i, sJ pz, sS] [(.ref a2)])) (fun _ k => XS.aload Xj.here hx rfl (hb hby d3_73) rfl rfl k) ?_
        refine Go.st (S' := Tj.setTop (mkF m 77 #[sR a1, sR a2, sR a3, sI bt, sI nb, sR a2, sI n, sI i, sJ pz, sS] [(.int i), (.ref a2)])) (fun _ k => XS.iload Xj.here hx rfl (hb hby d3_75) rfl k) ?_
        refine Go.st (S' := Tj.setTop (mkF m 78 #[sR a1, sR a2, sR a3, sI bt, sI nb, sR a2, sI n, sI i, sJ pz, sS] [(.long (xs.getD i.toNatClampNeg 0))])) (own_ldJ Xj hx hZ ej Vpj (own_bd (by omega) (by omega)) (own_getJ xs _) (g := (mkF m 77 #[sR a1, sR a2, sR a3, sI bt, sI nb, sR a2, sI n, sI i, sJ pz, sS] [(.int i), (.ref a2)])) rfl rfl (hb hby d3_77)) ?_
        refine Go.st (S' := Tj.setTop (mkF m 78 #[sR a1, sR a2, sR a3, sI bt, sI nb, sR a2, sI n, sI i, sJ pz, sS] [(.long (xs.getD kk 0))])) (fun _ k => by rw [(by rw [own_tn hik] : (xs.getD i.toNatClampNeg 0) = (xs.getD kk 0))]; exact k) ?_
        refine Go.st (S' := Tj.setTop (mkF m 80 #[sR a1, sR a2, sR a3, sI bt, sI nb, sR a2, sI n, sI i, sJ (xs.getD kk 0), sS] [])) (fun _ k => XS.lstore Xj.here hx rfl (hb hby d3_78) rfl (l' := #[sR a1, sR a2, sR a3, sI bt, sI nb, sR a2, sI n, sI i, sJ (xs.getD kk 0), sS]) rfl k) ?_
        refine Go.st (S' := Tj.setTop (mkF m 81 #[sR a1, sR a2, sR a3, sI bt, sI nb, sR a2, sI n, sI i, sJ (xs.getD kk 0), sS] [(.ref a1)])) (fun _ k => XS.aloadN Xj.here hx rfl (hb hby d3_80) rfl rfl k) ?_
        obtain ⟨T61, X61, e61, st61⟩ := getF Xj hx hZ hown (host := "") (Or.inl (ww hw 43 rfl)) Via.refl ej Fbj (g := (mkF m 81 #[sR a1, sR a2, sR a3, sI bt, sI nb, sR a2, sI n, sI i, sJ (xs.getD kk 0), sS] [(.ref a1)])) rfl rfl (hb hby d3_81)
        refine Go.st (S' := T61.setTop (mkF m 84 #[sR a1, sR a2, sR a3, sI bt, sI nb, sR a2, sI n, sI i, sJ (xs.getD kk 0), sS] [(.ref b45)])) st61 ?_
        refine Go.st (S' := T61.setTop (mkF m 86 #[sR a1, sR a2, sR a3, sI bt, sI nb, sR a2, sI n, sI i, sJ (xs.getD kk 0), sS] [(.long (xs.getD kk 0)), (.ref b45)])) (fun _ k => XS.lload X61.here hx rfl (hb hby d3_84) rfl k) ?_
        refine Go.st (S' := T61.setTop (mkF m 87 #[sR a1, sR a2, sR a3, sI bt, sI nb, sR a2, sI n, sI i, sJ (xs.getD kk 0), sS] [(.ref a1), (.long (xs.getD kk 0)), (.ref b45)])) (fun _ k => XS.aloadN X61.here hx rfl (hb hby d3_86) rfl rfl k) ?_
        obtain ⟨T62, X62, e62, st62⟩ := getF X61 hx hZ hown (host := "") (Or.inl (ww hw 40 rfl)) Via.refl e61 Fsj (g := (mkF m 87 #[sR a1, sR a2, sR a3, sI bt, sI nb, sR a2, sI n, sI i, sJ (xs.getD kk 0), sS] [(.ref a1), (.long (xs.getD kk 0)), (.ref b45)])) rfl rfl (hb hby d3_87)
        refine Go.st (S' := T62.setTop (mkF m 90 #[sR a1, sR a2, sR a3, sI bt, sI nb, sR a2, sI n, sI i, sJ (xs.getD kk 0), sS] [(.int sf), (.long (xs.getD kk 0)), (.ref b45)])) st62 ?_
        refine Go.st (S' := T62.setTop (mkF m 91 #[sR a1, sR a2, sR a3, sI bt, sI nb, sR a2, sI n, sI i, sJ (xs.getD kk 0), sS] [(.long (((xs.getD kk 0).toUInt64 >>> (sf &&& 0x3f).toInt64.toUInt64).toInt64)), (.ref b45)])) (fun _ k => XS.lushr X62.here hx rfl (hb hby d3_90) rfl k) ?_
        refine Go.st (S' := T62.setTop (mkF m 92 #[sR a1, sR a2, sR a3, sI bt, sI nb, sR a2, sI n, sI i, sJ (xs.getD kk 0), sS] [(.int ((((xs.getD kk 0).toUInt64 >>> (sf &&& 0x3f).toInt64.toUInt64).toInt64).toInt32)), (.ref b45)])) (fun _ k => XS.l2i X62.here hx rfl (hb hby d3_91) rfl k) ?_
        refine Go.st (S' := T62.setTop (mkF m 92 #[sR a1, sR a2, sR a3, sI bt, sI nb, sR a2, sI n, sI i, sJ (xs.getD kk 0), sS] [(.int (bI sf (xs.getD kk 0))), (.ref b45)])) (fun _ k => by rw [(rfl : ((((xs.getD kk 0).toUInt64 >>> (sf &&& 0x3f).toInt64.toUInt64).toInt64).toInt32) = (bI sf (xs.getD kk 0)))]; exact k) ?_
        refine Go.st (S' := T62.setTop (mkF m 93 #[sR a1, sR a2, sR a3, sI bt, sI nb, sR a2, sI n, sI i, sJ (xs.getD kk 0), sS] [(.int (1 : Int32)), (.int (bI sf (xs.getD kk 0))), (.ref b45)])) (fun _ k => XS.iconst X62.here hx rfl (hb hby d3_92) k) ?_
        refine Go.st (S' := T62.setTop (mkF m 94 #[sR a1, sR a2, sR a3, sI bt, sI nb, sR a2, sI n, sI i, sJ (xs.getD kk 0), sS] [(.int ((bI sf (xs.getD kk 0)) + (1 : Int32))), (.ref b45)])) (fun _ k => XS.iadd X62.here hx rfl (hb hby d3_93) rfl k) ?_
        obtain ⟨ix, hix⟩ : ∃ z : Int32, z = ((bI sf (xs.getD kk 0)) + (1 : Int32)) := ⟨_, rfl⟩
        refine Go.st (S' := T62.setTop (mkF m 94 #[sR a1, sR a2, sR a3, sI bt, sI nb, sR a2, sI n, sI i, sJ (xs.getD kk 0), sS] [(.int ix), (.ref b45)])) (fun _ k => by rw [hix] at k; exact k) ?_
        have hixv : ix.toInt = ((B sf (xs.getD kk 0) + 1) : Nat) := by rw [hix]; exact own_p1 (own_bI hs (by omega)) (by omega)
        refine Go.st (S' := T62.setTop (mkF m 95 #[sR a1, sR a2, sR a3, sI bt, sI nb, sR a2, sI n, sI i, sJ (xs.getD kk 0), sS] [(.int ix), (.ref b45), (.int ix), (.ref b45)])) (fun _ k => XT.dup2 X62.here hx rfl (hb hby d3_94) rfl rfl rfl k) ?_
        refine Go.st (S' := T62.setTop (mkF m 96 #[sR a1, sR a2, sR a3, sI bt, sI nb, sR a2, sI n, sI i, sJ (xs.getD kk 0), sS] [(.int (Int32.ofNat (Cn sf xs kk (B sf (xs.getD kk 0) + 1)))), (.int ix), (.ref b45)])) (own_ldI X62 hx hZ e62 Vbj (own_bd (by omega) (by rw [own_nb1 hN hN4]; omega)) (by rw [own_tn hixv]; exact own_CLg _ _ _ _ _ (by omega)) (g := (mkF m 95 #[sR a1, sR a2, sR a3, sI bt, sI nb, sR a2, sI n, sI i, sJ (xs.getD kk 0), sS] [(.int ix), (.ref b45), (.int ix), (.ref b45)])) rfl rfl (hb hby d3_95)) ?_
        refine Go.st (S' := T62.setTop (mkF m 97 #[sR a1, sR a2, sR a3, sI bt, sI nb, sR a2, sI n, sI i, sJ (xs.getD kk 0), sS] [(.int (1 : Int32)), (.int (Int32.ofNat (Cn sf xs kk (B sf (xs.getD kk 0) + 1)))), (.int ix), (.ref b45)])) (fun _ k => XS.iconst X62.here hx rfl (hb hby d3_96) k) ?_
        refine Go.st (S' := T62.setTop (mkF m 98 #[sR a1, sR a2, sR a3, sI bt, sI nb, sR a2, sI n, sI i, sJ (xs.getD kk 0), sS] [(.int ((Int32.ofNat (Cn sf xs kk (B sf (xs.getD kk 0) + 1))) + (1 : Int32))), (.int ix), (.ref b45)])) (fun _ k => XS.iadd X62.here hx rfl (hb hby d3_97) rfl k) ?_
        obtain ⟨T64, h64, X64, e64, W64, V64, st64⟩ := own_stI X62 hx hZ e62 Vbj (j := ix) (own_bd (by omega) (by rw [own_nb1 hN hN4]; omega)) (B sf (xs.getD kk 0) + 1) (own_tn hixv) (by rw [own_CLl]; omega) (g := (mkF m 98 #[sR a1, sR a2, sR a3, sI bt, sI nb, sR a2, sI n, sI i, sJ (xs.getD kk 0), sS] [(.int ((Int32.ofNat (Cn sf xs kk (B sf (xs.getD kk 0) + 1))) + (1 : Int32))), (.int ix), (.ref b45)])) rfl rfl (hb hby d3_98)
        have N64 := Fr.snoc X64 Nj gz45
        have O64 : Ext Z.heap h64 := own_Ext.wr Oj W64 gz45
        have KP64 : Keep h0 h64 [a1] := KPj.wr W64 (Or.inr sz45)
        refine Go.st (S' := T64.setTop (mkF m 99 #[sR a1, sR a2, sR a3, sI bt, sI nb, sR a2, sI n, sI i, sJ (xs.getD kk 0), sS] [])) st64 ?_
        have VN65 : Arv Z h64 b45 k45 .int (nb + (1 : Int32)) (CL sf xs (kk + 1) N) (.int 0) := by rw [← own_CLset sf xs kk N hkl]; exact V64
        refine Go.st (S' := T64.setTop (mkF m 102 #[sR a1, sR a2, sR a3, sI bt, sI nb, sR a2, sI n, sI (i + (1 : Int32)), sJ (xs.getD kk 0), sS] [])) (fun _ k => XS.iinc X64.here hx rfl (hb hby d3_99) rfl (l' := #[sR a1, sR a2, sR a3, sI bt, sI nb, sR a2, sI n, sI (i + (1 : Int32)), sJ (xs.getD kk 0), sS]) rfl k) ?_
        refine Go.st (S' := T64.setTop (mkF m 66 #[sR a1, sR a2, sR a3, sI bt, sI nb, sR a2, sI n, sI (i + (1 : Int32)), sJ (xs.getD kk 0), sS] [])) (fun _ k => XS.goto X64.here hx rfl (pc0 := 102) (pc' := 66) rfl (hb hby d3_102) (by decide) (by decide) k) ?_
        exact ih  _ _ _ X64 e64 N64 O64  _ _ _ _ (Ej.wr W64) (Fpj.other W64 (Or.inl ne_a1_b45)) (Fsj.other W64 (Or.inl ne_a1_b45)) (Fbj.other W64 (Or.inl ne_a1_b45)) (Vpj.other W64 ne_a2_b45) VN65 KP64 (own_p1 hik (by omega)) (by omega) (Or.inr ⟨_, rfl, rfl⟩)
  have V0 : Arv Z h46 b45 k45 .int (nb + (1 : Int32)) (CL sf xs 0 N) (.int 0) := (V45.other W46 (Ne.symm ne_a1_b45)).pad (own_CL0 sf xs N)
  exact lp xs.length _ _ _ X46 e46 N46 O46  0 _ _ _ ((((EA.wr W38).wr W44).ext E45).wr W46) (((Fw38.other W44 (Or.inr (sn_297842_positions_shift hw))).ext E45).other W46 (Or.inr (sn_297842_positions_bucketStarts hw))) ((Fw44.ext E45).other W46 (Or.inr (sn_297842_shift_bucketStarts hw))) Fw46 ((((VP.other W38 (Ne.symm n12)).other W44 (Ne.symm n12)).ext E45).other W46 (Ne.symm n12)) V0 KP46 (by decide) (by omega) (Or.inl ⟨rfl, rfl⟩)
theorem d10_0 : decode jdk_35_method_42_code 0 = .ok (.lload_n 0, 1) := by decide +kernel
theorem d10_1 : decode jdk_35_method_42_code 1 = .ok (.lload_n 2, 1) := by decide +kernel
theorem d10_2 : decode jdk_35_method_42_code 2 = .ok (.lcmp, 1) := by decide +kernel
theorem d10_3 : decode jdk_35_method_42_code 3 = .ok (.ifCond .ge 7, 3) := by decide +kernel
theorem d10_6 : decode jdk_35_method_42_code 6 = .ok (.iconst (-1), 1) := by decide +kernel
theorem d10_7 : decode jdk_35_method_42_code 7 = .ok (.goto 14, 3) := by decide +kernel
theorem d10_10 : decode jdk_35_method_42_code 10 = .ok (.lload_n 0, 1) := by decide +kernel
theorem d10_11 : decode jdk_35_method_42_code 11 = .ok (.lload_n 2, 1) := by decide +kernel
theorem d10_12 : decode jdk_35_method_42_code 12 = .ok (.lcmp, 1) := by decide +kernel
theorem d10_13 : decode jdk_35_method_42_code 13 = .ok (.ifCond .ne 7, 3) := by decide +kernel
theorem d10_16 : decode jdk_35_method_42_code 16 = .ok (.iconst 0, 1) := by decide +kernel
theorem d10_17 : decode jdk_35_method_42_code 17 = .ok (.goto 4, 3) := by decide +kernel
theorem d10_20 : decode jdk_35_method_42_code 20 = .ok (.iconst 1, 1) := by decide +kernel
theorem d10_21 : decode jdk_35_method_42_code 21 = .ok (.ireturn, 1) := by decide +kernel
theorem pn_77341 : plainName "java/lang/Long" = true := by first | (simp [plainName, overriddenIn]; done) | decide +kernel
theorem ef_rmCmp (m : MethodId) (x0 : Int64) (x1 : Int64) : entryFrame m #[(.long x0), (.long x1)] 4 = mkF m 0 #[sJ x0, sS, sJ x1, sS] [] := by first | (simp [entryFrame, mkF, argsToLocals, Value.category]; done) | rfl
set_option maxRecDepth 65536 in
set_option maxHeartbeats 400000000 in
theorem rmCmp (l : Launch) (Z : State) (a0 : Array Value) (hw : ∀ d ∈ tables_1, d.before a0 Z = true) (ws : List Jvm.Cond) (w_BITS_32 : Addr) (w_BITS_64 : Addr) (hS : SF Z w_BITS_32 w_BITS_64) (q1 : Int64) (q2 : Int64) (h0 : Heap) (O0 : Ext Z.heap h0)  :
    Con l Z h0 (⟨"java/lang/Long", "compare", "(JJ)I"⟩ : MethodName) jdk_35_method_42_code 4 (some .int) ws ({ frames := 0, cells := 0, slots := 0, locals := 0 } : Room) #[(.long q1), (.long q2)] (fun v h L => (∃ r : Int32, v = some (.int r) ∧ (r < 0 ↔ q1 < q2)) ∧ Fr Z.heap.size L ∧ h = h0) := by
  obtain ⟨S_BITS_32, E_BITS_32, F_BITS_32_bits, S_BITS_64, E_BITS_64, F_BITS_64_bits⟩ := id hS
  refine own_con (plainFor_of_name pn_77341) ?_
  intro p e s m below meth c T0 X0 hx hby hml hown hnm hret hlk hZ e0
  have hown : s.vm.findClass "java/lang/Long" = some m.cls := hown
  have N0 := Fr.nil Z.heap.size
  refine Go.st (S' := T0.setTop (mkF m 0 #[sJ q1, sS, sJ q2, sS] [])) (fun _ k => castTop (ef_rmCmp m q1 q2) k) ?_
  refine Go.st (S' := T0.setTop (mkF m 1 #[sJ q1, sS, sJ q2, sS] [(.long q1)])) (fun _ k => XS.lloadN X0.here hx rfl (hb hby d10_0) rfl k) ?_
  refine Go.st (S' := T0.setTop (mkF m 2 #[sJ q1, sS, sJ q2, sS] [(.long q2), (.long q1)])) (fun _ k => XS.lloadN X0.here hx rfl (hb hby d10_1) rfl k) ?_
  refine Go.st (S' := T0.setTop (mkF m 3 #[sJ q1, sS, sJ q2, sS] [(.int (lcmpW q1 q2))])) (fun _ k => XS.lcmp X0.here hx rfl (hb hby d10_2) rfl k) ?_
  by_cases hc3 : q1 < q2
  · refine Go.st (S' := T0.setTop (mkF m 6 #[sJ q1, sS, sJ q2, sS] [])) (fun _ k => XS.ifNo X0.here hx rfl (hb hby d10_3) rfl (own_Llt hc3).2 k) ?_
    refine Go.st (S' := T0.setTop (mkF m 7 #[sJ q1, sS, sJ q2, sS] [(.int (-1 : Int32))])) (fun _ k => XS.iconst X0.here hx rfl (hb hby d10_6) k) ?_
    refine Go.st (S' := T0.setTop (mkF m 21 #[sJ q1, sS, sJ q2, sS] [(.int (-1 : Int32))])) (fun _ k => XS.goto X0.here hx rfl (pc0 := 7) (pc' := 21) rfl (hb hby d10_7) (by decide) (by decide) k) ?_
    exact own_retI X0 hx hlk hret (hb hby d10_21) e0 ⟨⟨_, rfl, ⟨fun _ => hc3, fun _ => by decide⟩⟩, N0, rfl⟩ (by decide) (by decide)
  · refine Go.st (S' := T0.setTop (mkF m 10 #[sJ q1, sS, sJ q2, sS] [])) (fun _ k => XS.ifYes X0.here hx rfl (pc0 := 3) (pc' := 10) rfl (hb hby d10_3) rfl (own_Lnlt hc3).2 (by decide) (by decide) k) ?_
    refine Go.st (S' := T0.setTop (mkF m 11 #[sJ q1, sS, sJ q2, sS] [(.long q1)])) (fun _ k => XS.lloadN X0.here hx rfl (hb hby d10_10) rfl k) ?_
    refine Go.st (S' := T0.setTop (mkF m 12 #[sJ q1, sS, sJ q2, sS] [(.long q2), (.long q1)])) (fun _ k => XS.lloadN X0.here hx rfl (hb hby d10_11) rfl k) ?_
    refine Go.st (S' := T0.setTop (mkF m 13 #[sJ q1, sS, sJ q2, sS] [(.int (lcmpW q1 q2))])) (fun _ k => XS.lcmp X0.here hx rfl (hb hby d10_12) rfl k) ?_
    by_cases hc13 : q1 = q2
    · refine Go.st (S' := T0.setTop (mkF m 16 #[sJ q1, sS, sJ q2, sS] [])) (fun _ k => XS.ifNo X0.here hx rfl (hb hby d10_13) rfl (own_Leq hc13).2 k) ?_
      refine Go.st (S' := T0.setTop (mkF m 17 #[sJ q1, sS, sJ q2, sS] [(.int (0 : Int32))])) (fun _ k => XS.iconst X0.here hx rfl (hb hby d10_16) k) ?_
      refine Go.st (S' := T0.setTop (mkF m 21 #[sJ q1, sS, sJ q2, sS] [(.int (0 : Int32))])) (fun _ k => XS.goto X0.here hx rfl (pc0 := 17) (pc' := 21) rfl (hb hby d10_17) (by decide) (by decide) k) ?_
      exact own_retI X0 hx hlk hret (hb hby d10_21) e0 ⟨⟨_, rfl, ⟨fun q => absurd q (by decide), fun q => absurd q hc3⟩⟩, N0, rfl⟩ (by decide) (by decide)
    · refine Go.st (S' := T0.setTop (mkF m 20 #[sJ q1, sS, sJ q2, sS] [])) (fun _ k => XS.ifYes X0.here hx rfl (pc0 := 13) (pc' := 20) rfl (hb hby d10_13) rfl (own_Lne hc13).2 (by decide) (by decide) k) ?_
      refine Go.st (S' := T0.setTop (mkF m 21 #[sJ q1, sS, sJ q2, sS] [(.int (1 : Int32))])) (fun _ k => XS.iconst X0.here hx rfl (hb hby d10_20) k) ?_
      exact own_retI X0 hx hlk hret (hb hby d10_21) e0 ⟨⟨_, rfl, ⟨fun q => absurd q (by decide), fun q => absurd q hc3⟩⟩, N0, rfl⟩ (by decide) (by decide)
theorem d9_0 : decode jdk_35_method_43_code 0 = .ok (.lload_n 0, 1) := by decide +kernel
theorem d9_1 : decode jdk_35_method_43_code 1 = .ok (.ldc2_w 168, 3) := by decide +kernel
theorem d9_4 : decode jdk_35_method_43_code 4 = .ok (.ladd, 1) := by decide +kernel
theorem d9_5 : decode jdk_35_method_43_code 5 = .ok (.lload_n 2, 1) := by decide +kernel
theorem d9_6 : decode jdk_35_method_43_code 6 = .ok (.ldc2_w 168, 3) := by decide +kernel
theorem d9_9 : decode jdk_35_method_43_code 9 = .ok (.ladd, 1) := by decide +kernel
theorem d9_10 : decode jdk_35_method_43_code 10 = .ok (.invokestatic 302, 3) := by decide +kernel
theorem d9_13 : decode jdk_35_method_43_code 13 = .ok (.ireturn, 1) := by decide +kernel
theorem pd_212480 : parseMethodDescriptor "(JJ)I" = some ⟨[.long, .long], some .int⟩ := by decide +kernel
theorem ef_rmCU (m : MethodId) (x0 : Int64) (x1 : Int64) : entryFrame m #[(.long x0), (.long x1)] 4 = mkF m 0 #[sJ x0, sS, sJ x1, sS] [] := by first | (simp [entryFrame, mkF, argsToLocals, Value.category]; done) | rfl
set_option maxRecDepth 65536 in
set_option maxHeartbeats 400000000 in
theorem rmCU (l : Launch) (Z : State) (a0 : Array Value) (hw : ∀ d ∈ tables_1, d.before a0 Z = true) (ws : List Jvm.Cond) (w_BITS_32 : Addr) (w_BITS_64 : Addr) (hS : SF Z w_BITS_32 w_BITS_64) (q1 : Int64) (q2 : Int64) (h0 : Heap) (O0 : Ext Z.heap h0)  :
    Con l Z h0 (⟨"java/lang/Long", "compareUnsigned", "(JJ)I"⟩ : MethodName) jdk_35_method_43_code 4 (some .int) ws ({ frames := 1, cells := 0, slots := 0, locals := 20 } : Room) #[(.long q1), (.long q2)] (fun v h L => (∃ r : Int32, v = some (.int r) ∧ (r < 0 ↔ U q1 < U q2)) ∧ Fr Z.heap.size L ∧ h = h0) := by
  obtain ⟨S_BITS_32, E_BITS_32, F_BITS_32_bits, S_BITS_64, E_BITS_64, F_BITS_64_bits⟩ := id hS
  refine own_con (plainFor_of_name pn_77341) ?_
  intro p e s m below meth c T0 X0 hx hby hml hown hnm hret hlk hZ e0
  have hown : s.vm.findClass "java/lang/Long" = some m.cls := hown
  have N0 := Fr.nil Z.heap.size
  refine Go.st (S' := T0.setTop (mkF m 0 #[sJ q1, sS, sJ q2, sS] [])) (fun _ k => castTop (ef_rmCU m q1 q2) k) ?_
  refine Go.st (S' := T0.setTop (mkF m 1 #[sJ q1, sS, sJ q2, sS] [(.long q1)])) (fun _ k => XS.lloadN X0.here hx rfl (hb hby d9_0) rfl k) ?_
  refine Go.st (S' := T0.setTop (mkF m 4 #[sJ q1, sS, sJ q2, sS] [(.long (-9223372036854775808 : Int64)), (.long q1)])) (X0.ldc2Long hx hown (mvT hZ (ww hw 54 rfl)) (g := (mkF m 1 #[sJ q1, sS, sJ q2, sS] [(.long q1)])) rfl (hb hby d9_1)) ?_
  refine Go.st (S' := T0.setTop (mkF m 5 #[sJ q1, sS, sJ q2, sS] [(.long (q1 + (-9223372036854775808 : Int64)))])) (fun _ k => XS.ladd X0.here hx rfl (hb hby d9_4) rfl k) ?_
  refine Go.st (S' := T0.setTop (mkF m 6 #[sJ q1, sS, sJ q2, sS] [(.long q2), (.long (q1 + (-9223372036854775808 : Int64)))])) (fun _ k => XS.lloadN X0.here hx rfl (hb hby d9_5) rfl k) ?_
  refine Go.st (S' := T0.setTop (mkF m 9 #[sJ q1, sS, sJ q2, sS] [(.long (-9223372036854775808 : Int64)), (.long q2), (.long (q1 + (-9223372036854775808 : Int64)))])) (X0.ldc2Long hx hown (mvT hZ (ww hw 54 rfl)) (g := (mkF m 6 #[sJ q1, sS, sJ q2, sS] [(.long q2), (.long (q1 + (-9223372036854775808 : Int64)))])) rfl (hb hby d9_6)) ?_
  refine Go.st (S' := T0.setTop (mkF m 10 #[sJ q1, sS, sJ q2, sS] [(.long (q2 + (-9223372036854775808 : Int64))), (.long (q1 + (-9223372036854775808 : Int64)))])) (fun _ k => XS.ladd X0.here hx rfl (hb hby d9_9) rfl k) ?_
  obtain ⟨_, T66, L66, X66, ⟨⟨rc66, rfl, hrc66⟩, Nq66, eq66⟩, st66⟩ := own_callS X0 hx hZ hown (ww hw 55 rfl) (ww hw 56 rfl) (ww hw 52 rfl) (ww hw 57 rfl) (by decide) e0 (rmCmp l Z a0 hw [] w_BITS_32 w_BITS_64 hS (q1 + (-9223372036854775808 : Int64)) (q2 + (-9223372036854775808 : Int64)) h0 O0) 0 (by decide) (by decide) (by decide) (by decide) (g := (mkF m 10 #[sJ q1, sS, sJ q2, sS] [(.long (q2 + (-9223372036854775808 : Int64))), (.long (q1 + (-9223372036854775808 : Int64)))])) rfl (by rw [hml]; rfl) [(.long (q1 + (-9223372036854775808 : Int64))), (.long (q2 + (-9223372036854775808 : Int64)))] [] rfl (lenOf pd_212480 rfl) rfl (by show 2 * 0 + _ ≤ _; exact Nat.le_of_eq rfl) (hb hby d9_10)
  have N66 := Fr.app N0 Nq66
  refine Go.st (S' := T66.setTop (mkF m 13 #[sJ q1, sS, sJ q2, sS] [(.int rc66)])) st66 ?_
  exact own_retI X66 hx hlk hret (hb hby d9_13) eq66 ⟨⟨_, rfl, hrc66.trans (own_cmpI _ _)⟩, N66, rfl⟩ (by decide) (by decide)
theorem own_eqN {x : Int32} {k : Nat} (h : x.toInt = k) (hk : k < 100) : x = Int32.ofNat k := Int32.toInt_inj.mp (by rw [own_on hk]; exact h)
theorem d8_0 : decode prog_9_method_2_code 0 = .ok (.lload_n 1, 1) := by decide +kernel
theorem d8_1 : decode prog_9_method_2_code 1 = .ok (.aload_n 0, 1) := by decide +kernel
theorem d8_2 : decode prog_9_method_2_code 2 = .ok (.getfield 31, 3) := by decide +kernel
theorem d8_5 : decode prog_9_method_2_code 5 = .ok (.lushr, 1) := by decide +kernel
theorem d8_6 : decode prog_9_method_2_code 6 = .ok (.l2i, 1) := by decide +kernel
theorem d8_7 : decode prog_9_method_2_code 7 = .ok (.istore_n 3, 1) := by decide +kernel
theorem d8_8 : decode prog_9_method_2_code 8 = .ok (.aload_n 0, 1) := by decide +kernel
theorem d8_9 : decode prog_9_method_2_code 9 = .ok (.getfield 35, 3) := by decide +kernel
theorem d8_12 : decode prog_9_method_2_code 12 = .ok (.iload_n 3, 1) := by decide +kernel
theorem d8_13 : decode prog_9_method_2_code 13 = .ok (.iaload, 1) := by decide +kernel
theorem d8_14 : decode prog_9_method_2_code 14 = .ok (.istore 4, 2) := by decide +kernel
theorem d8_16 : decode prog_9_method_2_code 16 = .ok (.aload_n 0, 1) := by decide +kernel
theorem d8_17 : decode prog_9_method_2_code 17 = .ok (.getfield 35, 3) := by decide +kernel
theorem d8_20 : decode prog_9_method_2_code 20 = .ok (.iload_n 3, 1) := by decide +kernel
theorem d8_21 : decode prog_9_method_2_code 21 = .ok (.iconst 1, 1) := by decide +kernel
theorem d8_22 : decode prog_9_method_2_code 22 = .ok (.iadd, 1) := by decide +kernel
theorem d8_23 : decode prog_9_method_2_code 23 = .ok (.iaload, 1) := by decide +kernel
theorem d8_24 : decode prog_9_method_2_code 24 = .ok (.istore 5, 2) := by decide +kernel
theorem d8_26 : decode prog_9_method_2_code 26 = .ok (.iload 4, 2) := by decide +kernel
theorem d8_28 : decode prog_9_method_2_code 28 = .ok (.iload 5, 2) := by decide +kernel
theorem d8_30 : decode prog_9_method_2_code 30 = .ok (.if_icmp .ge 42, 3) := by decide +kernel
theorem d8_33 : decode prog_9_method_2_code 33 = .ok (.iload 4, 2) := by decide +kernel
theorem d8_35 : decode prog_9_method_2_code 35 = .ok (.iload 5, 2) := by decide +kernel
theorem d8_37 : decode prog_9_method_2_code 37 = .ok (.iadd, 1) := by decide +kernel
theorem d8_38 : decode prog_9_method_2_code 38 = .ok (.iconst 1, 1) := by decide +kernel
theorem d8_39 : decode prog_9_method_2_code 39 = .ok (.iushr, 1) := by decide +kernel
theorem d8_40 : decode prog_9_method_2_code 40 = .ok (.istore 6, 2) := by decide +kernel
theorem d8_42 : decode prog_9_method_2_code 42 = .ok (.aload_n 0, 1) := by decide +kernel
theorem d8_43 : decode prog_9_method_2_code 43 = .ok (.getfield 7, 3) := by decide +kernel
theorem d8_46 : decode prog_9_method_2_code 46 = .ok (.iload 6, 2) := by decide +kernel
theorem d8_48 : decode prog_9_method_2_code 48 = .ok (.laload, 1) := by decide +kernel
theorem d8_49 : decode prog_9_method_2_code 49 = .ok (.lload_n 1, 1) := by decide +kernel
theorem d8_50 : decode prog_9_method_2_code 50 = .ok (.invokestatic 39, 3) := by decide +kernel
theorem d8_53 : decode prog_9_method_2_code 53 = .ok (.ifCond .ge 12, 3) := by decide +kernel
theorem d8_56 : decode prog_9_method_2_code 56 = .ok (.iload 6, 2) := by decide +kernel
theorem d8_58 : decode prog_9_method_2_code 58 = .ok (.iconst 1, 1) := by decide +kernel
theorem d8_59 : decode prog_9_method_2_code 59 = .ok (.iadd, 1) := by decide +kernel
theorem d8_60 : decode prog_9_method_2_code 60 = .ok (.istore 4, 2) := by decide +kernel
theorem d8_62 : decode prog_9_method_2_code 62 = .ok (.goto 7, 3) := by decide +kernel
theorem d8_65 : decode prog_9_method_2_code 65 = .ok (.iload 6, 2) := by decide +kernel
theorem d8_67 : decode prog_9_method_2_code 67 = .ok (.istore 5, 2) := by decide +kernel
theorem d8_69 : decode prog_9_method_2_code 69 = .ok (.goto (-43), 3) := by decide +kernel
theorem d8_72 : decode prog_9_method_2_code 72 = .ok (.iload 4, 2) := by decide +kernel
theorem d8_74 : decode prog_9_method_2_code 74 = .ok (.ireturn, 1) := by decide +kernel
theorem ef_rmFA (m : MethodId) (x0 : Addr) (x1 : Int64) : entryFrame m #[(.ref x0), (.long x1)] 7 = mkF m 0 #[sR x0, sJ x1, sS, sU, sU, sU, sU] [] := by first | (simp [entryFrame, mkF, argsToLocals, Value.category]; done) | rfl
set_option maxRecDepth 65536 in
set_option maxHeartbeats 400000000 in
theorem rmFA (l : Launch) (Z : State) (a0 : Array Value) (hw : ∀ d ∈ tables_1, d.before a0 Z = true) (ws : List Jvm.Cond) (w_BITS_32 : Addr) (w_BITS_64 : Addr) (hS : SF Z w_BITS_32 w_BITS_64) (a1 : Addr) (q : Int64) (a2 ba : Addr) (k2 kb : ClassId) (n sf nb : Int32) (xs : List Int64) (N : Nat) (hn : n.toInt = xs.length) (hn6 : xs.length ≤ 6) (hs : sf = 30 ∨ sf = 31 ∨ sf = 62 ∨ sf = 63) (hN : nb.toInt = N) (hN4 : N ≤ 4) (hso : Srt xs) (hBq : B sf q < N) (h0 : Heap) (O0 : Ext Z.heap h0) (FP : Fld Z h0 a1 "com/example/lenkki/lenkki/PositionIndex" "positions" "[J" (.ref a2)) (FS : Fld Z h0 a1 "com/example/lenkki/lenkki/PositionIndex" "shift" "I" (.int sf)) (FB : Fld Z h0 a1 "com/example/lenkki/lenkki/PositionIndex" "bucketStarts" "[I" (.ref ba)) (VP : Arv Z h0 a2 k2 .long n (xs.map Value.long) (.long (0 : Int64))) (VB : Arv Z h0 ba kb .int (nb + (1 : Int32)) (PL sf xs N N) (.int 0)) :
    Con l Z h0 (⟨"com/example/lenkki/lenkki/PositionIndex", "firstAtOrAfter", "(J)I"⟩ : MethodName) prog_9_method_2_code 7 (some .int) ws ({ frames := 2, cells := 0, slots := 0, locals := 40 } : Room) #[(.ref a1), (.long q)] (fun v h L => v = some (.int (Int32.ofNat (cq xs q))) ∧ Fr Z.heap.size L ∧ h = h0) := by
  obtain ⟨S_BITS_32, E_BITS_32, F_BITS_32_bits, S_BITS_64, E_BITS_64, F_BITS_64_bits⟩ := id hS
  refine own_con (plainFor_of_name pn_195672) ?_
  intro p e s m below meth c T0 X0 hx hby hml hown hnm hret hlk hZ e0
  have hown : s.vm.findClass "com/example/lenkki/lenkki/PositionIndex" = some m.cls := hown
  have N0 := Fr.nil Z.heap.size
  refine Go.st (S' := T0.setTop (mkF m 0 #[sR a1, sJ q, sS, sU, sU, sU, sU] [])) (fun _ k => castTop (ef_rmFA m a1 q) k) ?_
  refine Go.st (S' := T0.setTop (mkF m 1 #[sR a1, sJ q, sS, sU, sU, sU, sU] [(.long q)])) (fun _ k => XS.lloadN X0.here hx rfl (hb hby d8_0) rfl k) ?_
  refine Go.st (S' := T0.setTop (mkF m 2 #[sR a1, sJ q, sS, sU, sU, sU, sU] [(.ref a1), (.long q)])) (fun _ k => XS.aloadN X0.here hx rfl (hb hby d8_1) rfl rfl k) ?_
  obtain ⟨T67, X67, e67, st67⟩ := getF X0 hx hZ hown (host := "") (Or.inl (ww hw 40 rfl)) Via.refl e0 FS (g := (mkF m 2 #[sR a1, sJ q, sS, sU, sU, sU, sU] [(.ref a1), (.long q)])) rfl rfl (hb hby d8_2)
  refine Go.st (S' := T67.setTop (mkF m 5 #[sR a1, sJ q, sS, sU, sU, sU, sU] [(.int sf), (.long q)])) st67 ?_
  refine Go.st (S' := T67.setTop (mkF m 6 #[sR a1, sJ q, sS, sU, sU, sU, sU] [(.long ((q.toUInt64 >>> (sf &&& 0x3f).toInt64.toUInt64).toInt64))])) (fun _ k => XS.lushr X67.here hx rfl (hb hby d8_5) rfl k) ?_
  refine Go.st (S' := T67.setTop (mkF m 7 #[sR a1, sJ q, sS, sU, sU, sU, sU] [(.int (((q.toUInt64 >>> (sf &&& 0x3f).toInt64.toUInt64).toInt64).toInt32))])) (fun _ k => XS.l2i X67.here hx rfl (hb hby d8_6) rfl k) ?_
  refine Go.st (S' := T67.setTop (mkF m 7 #[sR a1, sJ q, sS, sU, sU, sU, sU] [(.int (bI sf q))])) (fun _ k => by rw [(rfl : (((q.toUInt64 >>> (sf &&& 0x3f).toInt64.toUInt64).toInt64).toInt32) = (bI sf q))]; exact k) ?_
  obtain ⟨bk, hbk⟩ : ∃ z : Int32, z = (bI sf q) := ⟨_, rfl⟩
  refine Go.st (S' := T67.setTop (mkF m 7 #[sR a1, sJ q, sS, sU, sU, sU, sU] [(.int bk)])) (fun _ k => by rw [hbk] at k; exact k) ?_
  have hbk_ : bk.toInt = (B sf q : Nat) := by rw [hbk]; exact own_bI hs (by omega)
  refine Go.st (S' := T67.setTop (mkF m 8 #[sR a1, sJ q, sS, sI bk, sU, sU, sU] [])) (fun _ k => XS.istoreN X67.here hx rfl (hb hby d8_7) rfl (l' := #[sR a1, sJ q, sS, sI bk, sU, sU, sU]) rfl k) ?_
  refine Go.st (S' := T67.setTop (mkF m 9 #[sR a1, sJ q, sS, sI bk, sU, sU, sU] [(.ref a1)])) (fun _ k => XS.aloadN X67.here hx rfl (hb hby d8_8) rfl rfl k) ?_
  obtain ⟨T68, X68, e68, st68⟩ := getF X67 hx hZ hown (host := "") (Or.inl (ww hw 43 rfl)) Via.refl e67 FB (g := (mkF m 9 #[sR a1, sJ q, sS, sI bk, sU, sU, sU] [(.ref a1)])) rfl rfl (hb hby d8_9)
  refine Go.st (S' := T68.setTop (mkF m 12 #[sR a1, sJ q, sS, sI bk, sU, sU, sU] [(.ref ba)])) st68 ?_
  refine Go.st (S' := T68.setTop (mkF m 13 #[sR a1, sJ q, sS, sI bk, sU, sU, sU] [(.int bk), (.ref ba)])) (fun _ k => XS.iloadN X68.here hx rfl (hb hby d8_12) rfl k) ?_
  refine Go.st (S' := T68.setTop (mkF m 14 #[sR a1, sJ q, sS, sI bk, sU, sU, sU] [(.int (Int32.ofNat (Pn sf xs (B sf q))))])) (own_ldI X68 hx hZ e68 VB (own_bd (by omega) (by rw [own_nb1 hN hN4]; omega)) (by rw [own_tn hbk_]; exact own_PLn _ _ _ _ (by omega)) (g := (mkF m 13 #[sR a1, sJ q, sS, sI bk, sU, sU, sU] [(.int bk), (.ref ba)])) rfl rfl (hb hby d8_13)) ?_
  refine Go.st (S' := T68.setTop (mkF m 16 #[sR a1, sJ q, sS, sI bk, sI (Int32.ofNat (Pn sf xs (B sf q))), sU, sU] [])) (fun _ k => XS.istore X68.here hx rfl (hb hby d8_14) rfl (l' := #[sR a1, sJ q, sS, sI bk, sI (Int32.ofNat (Pn sf xs (B sf q))), sU, sU]) rfl k) ?_
  refine Go.st (S' := T68.setTop (mkF m 17 #[sR a1, sJ q, sS, sI bk, sI (Int32.ofNat (Pn sf xs (B sf q))), sU, sU] [(.ref a1)])) (fun _ k => XS.aloadN X68.here hx rfl (hb hby d8_16) rfl rfl k) ?_
  obtain ⟨T70, X70, e70, st70⟩ := getF X68 hx hZ hown (host := "") (Or.inl (ww hw 43 rfl)) Via.refl e68 FB (g := (mkF m 17 #[sR a1, sJ q, sS, sI bk, sI (Int32.ofNat (Pn sf xs (B sf q))), sU, sU] [(.ref a1)])) rfl rfl (hb hby d8_17)
  refine Go.st (S' := T70.setTop (mkF m 20 #[sR a1, sJ q, sS, sI bk, sI (Int32.ofNat (Pn sf xs (B sf q))), sU, sU] [(.ref ba)])) st70 ?_
  refine Go.st (S' := T70.setTop (mkF m 21 #[sR a1, sJ q, sS, sI bk, sI (Int32.ofNat (Pn sf xs (B sf q))), sU, sU] [(.int bk), (.ref ba)])) (fun _ k => XS.iloadN X70.here hx rfl (hb hby d8_20) rfl k) ?_
  refine Go.st (S' := T70.setTop (mkF m 22 #[sR a1, sJ q, sS, sI bk, sI (Int32.ofNat (Pn sf xs (B sf q))), sU, sU] [(.int (1 : Int32)), (.int bk), (.ref ba)])) (fun _ k => XS.iconst X70.here hx rfl (hb hby d8_21) k) ?_
  refine Go.st (S' := T70.setTop (mkF m 23 #[sR a1, sJ q, sS, sI bk, sI (Int32.ofNat (Pn sf xs (B sf q))), sU, sU] [(.int (bk + (1 : Int32))), (.ref ba)])) (fun _ k => XS.iadd X70.here hx rfl (hb hby d8_22) rfl k) ?_
  refine Go.st (S' := T70.setTop (mkF m 24 #[sR a1, sJ q, sS, sI bk, sI (Int32.ofNat (Pn sf xs (B sf q))), sU, sU] [(.int (Int32.ofNat (Pn sf xs (B sf q + 1))))])) (own_ldI X70 hx hZ e70 VB (own_bd (by rw [own_p1 hbk_ (by omega)]; omega) (by rw [own_p1 hbk_ (by omega), own_nb1 hN hN4]; omega)) (by rw [own_tn (own_p1 hbk_ (by omega))]; exact own_PLn _ _ _ _ (by omega)) (g := (mkF m 23 #[sR a1, sJ q, sS, sI bk, sI (Int32.ofNat (Pn sf xs (B sf q))), sU, sU] [(.int (bk + (1 : Int32))), (.ref ba)])) rfl rfl (hb hby d8_23)) ?_
  refine Go.st (S' := T70.setTop (mkF m 26 #[sR a1, sJ q, sS, sI bk, sI (Int32.ofNat (Pn sf xs (B sf q))), sI (Int32.ofNat (Pn sf xs (B sf q + 1))), sU] [])) (fun _ k => XS.istore X70.here hx rfl (hb hby d8_24) rfl (l' := #[sR a1, sJ q, sS, sI bk, sI (Int32.ofNat (Pn sf xs (B sf q))), sI (Int32.ofNat (Pn sf xs (B sf q + 1))), sU]) rfl k) ?_
  have ls : ∀ m_ : Nat, ∀ (Tj : State) (lj : List Loc) (hj : Heap) (Xj : Stand p l e ({ frames := 2, cells := 0, slots := 0, locals := 40 } : Room) s m #[(.ref a1), (.long q)] below meth c Tj lj 0 0) (ej : Tj.heap = hj) (Nj : Fr Z.heap.size lj) (Oj : Ext Z.heap hj) (i j : Nat) (lo hi : Int32) (u6 : Slot) (Fpj : Fld Z hj a1 "com/example/lenkki/lenkki/PositionIndex" "positions" "[J" (.ref a2)) (Vpj : Arv Z hj a2 k2 .long n (xs.map Value.long) (.long (0 : Int64))) (hej : hj = h0) (hlo : lo.toInt = i) (hhi : hi.toInt = j) (hbs : Bs xs q i j) (hfu : j ≤ i + m_) (hu : u6 = .unset ∨ ∃ z, u6 = sI z), Go p e below (Ret s (fun v h L => v = some (.int (Int32.ofNat (cq xs q))) ∧ Fr Z.heap.size L ∧ h = h0) ({ frames := 2, cells := 0, slots := 0, locals := 40 } : Room).cells ({ frames := 2, cells := 0, slots := 0, locals := 40 } : Room).slots) (Tj.setTop (mkF m 26 #[sR a1, sJ q, sS, sI bk, sI lo, sI hi, u6] [])) := by
    intro m_
    induction m_ with
    | zero =>
      intro Tj lj  hj Xj ej Nj Oj  i j lo hi u6 Fpj Vpj hej hlo hhi hbs hfu hu
      refine Go.st (S' := Tj.setTop (mkF m 28 #[sR a1, sJ q, sS, sI bk, sI lo, sI hi, u6] [(.int lo)])) (fun _ k => XS.iload Xj.here hx rfl (hb hby d8_26) rfl k) ?_
      refine Go.st (S' := Tj.setTop (mkF m 30 #[sR a1, sJ q, sS, sI bk, sI lo, sI hi, u6] [(.int hi), (.int lo)])) (fun _ k => XS.iload Xj.here hx rfl (hb hby d8_28) rfl k) ?_
      refine Go.st (S' := Tj.setTop (mkF m 72 #[sR a1, sJ q, sS, sI bk, sI lo, sI hi, u6] [])) (fun _ k => XS.icmpYes Xj.here hx rfl (pc0 := 30) (pc' := 72) rfl (hb hby d8_30) rfl (flt (fun q => absurd (Int32.lt_iff_toInt_lt.mp q) (by omega))).2.1 (by decide) (by decide) k) ?_
      refine Go.st (S' := Tj.setTop (mkF m 74 #[sR a1, sJ q, sS, sI bk, sI lo, sI hi, u6] [(.int lo)])) (fun _ k => XS.iload Xj.here hx rfl (hb hby d8_72) rfl k) ?_
      exact own_retI Xj hx hlk hret (hb hby d8_74) ej ⟨by rw [own_eqN hlo (by have := hbs.1; have := hbs.2.1; omega), own_BsE xs hso q i j hbs (by omega)], Nj, hej⟩ (by decide) (by decide)
    | succ m_ ih =>
      intro Tj lj  hj Xj ej Nj Oj  i j lo hi u6 Fpj Vpj hej hlo hhi hbs hfu hu
      refine Go.st (S' := Tj.setTop (mkF m 28 #[sR a1, sJ q, sS, sI bk, sI lo, sI hi, u6] [(.int lo)])) (fun _ k => XS.iload Xj.here hx rfl (hb hby d8_26) rfl k) ?_
      refine Go.st (S' := Tj.setTop (mkF m 30 #[sR a1, sJ q, sS, sI bk, sI lo, sI hi, u6] [(.int hi), (.int lo)])) (fun _ k => XS.iload Xj.here hx rfl (hb hby d8_28) rfl k) ?_
      by_cases hc30 : lo < hi
      · refine Go.st (S' := Tj.setTop (mkF m 33 #[sR a1, sJ q, sS, sI bk, sI lo, sI hi, u6] [])) (fun _ k => XS.icmpNo Xj.here hx rfl (hb hby d8_30) rfl (tlt hc30).2.1 k) ?_
        rcases hu with rfl | ⟨pz, rfl⟩
        · refine Go.st (S' := Tj.setTop (mkF m 35 #[sR a1, sJ q, sS, sI bk, sI lo, sI hi, sU] [(.int lo)])) (fun _ k => XS.iload Xj.here hx rfl (hb hby d8_33) rfl k) ?_
          refine Go.st (S' := Tj.setTop (mkF m 37 #[sR a1, sJ q, sS, sI bk, sI lo, sI hi, sU] [(.int hi), (.int lo)])) (fun _ k => XS.iload Xj.here hx rfl (hb hby d8_35) rfl k) ?_
          refine Go.st (S' := Tj.setTop (mkF m 38 #[sR a1, sJ q, sS, sI bk, sI lo, sI hi, sU] [(.int (lo + hi))])) (fun _ k => XS.iadd Xj.here hx rfl (hb hby d8_37) rfl k) ?_
          refine Go.st (S' := Tj.setTop (mkF m 39 #[sR a1, sJ q, sS, sI bk, sI lo, sI hi, sU] [(.int (1 : Int32)), (.int (lo + hi))])) (fun _ k => XS.iconst Xj.here hx rfl (hb hby d8_38) k) ?_
          refine Go.st (S' := Tj.setTop (mkF m 40 #[sR a1, sJ q, sS, sI bk, sI lo, sI hi, sU] [(.int (((lo + hi).toUInt32 >>> ((1 : Int32) &&& 31).toUInt32).toInt32))])) (fun _ k => XS.iushr Xj.here hx rfl (hb hby d8_39) rfl k) ?_
          obtain ⟨md, hmd⟩ : ∃ z : Int32, z = (((lo + hi).toUInt32 >>> ((1 : Int32) &&& 31).toUInt32).toInt32) := ⟨_, rfl⟩
          refine Go.st (S' := Tj.setTop (mkF m 40 #[sR a1, sJ q, sS, sI bk, sI lo, sI hi, sU] [(.int md)])) (fun _ k => by rw [hmd] at k; exact k) ?_
          have hlt_ : i < j := by have := Int32.lt_iff_toInt_lt.mp hc30; omega
          have hmdv : md.toInt = ((i + j) / 2 : Nat) := by rw [hmd]; exact own_mid hlo hhi hlt_ (by have := hbs.2.1; omega)
          refine Go.st (S' := Tj.setTop (mkF m 42 #[sR a1, sJ q, sS, sI bk, sI lo, sI hi, sI md] [])) (fun _ k => XS.istore Xj.here hx rfl (hb hby d8_40) rfl (l' := #[sR a1, sJ q, sS, sI bk, sI lo, sI hi, sI md]) rfl k) ?_
          refine Go.st (S' := Tj.setTop (mkF m 43 #[sR a1, sJ q, sS, sI bk, sI lo, sI hi, sI md] [(.ref a1)])) (fun _ k => XS.aloadN Xj.here hx rfl (hb hby d8_42) rfl rfl k) ?_
          obtain ⟨T72, X72, e72, st72⟩ := getF Xj hx hZ hown (host := "") (Or.inl (ww hw 22 rfl)) Via.refl ej Fpj (g := (mkF m 43 #[sR a1, sJ q, sS, sI bk, sI lo, sI hi, sI md] [(.ref a1)])) rfl rfl (hb hby d8_43)
          refine Go.st (S' := T72.setTop (mkF m 46 #[sR a1, sJ q, sS, sI bk, sI lo, sI hi, sI md] [(.ref a2)])) st72 ?_
          refine Go.st (S' := T72.setTop (mkF m 48 #[sR a1, sJ q, sS, sI bk, sI lo, sI hi, sI md] [(.int md), (.ref a2)])) (fun _ k => XS.iload X72.here hx rfl (hb hby d8_46) rfl k) ?_
          refine Go.st (S' := T72.setTop (mkF m 49 #[sR a1, sJ q, sS, sI bk, sI lo, sI hi, sI md] [(.long (xs.getD md.toNatClampNeg 0))])) (own_ldJ X72 hx hZ e72 Vpj (own_bd (by omega) (by have := hbs.2.1; omega)) (own_getJ xs _) (g := (mkF m 48 #[sR a1, sJ q, sS, sI bk, sI lo, sI hi, sI md] [(.int md), (.ref a2)])) rfl rfl (hb hby d8_48)) ?_
          refine Go.st (S' := T72.setTop (mkF m 49 #[sR a1, sJ q, sS, sI bk, sI lo, sI hi, sI md] [(.long (xs.getD ((i + j) / 2) 0))])) (fun _ k => by rw [(by rw [own_tn hmdv] : (xs.getD md.toNatClampNeg 0) = (xs.getD ((i + j) / 2) 0))]; exact k) ?_
          refine Go.st (S' := T72.setTop (mkF m 50 #[sR a1, sJ q, sS, sI bk, sI lo, sI hi, sI md] [(.long q), (.long (xs.getD ((i + j) / 2) 0))])) (fun _ k => XS.lloadN X72.here hx rfl (hb hby d8_49) rfl k) ?_
          obtain ⟨_, T74, L74, X74, ⟨⟨rc74, rfl, hrc74⟩, Nq74, eq74⟩, st74⟩ := own_callS X72 hx hZ hown (ww hw 50 rfl) (ww hw 51 rfl) (ww hw 52 rfl) (ww hw 53 rfl) (by decide) e72 (rmCU l Z a0 hw [] w_BITS_32 w_BITS_64 hS (xs.getD ((i + j) / 2) 0) q hj Oj) 0 (by decide) (by decide) (by decide) (by decide) (g := (mkF m 50 #[sR a1, sJ q, sS, sI bk, sI lo, sI hi, sI md] [(.long q), (.long (xs.getD ((i + j) / 2) 0))])) rfl (by rw [hml]; rfl) [(.long (xs.getD ((i + j) / 2) 0)), (.long q)] [] rfl (lenOf pd_212480 rfl) rfl (by show 2 * 0 + _ ≤ _; exact Nat.le_of_eq rfl) (hb hby d8_50)
          have N74 := Fr.app Nj Nq74
          refine Go.st (S' := T74.setTop (mkF m 53 #[sR a1, sJ q, sS, sI bk, sI lo, sI hi, sI md] [(.int rc74)])) st74 ?_
          by_cases hc53 : rc74 < (0 : Int32)
          · refine Go.st (S' := T74.setTop (mkF m 56 #[sR a1, sJ q, sS, sI bk, sI lo, sI hi, sI md] [])) (fun _ k => XS.ifNo X74.here hx rfl (hb hby d8_53) rfl ((if0 _ _).trans (tlt hc53).2.1) k) ?_
            refine Go.st (S' := T74.setTop (mkF m 58 #[sR a1, sJ q, sS, sI bk, sI lo, sI hi, sI md] [(.int md)])) (fun _ k => XS.iload X74.here hx rfl (hb hby d8_56) rfl k) ?_
            refine Go.st (S' := T74.setTop (mkF m 59 #[sR a1, sJ q, sS, sI bk, sI lo, sI hi, sI md] [(.int (1 : Int32)), (.int md)])) (fun _ k => XS.iconst X74.here hx rfl (hb hby d8_58) k) ?_
            refine Go.st (S' := T74.setTop (mkF m 60 #[sR a1, sJ q, sS, sI bk, sI lo, sI hi, sI md] [(.int (md + (1 : Int32)))])) (fun _ k => XS.iadd X74.here hx rfl (hb hby d8_59) rfl k) ?_
            refine Go.st (S' := T74.setTop (mkF m 62 #[sR a1, sJ q, sS, sI bk, sI (md + (1 : Int32)), sI hi, sI md] [])) (fun _ k => XS.istore X74.here hx rfl (hb hby d8_60) rfl (l' := #[sR a1, sJ q, sS, sI bk, sI (md + (1 : Int32)), sI hi, sI md]) rfl k) ?_
            refine Go.st (S' := T74.setTop (mkF m 69 #[sR a1, sJ q, sS, sI bk, sI (md + (1 : Int32)), sI hi, sI md] [])) (fun _ k => XS.goto X74.here hx rfl (pc0 := 62) (pc' := 69) rfl (hb hby d8_62) (by decide) (by decide) k) ?_
            refine Go.st (S' := T74.setTop (mkF m 26 #[sR a1, sJ q, sS, sI bk, sI (md + (1 : Int32)), sI hi, sI md] [])) (fun _ k => XS.goto X74.here hx rfl (pc0 := 69) (pc' := 26) rfl (hb hby d8_69) (by decide) (by decide) k) ?_
            exact ih  _ _ _ X74 eq74 N74 Oj  _ _ _ _ _ Fpj Vpj  hej (own_p1 hmdv (by have := hbs.2.1; omega)) hhi (own_BsL xs hso q i j ((i + j) / 2) hbs (by omega) (by omega) (hrc74.mp hc53)) (by omega) (Or.inr ⟨_, rfl⟩)
          · refine Go.st (S' := T74.setTop (mkF m 65 #[sR a1, sJ q, sS, sI bk, sI lo, sI hi, sI md] [])) (fun _ k => XS.ifYes X74.here hx rfl (pc0 := 53) (pc' := 65) rfl (hb hby d8_53) rfl ((if0 _ _).trans (flt hc53).2.1) (by decide) (by decide) k) ?_
            refine Go.st (S' := T74.setTop (mkF m 67 #[sR a1, sJ q, sS, sI bk, sI lo, sI hi, sI md] [(.int md)])) (fun _ k => XS.iload X74.here hx rfl (hb hby d8_65) rfl k) ?_
            refine Go.st (S' := T74.setTop (mkF m 69 #[sR a1, sJ q, sS, sI bk, sI lo, sI md, sI md] [])) (fun _ k => XS.istore X74.here hx rfl (hb hby d8_67) rfl (l' := #[sR a1, sJ q, sS, sI bk, sI lo, sI md, sI md]) rfl k) ?_
            refine Go.st (S' := T74.setTop (mkF m 26 #[sR a1, sJ q, sS, sI bk, sI lo, sI md, sI md] [])) (fun _ k => XS.goto X74.here hx rfl (pc0 := 69) (pc' := 26) rfl (hb hby d8_69) (by decide) (by decide) k) ?_
            exact ih  _ _ _ X74 eq74 N74 Oj  _ _ _ _ _ Fpj Vpj  hej hlo hmdv (own_BsH xs hso q i j ((i + j) / 2) hbs (by omega) (by omega) (fun q_ => hc53 (hrc74.mpr q_))) (by omega) (Or.inr ⟨_, rfl⟩)
        · refine Go.st (S' := Tj.setTop (mkF m 35 #[sR a1, sJ q, sS, sI bk, sI lo, sI hi, sI pz] [(.int lo)])) (fun _ k => XS.iload Xj.here hx rfl (hb hby d8_33) rfl k) ?_
          refine Go.st (S' := Tj.setTop (mkF m 37 #[sR a1, sJ q, sS, sI bk, sI lo, sI hi, sI pz] [(.int hi), (.int lo)])) (fun _ k => XS.iload Xj.here hx rfl (hb hby d8_35) rfl k) ?_
          refine Go.st (S' := Tj.setTop (mkF m 38 #[sR a1, sJ q, sS, sI bk, sI lo, sI hi, sI pz] [(.int (lo + hi))])) (fun _ k => XS.iadd Xj.here hx rfl (hb hby d8_37) rfl k) ?_
          refine Go.st (S' := Tj.setTop (mkF m 39 #[sR a1, sJ q, sS, sI bk, sI lo, sI hi, sI pz] [(.int (1 : Int32)), (.int (lo + hi))])) (fun _ k => XS.iconst Xj.here hx rfl (hb hby d8_38) k) ?_
          refine Go.st (S' := Tj.setTop (mkF m 40 #[sR a1, sJ q, sS, sI bk, sI lo, sI hi, sI pz] [(.int (((lo + hi).toUInt32 >>> ((1 : Int32) &&& 31).toUInt32).toInt32))])) (fun _ k => XS.iushr Xj.here hx rfl (hb hby d8_39) rfl k) ?_
          obtain ⟨md, hmd⟩ : ∃ z : Int32, z = (((lo + hi).toUInt32 >>> ((1 : Int32) &&& 31).toUInt32).toInt32) := ⟨_, rfl⟩
          refine Go.st (S' := Tj.setTop (mkF m 40 #[sR a1, sJ q, sS, sI bk, sI lo, sI hi, sI pz] [(.int md)])) (fun _ k => by rw [hmd] at k; exact k) ?_
          have hlt_ : i < j := by have := Int32.lt_iff_toInt_lt.mp hc30; omega
          have hmdv : md.toInt = ((i + j) / 2 : Nat) := by rw [hmd]; exact own_mid hlo hhi hlt_ (by have := hbs.2.1; omega)
          refine Go.st (S' := Tj.setTop (mkF m 42 #[sR a1, sJ q, sS, sI bk, sI lo, sI hi, sI md] [])) (fun _ k => XS.istore Xj.here hx rfl (hb hby d8_40) rfl (l' := #[sR a1, sJ q, sS, sI bk, sI lo, sI hi, sI md]) rfl k) ?_
          refine Go.st (S' := Tj.setTop (mkF m 43 #[sR a1, sJ q, sS, sI bk, sI lo, sI hi, sI md] [(.ref a1)])) (fun _ k => XS.aloadN Xj.here hx rfl (hb hby d8_42) rfl rfl k) ?_
          obtain ⟨T75, X75, e75, st75⟩ := getF Xj hx hZ hown (host := "") (Or.inl (ww hw 22 rfl)) Via.refl ej Fpj (g := (mkF m 43 #[sR a1, sJ q, sS, sI bk, sI lo, sI hi, sI md] [(.ref a1)])) rfl rfl (hb hby d8_43)
          refine Go.st (S' := T75.setTop (mkF m 46 #[sR a1, sJ q, sS, sI bk, sI lo, sI hi, sI md] [(.ref a2)])) st75 ?_
          refine Go.st (S' := T75.setTop (mkF m 48 #[sR a1, sJ q, sS, sI bk, sI lo, sI hi, sI md] [(.int md), (.ref a2)])) (fun _ k => XS.iload X75.here hx rfl (hb hby d8_46) rfl k) ?_
          refine Go.st (S' := T75.setTop (mkF m 49 #[sR a1, sJ q, sS, sI bk, sI lo, sI hi, sI md] [(.long (xs.getD md.toNatClampNeg 0))])) (own_ldJ X75 hx hZ e75 Vpj (own_bd (by omega) (by have := hbs.2.1; omega)) (own_getJ xs _) (g := (mkF m 48 #[sR a1, sJ q, sS, sI bk, sI lo, sI hi, sI md] [(.int md), (.ref a2)])) rfl rfl (hb hby d8_48)) ?_
          refine Go.st (S' := T75.setTop (mkF m 49 #[sR a1, sJ q, sS, sI bk, sI lo, sI hi, sI md] [(.long (xs.getD ((i + j) / 2) 0))])) (fun _ k => by rw [(by rw [own_tn hmdv] : (xs.getD md.toNatClampNeg 0) = (xs.getD ((i + j) / 2) 0))]; exact k) ?_
          refine Go.st (S' := T75.setTop (mkF m 50 #[sR a1, sJ q, sS, sI bk, sI lo, sI hi, sI md] [(.long q), (.long (xs.getD ((i + j) / 2) 0))])) (fun _ k => XS.lloadN X75.here hx rfl (hb hby d8_49) rfl k) ?_
          obtain ⟨_, T77, L77, X77, ⟨⟨rc77, rfl, hrc77⟩, Nq77, eq77⟩, st77⟩ := own_callS X75 hx hZ hown (ww hw 50 rfl) (ww hw 51 rfl) (ww hw 52 rfl) (ww hw 53 rfl) (by decide) e75 (rmCU l Z a0 hw [] w_BITS_32 w_BITS_64 hS (xs.getD ((i + j) / 2) 0) q hj Oj) 0 (by decide) (by decide) (by decide) (by decide) (g := (mkF m 50 #[sR a1, sJ q, sS, sI bk, sI lo, sI hi, sI md] [(.long q), (.long (xs.getD ((i + j) / 2) 0))])) rfl (by rw [hml]; rfl) [(.long (xs.getD ((i + j) / 2) 0)), (.long q)] [] rfl (lenOf pd_212480 rfl) rfl (by show 2 * 0 + _ ≤ _; exact Nat.le_of_eq rfl) (hb hby d8_50)
          have N77 := Fr.app Nj Nq77
          refine Go.st (S' := T77.setTop (mkF m 53 #[sR a1, sJ q, sS, sI bk, sI lo, sI hi, sI md] [(.int rc77)])) st77 ?_
          by_cases hc53_1 : rc77 < (0 : Int32)
          · refine Go.st (S' := T77.setTop (mkF m 56 #[sR a1, sJ q, sS, sI bk, sI lo, sI hi, sI md] [])) (fun _ k => XS.ifNo X77.here hx rfl (hb hby d8_53) rfl ((if0 _ _).trans (tlt hc53_1).2.1) k) ?_
            refine Go.st (S' := T77.setTop (mkF m 58 #[sR a1, sJ q, sS, sI bk, sI lo, sI hi, sI md] [(.int md)])) (fun _ k => XS.iload X77.here hx rfl (hb hby d8_56) rfl k) ?_
            refine Go.st (S' := T77.setTop (mkF m 59 #[sR a1, sJ q, sS, sI bk, sI lo, sI hi, sI md] [(.int (1 : Int32)), (.int md)])) (fun _ k => XS.iconst X77.here hx rfl (hb hby d8_58) k) ?_
            refine Go.st (S' := T77.setTop (mkF m 60 #[sR a1, sJ q, sS, sI bk, sI lo, sI hi, sI md] [(.int (md + (1 : Int32)))])) (fun _ k => XS.iadd X77.here hx rfl (hb hby d8_59) rfl k) ?_
            refine Go.st (S' := T77.setTop (mkF m 62 #[sR a1, sJ q, sS, sI bk, sI (md + (1 : Int32)), sI hi, sI md] [])) (fun _ k => XS.istore X77.here hx rfl (hb hby d8_60) rfl (l' := #[sR a1, sJ q, sS, sI bk, sI (md + (1 : Int32)), sI hi, sI md]) rfl k) ?_
            refine Go.st (S' := T77.setTop (mkF m 69 #[sR a1, sJ q, sS, sI bk, sI (md + (1 : Int32)), sI hi, sI md] [])) (fun _ k => XS.goto X77.here hx rfl (pc0 := 62) (pc' := 69) rfl (hb hby d8_62) (by decide) (by decide) k) ?_
            refine Go.st (S' := T77.setTop (mkF m 26 #[sR a1, sJ q, sS, sI bk, sI (md + (1 : Int32)), sI hi, sI md] [])) (fun _ k => XS.goto X77.here hx rfl (pc0 := 69) (pc' := 26) rfl (hb hby d8_69) (by decide) (by decide) k) ?_
            exact ih  _ _ _ X77 eq77 N77 Oj  _ _ _ _ _ Fpj Vpj  hej (own_p1 hmdv (by have := hbs.2.1; omega)) hhi (own_BsL xs hso q i j ((i + j) / 2) hbs (by omega) (by omega) (hrc77.mp hc53_1)) (by omega) (Or.inr ⟨_, rfl⟩)
          · refine Go.st (S' := T77.setTop (mkF m 65 #[sR a1, sJ q, sS, sI bk, sI lo, sI hi, sI md] [])) (fun _ k => XS.ifYes X77.here hx rfl (pc0 := 53) (pc' := 65) rfl (hb hby d8_53) rfl ((if0 _ _).trans (flt hc53_1).2.1) (by decide) (by decide) k) ?_
            refine Go.st (S' := T77.setTop (mkF m 67 #[sR a1, sJ q, sS, sI bk, sI lo, sI hi, sI md] [(.int md)])) (fun _ k => XS.iload X77.here hx rfl (hb hby d8_65) rfl k) ?_
            refine Go.st (S' := T77.setTop (mkF m 69 #[sR a1, sJ q, sS, sI bk, sI lo, sI md, sI md] [])) (fun _ k => XS.istore X77.here hx rfl (hb hby d8_67) rfl (l' := #[sR a1, sJ q, sS, sI bk, sI lo, sI md, sI md]) rfl k) ?_
            refine Go.st (S' := T77.setTop (mkF m 26 #[sR a1, sJ q, sS, sI bk, sI lo, sI md, sI md] [])) (fun _ k => XS.goto X77.here hx rfl (pc0 := 69) (pc' := 26) rfl (hb hby d8_69) (by decide) (by decide) k) ?_
            exact ih  _ _ _ X77 eq77 N77 Oj  _ _ _ _ _ Fpj Vpj  hej hlo hmdv (own_BsH xs hso q i j ((i + j) / 2) hbs (by omega) (by omega) (fun q_ => hc53_1 (hrc77.mpr q_))) (by omega) (Or.inr ⟨_, rfl⟩)
      · refine Go.st (S' := Tj.setTop (mkF m 72 #[sR a1, sJ q, sS, sI bk, sI lo, sI hi, u6] [])) (fun _ k => XS.icmpYes Xj.here hx rfl (pc0 := 30) (pc' := 72) rfl (hb hby d8_30) rfl (flt hc30).2.1 (by decide) (by decide) k) ?_
        refine Go.st (S' := Tj.setTop (mkF m 74 #[sR a1, sJ q, sS, sI bk, sI lo, sI hi, u6] [(.int lo)])) (fun _ k => XS.iload Xj.here hx rfl (hb hby d8_72) rfl k) ?_
        exact own_retI Xj hx hlk hret (hb hby d8_74) ej ⟨by rw [own_eqN hlo (by have := hbs.1; have := hbs.2.1; omega), own_BsE xs hso q i j hbs (fun q_ => hc30 (Int32.lt_iff_toInt_lt.mpr (by omega)))], Nj, hej⟩ (by decide) (by decide)
  exact ls xs.length _ _ _ X70 e70 N0 O0  _ _ _ _ _ FP VP  rfl (own_on (by have := (own_Bs0 sf xs hso q).2.1; have := (own_Bs0 sf xs hso q).1; omega)) (own_on (by have := (own_Bs0 sf xs hso q).2.1; omega)) (own_Bs0 sf xs hso q) (by have := (own_Bs0 sf xs hso q).2.1; omega) (Or.inl rfl)
theorem d11_0 : decode method_5_code 0 = .ok (.iconst 0, 1) := by decide +kernel
theorem d11_1 : decode method_5_code 1 = .ok (.istore 4, 2) := by decide +kernel
theorem d11_3 : decode method_5_code 3 = .ok (.iload_n 1, 1) := by decide +kernel
theorem d11_4 : decode method_5_code 4 = .ok (.ifCond .le 16, 3) := by decide +kernel
theorem d11_20 : decode method_5_code 20 = .ok (.iload_n 1, 1) := by decide +kernel
theorem d11_21 : decode method_5_code 21 = .ok (.iconst 1, 1) := by decide +kernel
theorem d11_22 : decode method_5_code 22 = .ok (.if_icmp .le 16, 3) := by decide +kernel
theorem d11_38 : decode method_5_code 38 = .ok (.iload_n 1, 1) := by decide +kernel
theorem d11_39 : decode method_5_code 39 = .ok (.iconst 2, 1) := by decide +kernel
theorem d11_40 : decode method_5_code 40 = .ok (.if_icmp .le 16, 3) := by decide +kernel
theorem d11_56 : decode method_5_code 56 = .ok (.iload_n 1, 1) := by decide +kernel
theorem d11_57 : decode method_5_code 57 = .ok (.iconst 3, 1) := by decide +kernel
theorem d11_58 : decode method_5_code 58 = .ok (.if_icmp .le 16, 3) := by decide +kernel
theorem d11_74 : decode method_5_code 74 = .ok (.iload_n 1, 1) := by decide +kernel
theorem d11_75 : decode method_5_code 75 = .ok (.iconst 4, 1) := by decide +kernel
theorem d11_76 : decode method_5_code 76 = .ok (.if_icmp .le 16, 3) := by decide +kernel
theorem d11_92 : decode method_5_code 92 = .ok (.iload_n 1, 1) := by decide +kernel
theorem d11_93 : decode method_5_code 93 = .ok (.iconst 5, 1) := by decide +kernel
theorem d11_94 : decode method_5_code 94 = .ok (.if_icmp .le 16, 3) := by decide +kernel
theorem d11_110 : decode method_5_code 110 = .ok (.iload 4, 2) := by decide +kernel
theorem d11_112 : decode method_5_code 112 = .ok (.ireturn, 1) := by decide +kernel
theorem ef_rmBl0 (m : MethodId) (x0 : Addr) (x1 : Int32) (x2 : Int64) : entryFrame m #[(.ref x0), (.int x1), (.long x2)] 5 = mkF m 0 #[sR x0, sI x1, sJ x2, sS, sU] [] := by first | (simp [entryFrame, mkF, argsToLocals, Value.category]; done) | rfl
set_option maxRecDepth 65536 in
set_option maxHeartbeats 400000000 in
theorem rmBl0 (l : Launch) (Z : State) (a0 : Array Value) (hw : ∀ d ∈ tables_1, d.before a0 Z = true) (ws : List Jvm.Cond) (w_BITS_32 : Addr) (w_BITS_64 : Addr) (hS : SF Z w_BITS_32 w_BITS_64) (a1 : Addr) (q : Int64) (k1 : ClassId)  (h0 : Heap) (O0 : Ext Z.heap h0) (VA : Arv Z h0 a1 k1 .long (0 : Int32) [] (.long (0 : Int64))) :
    Con l Z h0 (⟨"com/example/lenkki/lenkki/PositionIndexFirstAtOrAfterPinLaw", "below", "([JIJ)I"⟩ : MethodName) method_5_code 5 (some .int) ws ({ frames := 1, cells := 0, slots := 0, locals := 15 } : Room) #[(.ref a1), (.int (0 : Int32)), (.long q)] (fun v h L => v = some (.int (Int32.ofNat (cq [] q))) ∧ Fr Z.heap.size L ∧ h = h0) := by
  obtain ⟨S_BITS_32, E_BITS_32, F_BITS_32_bits, S_BITS_64, E_BITS_64, F_BITS_64_bits⟩ := id hS
  refine own_con (plainFor_of_name pn_372981) ?_
  intro p e s m below meth c T0 X0 hx hby hml hown hnm hret hlk hZ e0
  have hown : s.vm.findClass "com/example/lenkki/lenkki/PositionIndexFirstAtOrAfterPinLaw" = some m.cls := hown
  have N0 := Fr.nil Z.heap.size
  refine Go.st (S' := T0.setTop (mkF m 0 #[sR a1, sI 0, sJ q, sS, sU] [])) (fun _ k => castTop (ef_rmBl0 m a1 (0 : Int32) q) k) ?_
  refine Go.st (S' := T0.setTop (mkF m 1 #[sR a1, sI 0, sJ q, sS, sU] [(.int (0 : Int32))])) (fun _ k => XS.iconst X0.here hx rfl (hb hby d11_0) k) ?_
  refine Go.st (S' := T0.setTop (mkF m 3 #[sR a1, sI 0, sJ q, sS, sI 0] [])) (fun _ k => XS.istore X0.here hx rfl (hb hby d11_1) rfl (l' := #[sR a1, sI 0, sJ q, sS, sI 0]) rfl k) ?_
  refine Go.st (S' := T0.setTop (mkF m 4 #[sR a1, sI 0, sJ q, sS, sI 0] [(.int (0 : Int32))])) (fun _ k => XS.iloadN X0.here hx rfl (hb hby d11_3) rfl k) ?_
  have kb0 : ∀ (Tj : State) (lj : List Loc) (hj : Heap) (Xj : Stand p l e ({ frames := 1, cells := 0, slots := 0, locals := 15 } : Room) s m #[(.ref a1), (.int (0 : Int32)), (.long q)] below meth c Tj lj 0 0) (ej : Tj.heap = hj) (Nj : Fr Z.heap.size lj) (Oj : Ext Z.heap hj) (c1 : Int32) (Vj0 : Arv Z hj a1 k1 .long (0 : Int32) [] (.long (0 : Int64))) (hej0 : hj = h0) (hcq1 : c1 = Int32.ofNat (cq [] q)), Go p e below (Ret s (fun v h L => v = some (.int (Int32.ofNat (cq [] q))) ∧ Fr Z.heap.size L ∧ h = h0) ({ frames := 1, cells := 0, slots := 0, locals := 15 } : Room).cells ({ frames := 1, cells := 0, slots := 0, locals := 15 } : Room).slots) (Tj.setTop (mkF m 20 #[sR a1, sI 0, sJ q, sS, sI c1] [])) := by
    intro Tj lj  hj Xj ej Nj Oj  c1 Vj0 hej0 hcq1
    refine Go.st (S' := Tj.setTop (mkF m 21 #[sR a1, sI 0, sJ q, sS, sI c1] [(.int (0 : Int32))])) (fun _ k => XS.iloadN Xj.here hx rfl (hb hby d11_20) rfl k) ?_
    have kb1 : ∀ (Tj : State) (lj : List Loc) (hj : Heap) (Xj : Stand p l e ({ frames := 1, cells := 0, slots := 0, locals := 15 } : Room) s m #[(.ref a1), (.int (0 : Int32)), (.long q)] below meth c Tj lj 0 0) (ej : Tj.heap = hj) (Nj : Fr Z.heap.size lj) (Oj : Ext Z.heap hj) (c2 : Int32) (Vj1 : Arv Z hj a1 k1 .long (0 : Int32) [] (.long (0 : Int64))) (hej1 : hj = h0) (hcq2 : c2 = Int32.ofNat (cq [] q)), Go p e below (Ret s (fun v h L => v = some (.int (Int32.ofNat (cq [] q))) ∧ Fr Z.heap.size L ∧ h = h0) ({ frames := 1, cells := 0, slots := 0, locals := 15 } : Room).cells ({ frames := 1, cells := 0, slots := 0, locals := 15 } : Room).slots) (Tj.setTop (mkF m 38 #[sR a1, sI 0, sJ q, sS, sI c2] [])) := by
      intro Tj lj  hj Xj ej Nj Oj  c2 Vj1 hej1 hcq2
      refine Go.st (S' := Tj.setTop (mkF m 39 #[sR a1, sI 0, sJ q, sS, sI c2] [(.int (0 : Int32))])) (fun _ k => XS.iloadN Xj.here hx rfl (hb hby d11_38) rfl k) ?_
      have kb2 : ∀ (Tj : State) (lj : List Loc) (hj : Heap) (Xj : Stand p l e ({ frames := 1, cells := 0, slots := 0, locals := 15 } : Room) s m #[(.ref a1), (.int (0 : Int32)), (.long q)] below meth c Tj lj 0 0) (ej : Tj.heap = hj) (Nj : Fr Z.heap.size lj) (Oj : Ext Z.heap hj) (c3 : Int32) (Vj2 : Arv Z hj a1 k1 .long (0 : Int32) [] (.long (0 : Int64))) (hej2 : hj = h0) (hcq3 : c3 = Int32.ofNat (cq [] q)), Go p e below (Ret s (fun v h L => v = some (.int (Int32.ofNat (cq [] q))) ∧ Fr Z.heap.size L ∧ h = h0) ({ frames := 1, cells := 0, slots := 0, locals := 15 } : Room).cells ({ frames := 1, cells := 0, slots := 0, locals := 15 } : Room).slots) (Tj.setTop (mkF m 56 #[sR a1, sI 0, sJ q, sS, sI c3] [])) := by
        intro Tj lj  hj Xj ej Nj Oj  c3 Vj2 hej2 hcq3
        refine Go.st (S' := Tj.setTop (mkF m 57 #[sR a1, sI 0, sJ q, sS, sI c3] [(.int (0 : Int32))])) (fun _ k => XS.iloadN Xj.here hx rfl (hb hby d11_56) rfl k) ?_
        have kb3 : ∀ (Tj : State) (lj : List Loc) (hj : Heap) (Xj : Stand p l e ({ frames := 1, cells := 0, slots := 0, locals := 15 } : Room) s m #[(.ref a1), (.int (0 : Int32)), (.long q)] below meth c Tj lj 0 0) (ej : Tj.heap = hj) (Nj : Fr Z.heap.size lj) (Oj : Ext Z.heap hj) (c4 : Int32) (Vj3 : Arv Z hj a1 k1 .long (0 : Int32) [] (.long (0 : Int64))) (hej3 : hj = h0) (hcq4 : c4 = Int32.ofNat (cq [] q)), Go p e below (Ret s (fun v h L => v = some (.int (Int32.ofNat (cq [] q))) ∧ Fr Z.heap.size L ∧ h = h0) ({ frames := 1, cells := 0, slots := 0, locals := 15 } : Room).cells ({ frames := 1, cells := 0, slots := 0, locals := 15 } : Room).slots) (Tj.setTop (mkF m 74 #[sR a1, sI 0, sJ q, sS, sI c4] [])) := by
          intro Tj lj  hj Xj ej Nj Oj  c4 Vj3 hej3 hcq4
          refine Go.st (S' := Tj.setTop (mkF m 75 #[sR a1, sI 0, sJ q, sS, sI c4] [(.int (0 : Int32))])) (fun _ k => XS.iloadN Xj.here hx rfl (hb hby d11_74) rfl k) ?_
          have kb4 : ∀ (Tj : State) (lj : List Loc) (hj : Heap) (Xj : Stand p l e ({ frames := 1, cells := 0, slots := 0, locals := 15 } : Room) s m #[(.ref a1), (.int (0 : Int32)), (.long q)] below meth c Tj lj 0 0) (ej : Tj.heap = hj) (Nj : Fr Z.heap.size lj) (Oj : Ext Z.heap hj) (c5 : Int32) (Vj4 : Arv Z hj a1 k1 .long (0 : Int32) [] (.long (0 : Int64))) (hej4 : hj = h0) (hcq5 : c5 = Int32.ofNat (cq [] q)), Go p e below (Ret s (fun v h L => v = some (.int (Int32.ofNat (cq [] q))) ∧ Fr Z.heap.size L ∧ h = h0) ({ frames := 1, cells := 0, slots := 0, locals := 15 } : Room).cells ({ frames := 1, cells := 0, slots := 0, locals := 15 } : Room).slots) (Tj.setTop (mkF m 92 #[sR a1, sI 0, sJ q, sS, sI c5] [])) := by
            intro Tj lj  hj Xj ej Nj Oj  c5 Vj4 hej4 hcq5
            refine Go.st (S' := Tj.setTop (mkF m 93 #[sR a1, sI 0, sJ q, sS, sI c5] [(.int (0 : Int32))])) (fun _ k => XS.iloadN Xj.here hx rfl (hb hby d11_92) rfl k) ?_
            have kb5 : ∀ (Tj : State) (lj : List Loc) (hj : Heap) (Xj : Stand p l e ({ frames := 1, cells := 0, slots := 0, locals := 15 } : Room) s m #[(.ref a1), (.int (0 : Int32)), (.long q)] below meth c Tj lj 0 0) (ej : Tj.heap = hj) (Nj : Fr Z.heap.size lj) (Oj : Ext Z.heap hj) (c6 : Int32) (Vj5 : Arv Z hj a1 k1 .long (0 : Int32) [] (.long (0 : Int64))) (hej5 : hj = h0) (hcq6 : c6 = Int32.ofNat (cq [] q)), Go p e below (Ret s (fun v h L => v = some (.int (Int32.ofNat (cq [] q))) ∧ Fr Z.heap.size L ∧ h = h0) ({ frames := 1, cells := 0, slots := 0, locals := 15 } : Room).cells ({ frames := 1, cells := 0, slots := 0, locals := 15 } : Room).slots) (Tj.setTop (mkF m 110 #[sR a1, sI 0, sJ q, sS, sI c6] [])) := by
              intro Tj lj  hj Xj ej Nj Oj  c6 Vj5 hej5 hcq6
              refine Go.st (S' := Tj.setTop (mkF m 112 #[sR a1, sI 0, sJ q, sS, sI c6] [(.int c6)])) (fun _ k => XS.iload Xj.here hx rfl (hb hby d11_110) rfl k) ?_
              exact own_retI Xj hx hlk hret (hb hby d11_112) ej ⟨by rw [hcq6], Nj, hej5⟩ (by decide) (by decide)
            refine Go.st (S' := Tj.setTop (mkF m 94 #[sR a1, sI 0, sJ q, sS, sI c5] [(.int (5 : Int32)), (.int (0 : Int32))])) (fun _ k => XS.iconst Xj.here hx rfl (hb hby d11_93) k) ?_
            refine Go.st (S' := Tj.setTop (mkF m 110 #[sR a1, sI 0, sJ q, sS, sI c5] [])) (fun _ k => XS.icmpYes Xj.here hx rfl (pc0 := 94) (pc' := 110) rfl (hb hby d11_94) rfl (flt (by decide)).2.2.2 (by decide) (by decide) k) ?_
            exact kb5  _ _ _ Xj ej Nj Oj  _ Vj4  hej4 hcq5
          refine Go.st (S' := Tj.setTop (mkF m 76 #[sR a1, sI 0, sJ q, sS, sI c4] [(.int (4 : Int32)), (.int (0 : Int32))])) (fun _ k => XS.iconst Xj.here hx rfl (hb hby d11_75) k) ?_
          refine Go.st (S' := Tj.setTop (mkF m 92 #[sR a1, sI 0, sJ q, sS, sI c4] [])) (fun _ k => XS.icmpYes Xj.here hx rfl (pc0 := 76) (pc' := 92) rfl (hb hby d11_76) rfl (flt (by decide)).2.2.2 (by decide) (by decide) k) ?_
          exact kb4  _ _ _ Xj ej Nj Oj  _ Vj3  hej3 hcq4
        refine Go.st (S' := Tj.setTop (mkF m 58 #[sR a1, sI 0, sJ q, sS, sI c3] [(.int (3 : Int32)), (.int (0 : Int32))])) (fun _ k => XS.iconst Xj.here hx rfl (hb hby d11_57) k) ?_
        refine Go.st (S' := Tj.setTop (mkF m 74 #[sR a1, sI 0, sJ q, sS, sI c3] [])) (fun _ k => XS.icmpYes Xj.here hx rfl (pc0 := 58) (pc' := 74) rfl (hb hby d11_58) rfl (flt (by decide)).2.2.2 (by decide) (by decide) k) ?_
        exact kb3  _ _ _ Xj ej Nj Oj  _ Vj2  hej2 hcq3
      refine Go.st (S' := Tj.setTop (mkF m 40 #[sR a1, sI 0, sJ q, sS, sI c2] [(.int (2 : Int32)), (.int (0 : Int32))])) (fun _ k => XS.iconst Xj.here hx rfl (hb hby d11_39) k) ?_
      refine Go.st (S' := Tj.setTop (mkF m 56 #[sR a1, sI 0, sJ q, sS, sI c2] [])) (fun _ k => XS.icmpYes Xj.here hx rfl (pc0 := 40) (pc' := 56) rfl (hb hby d11_40) rfl (flt (by decide)).2.2.2 (by decide) (by decide) k) ?_
      exact kb2  _ _ _ Xj ej Nj Oj  _ Vj1  hej1 hcq2
    refine Go.st (S' := Tj.setTop (mkF m 22 #[sR a1, sI 0, sJ q, sS, sI c1] [(.int (1 : Int32)), (.int (0 : Int32))])) (fun _ k => XS.iconst Xj.here hx rfl (hb hby d11_21) k) ?_
    refine Go.st (S' := Tj.setTop (mkF m 38 #[sR a1, sI 0, sJ q, sS, sI c1] [])) (fun _ k => XS.icmpYes Xj.here hx rfl (pc0 := 22) (pc' := 38) rfl (hb hby d11_22) rfl (flt (by decide)).2.2.2 (by decide) (by decide) k) ?_
    exact kb1  _ _ _ Xj ej Nj Oj  _ Vj0  hej0 hcq1
  refine Go.st (S' := T0.setTop (mkF m 20 #[sR a1, sI 0, sJ q, sS, sI 0] [])) (fun _ k => XS.ifYes X0.here hx rfl (pc0 := 4) (pc' := 20) rfl (hb hby d11_4) rfl ((if0 _ _).trans (flt (by decide)).2.2.2) (by decide) (by decide) k) ?_
  exact kb0  _ _ _ X0 e0 N0 O0  _ VA  rfl rfl
theorem d11_7 : decode method_5_code 7 = .ok (.aload_n 0, 1) := by decide +kernel
theorem d11_8 : decode method_5_code 8 = .ok (.iconst 0, 1) := by decide +kernel
theorem d11_9 : decode method_5_code 9 = .ok (.laload, 1) := by decide +kernel
theorem d11_10 : decode method_5_code 10 = .ok (.lload_n 2, 1) := by decide +kernel
theorem d11_11 : decode method_5_code 11 = .ok (.invokestatic 45, 3) := by decide +kernel
theorem d11_14 : decode method_5_code 14 = .ok (.ifCond .eq 6, 3) := by decide +kernel
theorem d11_17 : decode method_5_code 17 = .ok (.iinc 4 1, 3) := by decide +kernel
theorem ef_rmBl1 (m : MethodId) (x0 : Addr) (x1 : Int32) (x2 : Int64) : entryFrame m #[(.ref x0), (.int x1), (.long x2)] 5 = mkF m 0 #[sR x0, sI x1, sJ x2, sS, sU] [] := by first | (simp [entryFrame, mkF, argsToLocals, Value.category]; done) | rfl
set_option maxRecDepth 65536 in
set_option maxHeartbeats 400000000 in
theorem rmBl1 (l : Launch) (Z : State) (a0 : Array Value) (hw : ∀ d ∈ tables_1, d.before a0 Z = true) (ws : List Jvm.Cond) (w_BITS_32 : Addr) (w_BITS_64 : Addr) (hS : SF Z w_BITS_32 w_BITS_64) (a1 : Addr) (q : Int64) (k1 : ClassId) (x0 : Int64) (h0 : Heap) (O0 : Ext Z.heap h0) (VA : Arv Z h0 a1 k1 .long (1 : Int32) [(.long x0)] (.long (0 : Int64))) :
    Con l Z h0 (⟨"com/example/lenkki/lenkki/PositionIndexFirstAtOrAfterPinLaw", "below", "([JIJ)I"⟩ : MethodName) method_5_code 5 (some .int) ws ({ frames := 1, cells := 0, slots := 0, locals := 15 } : Room) #[(.ref a1), (.int (1 : Int32)), (.long q)] (fun v h L => v = some (.int (Int32.ofNat (cq [x0] q))) ∧ Fr Z.heap.size L ∧ h = h0) := by
  obtain ⟨S_BITS_32, E_BITS_32, F_BITS_32_bits, S_BITS_64, E_BITS_64, F_BITS_64_bits⟩ := id hS
  refine own_con (plainFor_of_name pn_372981) ?_
  intro p e s m below meth c T0 X0 hx hby hml hown hnm hret hlk hZ e0
  have hown : s.vm.findClass "com/example/lenkki/lenkki/PositionIndexFirstAtOrAfterPinLaw" = some m.cls := hown
  have N0 := Fr.nil Z.heap.size
  refine Go.st (S' := T0.setTop (mkF m 0 #[sR a1, sI 1, sJ q, sS, sU] [])) (fun _ k => castTop (ef_rmBl1 m a1 (1 : Int32) q) k) ?_
  refine Go.st (S' := T0.setTop (mkF m 1 #[sR a1, sI 1, sJ q, sS, sU] [(.int (0 : Int32))])) (fun _ k => XS.iconst X0.here hx rfl (hb hby d11_0) k) ?_
  refine Go.st (S' := T0.setTop (mkF m 3 #[sR a1, sI 1, sJ q, sS, sI 0] [])) (fun _ k => XS.istore X0.here hx rfl (hb hby d11_1) rfl (l' := #[sR a1, sI 1, sJ q, sS, sI 0]) rfl k) ?_
  refine Go.st (S' := T0.setTop (mkF m 4 #[sR a1, sI 1, sJ q, sS, sI 0] [(.int (1 : Int32))])) (fun _ k => XS.iloadN X0.here hx rfl (hb hby d11_3) rfl k) ?_
  have kb0 : ∀ (Tj : State) (lj : List Loc) (hj : Heap) (Xj : Stand p l e ({ frames := 1, cells := 0, slots := 0, locals := 15 } : Room) s m #[(.ref a1), (.int (1 : Int32)), (.long q)] below meth c Tj lj 0 0) (ej : Tj.heap = hj) (Nj : Fr Z.heap.size lj) (Oj : Ext Z.heap hj) (c1 : Int32) (Vj0 : Arv Z hj a1 k1 .long (1 : Int32) [(.long x0)] (.long (0 : Int64))) (hej0 : hj = h0) (hcq1 : c1 = Int32.ofNat (cq [x0] q)), Go p e below (Ret s (fun v h L => v = some (.int (Int32.ofNat (cq [x0] q))) ∧ Fr Z.heap.size L ∧ h = h0) ({ frames := 1, cells := 0, slots := 0, locals := 15 } : Room).cells ({ frames := 1, cells := 0, slots := 0, locals := 15 } : Room).slots) (Tj.setTop (mkF m 20 #[sR a1, sI 1, sJ q, sS, sI c1] [])) := by
    intro Tj lj  hj Xj ej Nj Oj  c1 Vj0 hej0 hcq1
    refine Go.st (S' := Tj.setTop (mkF m 21 #[sR a1, sI 1, sJ q, sS, sI c1] [(.int (1 : Int32))])) (fun _ k => XS.iloadN Xj.here hx rfl (hb hby d11_20) rfl k) ?_
    have kb1 : ∀ (Tj : State) (lj : List Loc) (hj : Heap) (Xj : Stand p l e ({ frames := 1, cells := 0, slots := 0, locals := 15 } : Room) s m #[(.ref a1), (.int (1 : Int32)), (.long q)] below meth c Tj lj 0 0) (ej : Tj.heap = hj) (Nj : Fr Z.heap.size lj) (Oj : Ext Z.heap hj) (c2 : Int32) (Vj1 : Arv Z hj a1 k1 .long (1 : Int32) [(.long x0)] (.long (0 : Int64))) (hej1 : hj = h0) (hcq2 : c2 = Int32.ofNat (cq [x0] q)), Go p e below (Ret s (fun v h L => v = some (.int (Int32.ofNat (cq [x0] q))) ∧ Fr Z.heap.size L ∧ h = h0) ({ frames := 1, cells := 0, slots := 0, locals := 15 } : Room).cells ({ frames := 1, cells := 0, slots := 0, locals := 15 } : Room).slots) (Tj.setTop (mkF m 38 #[sR a1, sI 1, sJ q, sS, sI c2] [])) := by
      intro Tj lj  hj Xj ej Nj Oj  c2 Vj1 hej1 hcq2
      refine Go.st (S' := Tj.setTop (mkF m 39 #[sR a1, sI 1, sJ q, sS, sI c2] [(.int (1 : Int32))])) (fun _ k => XS.iloadN Xj.here hx rfl (hb hby d11_38) rfl k) ?_
      have kb2 : ∀ (Tj : State) (lj : List Loc) (hj : Heap) (Xj : Stand p l e ({ frames := 1, cells := 0, slots := 0, locals := 15 } : Room) s m #[(.ref a1), (.int (1 : Int32)), (.long q)] below meth c Tj lj 0 0) (ej : Tj.heap = hj) (Nj : Fr Z.heap.size lj) (Oj : Ext Z.heap hj) (c3 : Int32) (Vj2 : Arv Z hj a1 k1 .long (1 : Int32) [(.long x0)] (.long (0 : Int64))) (hej2 : hj = h0) (hcq3 : c3 = Int32.ofNat (cq [x0] q)), Go p e below (Ret s (fun v h L => v = some (.int (Int32.ofNat (cq [x0] q))) ∧ Fr Z.heap.size L ∧ h = h0) ({ frames := 1, cells := 0, slots := 0, locals := 15 } : Room).cells ({ frames := 1, cells := 0, slots := 0, locals := 15 } : Room).slots) (Tj.setTop (mkF m 56 #[sR a1, sI 1, sJ q, sS, sI c3] [])) := by
        intro Tj lj  hj Xj ej Nj Oj  c3 Vj2 hej2 hcq3
        refine Go.st (S' := Tj.setTop (mkF m 57 #[sR a1, sI 1, sJ q, sS, sI c3] [(.int (1 : Int32))])) (fun _ k => XS.iloadN Xj.here hx rfl (hb hby d11_56) rfl k) ?_
        have kb3 : ∀ (Tj : State) (lj : List Loc) (hj : Heap) (Xj : Stand p l e ({ frames := 1, cells := 0, slots := 0, locals := 15 } : Room) s m #[(.ref a1), (.int (1 : Int32)), (.long q)] below meth c Tj lj 0 0) (ej : Tj.heap = hj) (Nj : Fr Z.heap.size lj) (Oj : Ext Z.heap hj) (c4 : Int32) (Vj3 : Arv Z hj a1 k1 .long (1 : Int32) [(.long x0)] (.long (0 : Int64))) (hej3 : hj = h0) (hcq4 : c4 = Int32.ofNat (cq [x0] q)), Go p e below (Ret s (fun v h L => v = some (.int (Int32.ofNat (cq [x0] q))) ∧ Fr Z.heap.size L ∧ h = h0) ({ frames := 1, cells := 0, slots := 0, locals := 15 } : Room).cells ({ frames := 1, cells := 0, slots := 0, locals := 15 } : Room).slots) (Tj.setTop (mkF m 74 #[sR a1, sI 1, sJ q, sS, sI c4] [])) := by
          intro Tj lj  hj Xj ej Nj Oj  c4 Vj3 hej3 hcq4
          refine Go.st (S' := Tj.setTop (mkF m 75 #[sR a1, sI 1, sJ q, sS, sI c4] [(.int (1 : Int32))])) (fun _ k => XS.iloadN Xj.here hx rfl (hb hby d11_74) rfl k) ?_
          have kb4 : ∀ (Tj : State) (lj : List Loc) (hj : Heap) (Xj : Stand p l e ({ frames := 1, cells := 0, slots := 0, locals := 15 } : Room) s m #[(.ref a1), (.int (1 : Int32)), (.long q)] below meth c Tj lj 0 0) (ej : Tj.heap = hj) (Nj : Fr Z.heap.size lj) (Oj : Ext Z.heap hj) (c5 : Int32) (Vj4 : Arv Z hj a1 k1 .long (1 : Int32) [(.long x0)] (.long (0 : Int64))) (hej4 : hj = h0) (hcq5 : c5 = Int32.ofNat (cq [x0] q)), Go p e below (Ret s (fun v h L => v = some (.int (Int32.ofNat (cq [x0] q))) ∧ Fr Z.heap.size L ∧ h = h0) ({ frames := 1, cells := 0, slots := 0, locals := 15 } : Room).cells ({ frames := 1, cells := 0, slots := 0, locals := 15 } : Room).slots) (Tj.setTop (mkF m 92 #[sR a1, sI 1, sJ q, sS, sI c5] [])) := by
            intro Tj lj  hj Xj ej Nj Oj  c5 Vj4 hej4 hcq5
            refine Go.st (S' := Tj.setTop (mkF m 93 #[sR a1, sI 1, sJ q, sS, sI c5] [(.int (1 : Int32))])) (fun _ k => XS.iloadN Xj.here hx rfl (hb hby d11_92) rfl k) ?_
            have kb5 : ∀ (Tj : State) (lj : List Loc) (hj : Heap) (Xj : Stand p l e ({ frames := 1, cells := 0, slots := 0, locals := 15 } : Room) s m #[(.ref a1), (.int (1 : Int32)), (.long q)] below meth c Tj lj 0 0) (ej : Tj.heap = hj) (Nj : Fr Z.heap.size lj) (Oj : Ext Z.heap hj) (c6 : Int32) (Vj5 : Arv Z hj a1 k1 .long (1 : Int32) [(.long x0)] (.long (0 : Int64))) (hej5 : hj = h0) (hcq6 : c6 = Int32.ofNat (cq [x0] q)), Go p e below (Ret s (fun v h L => v = some (.int (Int32.ofNat (cq [x0] q))) ∧ Fr Z.heap.size L ∧ h = h0) ({ frames := 1, cells := 0, slots := 0, locals := 15 } : Room).cells ({ frames := 1, cells := 0, slots := 0, locals := 15 } : Room).slots) (Tj.setTop (mkF m 110 #[sR a1, sI 1, sJ q, sS, sI c6] [])) := by
              intro Tj lj  hj Xj ej Nj Oj  c6 Vj5 hej5 hcq6
              refine Go.st (S' := Tj.setTop (mkF m 112 #[sR a1, sI 1, sJ q, sS, sI c6] [(.int c6)])) (fun _ k => XS.iload Xj.here hx rfl (hb hby d11_110) rfl k) ?_
              exact own_retI Xj hx hlk hret (hb hby d11_112) ej ⟨by rw [hcq6], Nj, hej5⟩ (by decide) (by decide)
            refine Go.st (S' := Tj.setTop (mkF m 94 #[sR a1, sI 1, sJ q, sS, sI c5] [(.int (5 : Int32)), (.int (1 : Int32))])) (fun _ k => XS.iconst Xj.here hx rfl (hb hby d11_93) k) ?_
            refine Go.st (S' := Tj.setTop (mkF m 110 #[sR a1, sI 1, sJ q, sS, sI c5] [])) (fun _ k => XS.icmpYes Xj.here hx rfl (pc0 := 94) (pc' := 110) rfl (hb hby d11_94) rfl (flt (by decide)).2.2.2 (by decide) (by decide) k) ?_
            exact kb5  _ _ _ Xj ej Nj Oj  _ Vj4  hej4 hcq5
          refine Go.st (S' := Tj.setTop (mkF m 76 #[sR a1, sI 1, sJ q, sS, sI c4] [(.int (4 : Int32)), (.int (1 : Int32))])) (fun _ k => XS.iconst Xj.here hx rfl (hb hby d11_75) k) ?_
          refine Go.st (S' := Tj.setTop (mkF m 92 #[sR a1, sI 1, sJ q, sS, sI c4] [])) (fun _ k => XS.icmpYes Xj.here hx rfl (pc0 := 76) (pc' := 92) rfl (hb hby d11_76) rfl (flt (by decide)).2.2.2 (by decide) (by decide) k) ?_
          exact kb4  _ _ _ Xj ej Nj Oj  _ Vj3  hej3 hcq4
        refine Go.st (S' := Tj.setTop (mkF m 58 #[sR a1, sI 1, sJ q, sS, sI c3] [(.int (3 : Int32)), (.int (1 : Int32))])) (fun _ k => XS.iconst Xj.here hx rfl (hb hby d11_57) k) ?_
        refine Go.st (S' := Tj.setTop (mkF m 74 #[sR a1, sI 1, sJ q, sS, sI c3] [])) (fun _ k => XS.icmpYes Xj.here hx rfl (pc0 := 58) (pc' := 74) rfl (hb hby d11_58) rfl (flt (by decide)).2.2.2 (by decide) (by decide) k) ?_
        exact kb3  _ _ _ Xj ej Nj Oj  _ Vj2  hej2 hcq3
      refine Go.st (S' := Tj.setTop (mkF m 40 #[sR a1, sI 1, sJ q, sS, sI c2] [(.int (2 : Int32)), (.int (1 : Int32))])) (fun _ k => XS.iconst Xj.here hx rfl (hb hby d11_39) k) ?_
      refine Go.st (S' := Tj.setTop (mkF m 56 #[sR a1, sI 1, sJ q, sS, sI c2] [])) (fun _ k => XS.icmpYes Xj.here hx rfl (pc0 := 40) (pc' := 56) rfl (hb hby d11_40) rfl (flt (by decide)).2.2.2 (by decide) (by decide) k) ?_
      exact kb2  _ _ _ Xj ej Nj Oj  _ Vj1  hej1 hcq2
    refine Go.st (S' := Tj.setTop (mkF m 22 #[sR a1, sI 1, sJ q, sS, sI c1] [(.int (1 : Int32)), (.int (1 : Int32))])) (fun _ k => XS.iconst Xj.here hx rfl (hb hby d11_21) k) ?_
    refine Go.st (S' := Tj.setTop (mkF m 38 #[sR a1, sI 1, sJ q, sS, sI c1] [])) (fun _ k => XS.icmpYes Xj.here hx rfl (pc0 := 22) (pc' := 38) rfl (hb hby d11_22) rfl (flt (by decide)).2.2.2 (by decide) (by decide) k) ?_
    exact kb1  _ _ _ Xj ej Nj Oj  _ Vj0  hej0 hcq1
  refine Go.st (S' := T0.setTop (mkF m 7 #[sR a1, sI 1, sJ q, sS, sI 0] [])) (fun _ k => XS.ifNo X0.here hx rfl (hb hby d11_4) rfl ((if0 _ _).trans (tlt (by decide)).2.2.2) k) ?_
  refine Go.st (S' := T0.setTop (mkF m 8 #[sR a1, sI 1, sJ q, sS, sI 0] [(.ref a1)])) (fun _ k => XS.aloadN X0.here hx rfl (hb hby d11_7) rfl rfl k) ?_
  refine Go.st (S' := T0.setTop (mkF m 9 #[sR a1, sI 1, sJ q, sS, sI 0] [(.int (0 : Int32)), (.ref a1)])) (fun _ k => XS.iconst X0.here hx rfl (hb hby d11_8) k) ?_
  refine Go.st (S' := T0.setTop (mkF m 10 #[sR a1, sI 1, sJ q, sS, sI 0] [(.long x0)])) (own_ldJ X0 hx hZ e0 VA ⟨by decide, by decide⟩ rfl (g := (mkF m 9 #[sR a1, sI 1, sJ q, sS, sI 0] [(.int (0 : Int32)), (.ref a1)])) rfl rfl (hb hby d11_9)) ?_
  refine Go.st (S' := T0.setTop (mkF m 11 #[sR a1, sI 1, sJ q, sS, sI 0] [(.long q), (.long x0)])) (fun _ k => XS.lloadN X0.here hx rfl (hb hby d11_10) rfl k) ?_
  obtain ⟨_, T79, L79, X79, ⟨rfl, Nq79, eq79⟩, st79⟩ := own_callS X0 hx hZ hown (ww hw 9 rfl) (ww hw 10 rfl) (ww hw 7 rfl) (ww hw 11 rfl) (by decide) e0 (rmUlt l Z a0 hw [] w_BITS_32 w_BITS_64 hS x0 q h0 O0) 0 (by decide) (by decide) (by decide) (by decide) (g := (mkF m 11 #[sR a1, sI 1, sJ q, sS, sI 0] [(.long q), (.long x0)])) rfl (by rw [hml]; rfl) [(.long x0), (.long q)] [] rfl (lenOf pd_212497 rfl) rfl (by show 2 * 0 + _ ≤ _; exact Nat.le_of_eq rfl) (hb hby d11_11)
  have N79 := Fr.app N0 Nq79
  refine Go.st (S' := T79.setTop (mkF m 14 #[sR a1, sI 1, sJ q, sS, sI 0] [(.int (bF x0 q))])) st79 ?_
  by_cases hc14 : (bF x0 q) = (0 : Int32)
  · refine Go.st (S' := T79.setTop (mkF m 20 #[sR a1, sI 1, sJ q, sS, sI 0] [])) (fun _ k => XS.ifYes X79.here hx rfl (pc0 := 14) (pc' := 20) rfl (hb hby d11_14) rfl ((if0 _ _).trans (teq hc14).1) (by decide) (by decide) k) ?_
    exact kb0  _ _ _ X79 eq79 N79 O0  _ VA  rfl (by rw [show [x0] = [] ++ [x0] from rfl, own_cqs, if_pos hc14]; rfl)
  · refine Go.st (S' := T79.setTop (mkF m 17 #[sR a1, sI 1, sJ q, sS, sI 0] [])) (fun _ k => XS.ifNo X79.here hx rfl (hb hby d11_14) rfl ((if0 _ _).trans (feq hc14).1) k) ?_
    refine Go.st (S' := T79.setTop (mkF m 20 #[sR a1, sI 1, sJ q, sS, sI ((0 : Int32) + (1 : Int32))] [])) (fun _ k => XS.iinc X79.here hx rfl (hb hby d11_17) rfl (l' := #[sR a1, sI 1, sJ q, sS, sI ((0 : Int32) + (1 : Int32))]) rfl k) ?_
    exact kb0  _ _ _ X79 eq79 N79 O0  _ VA  rfl (by rw [show [x0] = [] ++ [x0] from rfl, own_cqs, if_neg hc14]; rfl)
theorem d11_25 : decode method_5_code 25 = .ok (.aload_n 0, 1) := by decide +kernel
theorem d11_26 : decode method_5_code 26 = .ok (.iconst 1, 1) := by decide +kernel
theorem d11_27 : decode method_5_code 27 = .ok (.laload, 1) := by decide +kernel
theorem d11_28 : decode method_5_code 28 = .ok (.lload_n 2, 1) := by decide +kernel
theorem d11_29 : decode method_5_code 29 = .ok (.invokestatic 45, 3) := by decide +kernel
theorem d11_32 : decode method_5_code 32 = .ok (.ifCond .eq 6, 3) := by decide +kernel
theorem d11_35 : decode method_5_code 35 = .ok (.iinc 4 1, 3) := by decide +kernel
theorem ef_rmBl2 (m : MethodId) (x0 : Addr) (x1 : Int32) (x2 : Int64) : entryFrame m #[(.ref x0), (.int x1), (.long x2)] 5 = mkF m 0 #[sR x0, sI x1, sJ x2, sS, sU] [] := by first | (simp [entryFrame, mkF, argsToLocals, Value.category]; done) | rfl
set_option maxRecDepth 65536 in
set_option maxHeartbeats 400000000 in
theorem rmBl2 (l : Launch) (Z : State) (a0 : Array Value) (hw : ∀ d ∈ tables_1, d.before a0 Z = true) (ws : List Jvm.Cond) (w_BITS_32 : Addr) (w_BITS_64 : Addr) (hS : SF Z w_BITS_32 w_BITS_64) (a1 : Addr) (q : Int64) (k1 : ClassId) (x0 : Int64) (x1 : Int64) (h0 : Heap) (O0 : Ext Z.heap h0) (VA : Arv Z h0 a1 k1 .long (2 : Int32) [(.long x0), (.long x1)] (.long (0 : Int64))) :
    Con l Z h0 (⟨"com/example/lenkki/lenkki/PositionIndexFirstAtOrAfterPinLaw", "below", "([JIJ)I"⟩ : MethodName) method_5_code 5 (some .int) ws ({ frames := 1, cells := 0, slots := 0, locals := 15 } : Room) #[(.ref a1), (.int (2 : Int32)), (.long q)] (fun v h L => v = some (.int (Int32.ofNat (cq [x0, x1] q))) ∧ Fr Z.heap.size L ∧ h = h0) := by
  obtain ⟨S_BITS_32, E_BITS_32, F_BITS_32_bits, S_BITS_64, E_BITS_64, F_BITS_64_bits⟩ := id hS
  refine own_con (plainFor_of_name pn_372981) ?_
  intro p e s m below meth c T0 X0 hx hby hml hown hnm hret hlk hZ e0
  have hown : s.vm.findClass "com/example/lenkki/lenkki/PositionIndexFirstAtOrAfterPinLaw" = some m.cls := hown
  have N0 := Fr.nil Z.heap.size
  refine Go.st (S' := T0.setTop (mkF m 0 #[sR a1, sI 2, sJ q, sS, sU] [])) (fun _ k => castTop (ef_rmBl2 m a1 (2 : Int32) q) k) ?_
  refine Go.st (S' := T0.setTop (mkF m 1 #[sR a1, sI 2, sJ q, sS, sU] [(.int (0 : Int32))])) (fun _ k => XS.iconst X0.here hx rfl (hb hby d11_0) k) ?_
  refine Go.st (S' := T0.setTop (mkF m 3 #[sR a1, sI 2, sJ q, sS, sI 0] [])) (fun _ k => XS.istore X0.here hx rfl (hb hby d11_1) rfl (l' := #[sR a1, sI 2, sJ q, sS, sI 0]) rfl k) ?_
  refine Go.st (S' := T0.setTop (mkF m 4 #[sR a1, sI 2, sJ q, sS, sI 0] [(.int (2 : Int32))])) (fun _ k => XS.iloadN X0.here hx rfl (hb hby d11_3) rfl k) ?_
  have kb0 : ∀ (Tj : State) (lj : List Loc) (hj : Heap) (Xj : Stand p l e ({ frames := 1, cells := 0, slots := 0, locals := 15 } : Room) s m #[(.ref a1), (.int (2 : Int32)), (.long q)] below meth c Tj lj 0 0) (ej : Tj.heap = hj) (Nj : Fr Z.heap.size lj) (Oj : Ext Z.heap hj) (c1 : Int32) (Vj0 : Arv Z hj a1 k1 .long (2 : Int32) [(.long x0), (.long x1)] (.long (0 : Int64))) (hej0 : hj = h0) (hcq1 : c1 = Int32.ofNat (cq [x0] q)), Go p e below (Ret s (fun v h L => v = some (.int (Int32.ofNat (cq [x0, x1] q))) ∧ Fr Z.heap.size L ∧ h = h0) ({ frames := 1, cells := 0, slots := 0, locals := 15 } : Room).cells ({ frames := 1, cells := 0, slots := 0, locals := 15 } : Room).slots) (Tj.setTop (mkF m 20 #[sR a1, sI 2, sJ q, sS, sI c1] [])) := by
    intro Tj lj  hj Xj ej Nj Oj  c1 Vj0 hej0 hcq1
    refine Go.st (S' := Tj.setTop (mkF m 21 #[sR a1, sI 2, sJ q, sS, sI c1] [(.int (2 : Int32))])) (fun _ k => XS.iloadN Xj.here hx rfl (hb hby d11_20) rfl k) ?_
    have kb1 : ∀ (Tj : State) (lj : List Loc) (hj : Heap) (Xj : Stand p l e ({ frames := 1, cells := 0, slots := 0, locals := 15 } : Room) s m #[(.ref a1), (.int (2 : Int32)), (.long q)] below meth c Tj lj 0 0) (ej : Tj.heap = hj) (Nj : Fr Z.heap.size lj) (Oj : Ext Z.heap hj) (c2 : Int32) (Vj1 : Arv Z hj a1 k1 .long (2 : Int32) [(.long x0), (.long x1)] (.long (0 : Int64))) (hej1 : hj = h0) (hcq2 : c2 = Int32.ofNat (cq [x0, x1] q)), Go p e below (Ret s (fun v h L => v = some (.int (Int32.ofNat (cq [x0, x1] q))) ∧ Fr Z.heap.size L ∧ h = h0) ({ frames := 1, cells := 0, slots := 0, locals := 15 } : Room).cells ({ frames := 1, cells := 0, slots := 0, locals := 15 } : Room).slots) (Tj.setTop (mkF m 38 #[sR a1, sI 2, sJ q, sS, sI c2] [])) := by
      intro Tj lj  hj Xj ej Nj Oj  c2 Vj1 hej1 hcq2
      refine Go.st (S' := Tj.setTop (mkF m 39 #[sR a1, sI 2, sJ q, sS, sI c2] [(.int (2 : Int32))])) (fun _ k => XS.iloadN Xj.here hx rfl (hb hby d11_38) rfl k) ?_
      have kb2 : ∀ (Tj : State) (lj : List Loc) (hj : Heap) (Xj : Stand p l e ({ frames := 1, cells := 0, slots := 0, locals := 15 } : Room) s m #[(.ref a1), (.int (2 : Int32)), (.long q)] below meth c Tj lj 0 0) (ej : Tj.heap = hj) (Nj : Fr Z.heap.size lj) (Oj : Ext Z.heap hj) (c3 : Int32) (Vj2 : Arv Z hj a1 k1 .long (2 : Int32) [(.long x0), (.long x1)] (.long (0 : Int64))) (hej2 : hj = h0) (hcq3 : c3 = Int32.ofNat (cq [x0, x1] q)), Go p e below (Ret s (fun v h L => v = some (.int (Int32.ofNat (cq [x0, x1] q))) ∧ Fr Z.heap.size L ∧ h = h0) ({ frames := 1, cells := 0, slots := 0, locals := 15 } : Room).cells ({ frames := 1, cells := 0, slots := 0, locals := 15 } : Room).slots) (Tj.setTop (mkF m 56 #[sR a1, sI 2, sJ q, sS, sI c3] [])) := by
        intro Tj lj  hj Xj ej Nj Oj  c3 Vj2 hej2 hcq3
        refine Go.st (S' := Tj.setTop (mkF m 57 #[sR a1, sI 2, sJ q, sS, sI c3] [(.int (2 : Int32))])) (fun _ k => XS.iloadN Xj.here hx rfl (hb hby d11_56) rfl k) ?_
        have kb3 : ∀ (Tj : State) (lj : List Loc) (hj : Heap) (Xj : Stand p l e ({ frames := 1, cells := 0, slots := 0, locals := 15 } : Room) s m #[(.ref a1), (.int (2 : Int32)), (.long q)] below meth c Tj lj 0 0) (ej : Tj.heap = hj) (Nj : Fr Z.heap.size lj) (Oj : Ext Z.heap hj) (c4 : Int32) (Vj3 : Arv Z hj a1 k1 .long (2 : Int32) [(.long x0), (.long x1)] (.long (0 : Int64))) (hej3 : hj = h0) (hcq4 : c4 = Int32.ofNat (cq [x0, x1] q)), Go p e below (Ret s (fun v h L => v = some (.int (Int32.ofNat (cq [x0, x1] q))) ∧ Fr Z.heap.size L ∧ h = h0) ({ frames := 1, cells := 0, slots := 0, locals := 15 } : Room).cells ({ frames := 1, cells := 0, slots := 0, locals := 15 } : Room).slots) (Tj.setTop (mkF m 74 #[sR a1, sI 2, sJ q, sS, sI c4] [])) := by
          intro Tj lj  hj Xj ej Nj Oj  c4 Vj3 hej3 hcq4
          refine Go.st (S' := Tj.setTop (mkF m 75 #[sR a1, sI 2, sJ q, sS, sI c4] [(.int (2 : Int32))])) (fun _ k => XS.iloadN Xj.here hx rfl (hb hby d11_74) rfl k) ?_
          have kb4 : ∀ (Tj : State) (lj : List Loc) (hj : Heap) (Xj : Stand p l e ({ frames := 1, cells := 0, slots := 0, locals := 15 } : Room) s m #[(.ref a1), (.int (2 : Int32)), (.long q)] below meth c Tj lj 0 0) (ej : Tj.heap = hj) (Nj : Fr Z.heap.size lj) (Oj : Ext Z.heap hj) (c5 : Int32) (Vj4 : Arv Z hj a1 k1 .long (2 : Int32) [(.long x0), (.long x1)] (.long (0 : Int64))) (hej4 : hj = h0) (hcq5 : c5 = Int32.ofNat (cq [x0, x1] q)), Go p e below (Ret s (fun v h L => v = some (.int (Int32.ofNat (cq [x0, x1] q))) ∧ Fr Z.heap.size L ∧ h = h0) ({ frames := 1, cells := 0, slots := 0, locals := 15 } : Room).cells ({ frames := 1, cells := 0, slots := 0, locals := 15 } : Room).slots) (Tj.setTop (mkF m 92 #[sR a1, sI 2, sJ q, sS, sI c5] [])) := by
            intro Tj lj  hj Xj ej Nj Oj  c5 Vj4 hej4 hcq5
            refine Go.st (S' := Tj.setTop (mkF m 93 #[sR a1, sI 2, sJ q, sS, sI c5] [(.int (2 : Int32))])) (fun _ k => XS.iloadN Xj.here hx rfl (hb hby d11_92) rfl k) ?_
            have kb5 : ∀ (Tj : State) (lj : List Loc) (hj : Heap) (Xj : Stand p l e ({ frames := 1, cells := 0, slots := 0, locals := 15 } : Room) s m #[(.ref a1), (.int (2 : Int32)), (.long q)] below meth c Tj lj 0 0) (ej : Tj.heap = hj) (Nj : Fr Z.heap.size lj) (Oj : Ext Z.heap hj) (c6 : Int32) (Vj5 : Arv Z hj a1 k1 .long (2 : Int32) [(.long x0), (.long x1)] (.long (0 : Int64))) (hej5 : hj = h0) (hcq6 : c6 = Int32.ofNat (cq [x0, x1] q)), Go p e below (Ret s (fun v h L => v = some (.int (Int32.ofNat (cq [x0, x1] q))) ∧ Fr Z.heap.size L ∧ h = h0) ({ frames := 1, cells := 0, slots := 0, locals := 15 } : Room).cells ({ frames := 1, cells := 0, slots := 0, locals := 15 } : Room).slots) (Tj.setTop (mkF m 110 #[sR a1, sI 2, sJ q, sS, sI c6] [])) := by
              intro Tj lj  hj Xj ej Nj Oj  c6 Vj5 hej5 hcq6
              refine Go.st (S' := Tj.setTop (mkF m 112 #[sR a1, sI 2, sJ q, sS, sI c6] [(.int c6)])) (fun _ k => XS.iload Xj.here hx rfl (hb hby d11_110) rfl k) ?_
              exact own_retI Xj hx hlk hret (hb hby d11_112) ej ⟨by rw [hcq6], Nj, hej5⟩ (by decide) (by decide)
            refine Go.st (S' := Tj.setTop (mkF m 94 #[sR a1, sI 2, sJ q, sS, sI c5] [(.int (5 : Int32)), (.int (2 : Int32))])) (fun _ k => XS.iconst Xj.here hx rfl (hb hby d11_93) k) ?_
            refine Go.st (S' := Tj.setTop (mkF m 110 #[sR a1, sI 2, sJ q, sS, sI c5] [])) (fun _ k => XS.icmpYes Xj.here hx rfl (pc0 := 94) (pc' := 110) rfl (hb hby d11_94) rfl (flt (by decide)).2.2.2 (by decide) (by decide) k) ?_
            exact kb5  _ _ _ Xj ej Nj Oj  _ Vj4  hej4 hcq5
          refine Go.st (S' := Tj.setTop (mkF m 76 #[sR a1, sI 2, sJ q, sS, sI c4] [(.int (4 : Int32)), (.int (2 : Int32))])) (fun _ k => XS.iconst Xj.here hx rfl (hb hby d11_75) k) ?_
          refine Go.st (S' := Tj.setTop (mkF m 92 #[sR a1, sI 2, sJ q, sS, sI c4] [])) (fun _ k => XS.icmpYes Xj.here hx rfl (pc0 := 76) (pc' := 92) rfl (hb hby d11_76) rfl (flt (by decide)).2.2.2 (by decide) (by decide) k) ?_
          exact kb4  _ _ _ Xj ej Nj Oj  _ Vj3  hej3 hcq4
        refine Go.st (S' := Tj.setTop (mkF m 58 #[sR a1, sI 2, sJ q, sS, sI c3] [(.int (3 : Int32)), (.int (2 : Int32))])) (fun _ k => XS.iconst Xj.here hx rfl (hb hby d11_57) k) ?_
        refine Go.st (S' := Tj.setTop (mkF m 74 #[sR a1, sI 2, sJ q, sS, sI c3] [])) (fun _ k => XS.icmpYes Xj.here hx rfl (pc0 := 58) (pc' := 74) rfl (hb hby d11_58) rfl (flt (by decide)).2.2.2 (by decide) (by decide) k) ?_
        exact kb3  _ _ _ Xj ej Nj Oj  _ Vj2  hej2 hcq3
      refine Go.st (S' := Tj.setTop (mkF m 40 #[sR a1, sI 2, sJ q, sS, sI c2] [(.int (2 : Int32)), (.int (2 : Int32))])) (fun _ k => XS.iconst Xj.here hx rfl (hb hby d11_39) k) ?_
      refine Go.st (S' := Tj.setTop (mkF m 56 #[sR a1, sI 2, sJ q, sS, sI c2] [])) (fun _ k => XS.icmpYes Xj.here hx rfl (pc0 := 40) (pc' := 56) rfl (hb hby d11_40) rfl (flt (by decide)).2.2.2 (by decide) (by decide) k) ?_
      exact kb2  _ _ _ Xj ej Nj Oj  _ Vj1  hej1 hcq2
    refine Go.st (S' := Tj.setTop (mkF m 22 #[sR a1, sI 2, sJ q, sS, sI c1] [(.int (1 : Int32)), (.int (2 : Int32))])) (fun _ k => XS.iconst Xj.here hx rfl (hb hby d11_21) k) ?_
    refine Go.st (S' := Tj.setTop (mkF m 25 #[sR a1, sI 2, sJ q, sS, sI c1] [])) (fun _ k => XS.icmpNo Xj.here hx rfl (hb hby d11_22) rfl (tlt (by decide)).2.2.2 k) ?_
    refine Go.st (S' := Tj.setTop (mkF m 26 #[sR a1, sI 2, sJ q, sS, sI c1] [(.ref a1)])) (fun _ k => XS.aloadN Xj.here hx rfl (hb hby d11_25) rfl rfl k) ?_
    refine Go.st (S' := Tj.setTop (mkF m 27 #[sR a1, sI 2, sJ q, sS, sI c1] [(.int (1 : Int32)), (.ref a1)])) (fun _ k => XS.iconst Xj.here hx rfl (hb hby d11_26) k) ?_
    refine Go.st (S' := Tj.setTop (mkF m 28 #[sR a1, sI 2, sJ q, sS, sI c1] [(.long x1)])) (own_ldJ Xj hx hZ ej Vj0 ⟨by decide, by decide⟩ rfl (g := (mkF m 27 #[sR a1, sI 2, sJ q, sS, sI c1] [(.int (1 : Int32)), (.ref a1)])) rfl rfl (hb hby d11_27)) ?_
    refine Go.st (S' := Tj.setTop (mkF m 29 #[sR a1, sI 2, sJ q, sS, sI c1] [(.long q), (.long x1)])) (fun _ k => XS.lloadN Xj.here hx rfl (hb hby d11_28) rfl k) ?_
    obtain ⟨_, T81, L81, X81, ⟨rfl, Nq81, eq81⟩, st81⟩ := own_callS Xj hx hZ hown (ww hw 9 rfl) (ww hw 10 rfl) (ww hw 7 rfl) (ww hw 11 rfl) (by decide) ej (rmUlt l Z a0 hw [] w_BITS_32 w_BITS_64 hS x1 q hj Oj) 0 (by decide) (by decide) (by decide) (by decide) (g := (mkF m 29 #[sR a1, sI 2, sJ q, sS, sI c1] [(.long q), (.long x1)])) rfl (by rw [hml]; rfl) [(.long x1), (.long q)] [] rfl (lenOf pd_212497 rfl) rfl (by show 2 * 0 + _ ≤ _; exact Nat.le_of_eq rfl) (hb hby d11_29)
    have N81 := Fr.app Nj Nq81
    refine Go.st (S' := T81.setTop (mkF m 32 #[sR a1, sI 2, sJ q, sS, sI c1] [(.int (bF x1 q))])) st81 ?_
    by_cases hc32 : (bF x1 q) = (0 : Int32)
    · refine Go.st (S' := T81.setTop (mkF m 38 #[sR a1, sI 2, sJ q, sS, sI c1] [])) (fun _ k => XS.ifYes X81.here hx rfl (pc0 := 32) (pc' := 38) rfl (hb hby d11_32) rfl ((if0 _ _).trans (teq hc32).1) (by decide) (by decide) k) ?_
      exact kb1  _ _ _ X81 eq81 N81 Oj  _ Vj0  hej0 (by rw [show [x0, x1] = [x0] ++ [x1] from rfl, own_cqs, if_pos hc32]; exact hcq1)
    · refine Go.st (S' := T81.setTop (mkF m 35 #[sR a1, sI 2, sJ q, sS, sI c1] [])) (fun _ k => XS.ifNo X81.here hx rfl (hb hby d11_32) rfl ((if0 _ _).trans (feq hc32).1) k) ?_
      refine Go.st (S' := T81.setTop (mkF m 38 #[sR a1, sI 2, sJ q, sS, sI (c1 + (1 : Int32))] [])) (fun _ k => XS.iinc X81.here hx rfl (hb hby d11_35) rfl (l' := #[sR a1, sI 2, sJ q, sS, sI (c1 + (1 : Int32))]) rfl k) ?_
      exact kb1  _ _ _ X81 eq81 N81 Oj  _ Vj0  hej0 (by rw [show [x0, x1] = [x0] ++ [x1] from rfl, own_cqs, if_neg hc32]; rw [hcq1])
  refine Go.st (S' := T0.setTop (mkF m 7 #[sR a1, sI 2, sJ q, sS, sI 0] [])) (fun _ k => XS.ifNo X0.here hx rfl (hb hby d11_4) rfl ((if0 _ _).trans (tlt (by decide)).2.2.2) k) ?_
  refine Go.st (S' := T0.setTop (mkF m 8 #[sR a1, sI 2, sJ q, sS, sI 0] [(.ref a1)])) (fun _ k => XS.aloadN X0.here hx rfl (hb hby d11_7) rfl rfl k) ?_
  refine Go.st (S' := T0.setTop (mkF m 9 #[sR a1, sI 2, sJ q, sS, sI 0] [(.int (0 : Int32)), (.ref a1)])) (fun _ k => XS.iconst X0.here hx rfl (hb hby d11_8) k) ?_
  refine Go.st (S' := T0.setTop (mkF m 10 #[sR a1, sI 2, sJ q, sS, sI 0] [(.long x0)])) (own_ldJ X0 hx hZ e0 VA ⟨by decide, by decide⟩ rfl (g := (mkF m 9 #[sR a1, sI 2, sJ q, sS, sI 0] [(.int (0 : Int32)), (.ref a1)])) rfl rfl (hb hby d11_9)) ?_
  refine Go.st (S' := T0.setTop (mkF m 11 #[sR a1, sI 2, sJ q, sS, sI 0] [(.long q), (.long x0)])) (fun _ k => XS.lloadN X0.here hx rfl (hb hby d11_10) rfl k) ?_
  obtain ⟨_, T83, L83, X83, ⟨rfl, Nq83, eq83⟩, st83⟩ := own_callS X0 hx hZ hown (ww hw 9 rfl) (ww hw 10 rfl) (ww hw 7 rfl) (ww hw 11 rfl) (by decide) e0 (rmUlt l Z a0 hw [] w_BITS_32 w_BITS_64 hS x0 q h0 O0) 0 (by decide) (by decide) (by decide) (by decide) (g := (mkF m 11 #[sR a1, sI 2, sJ q, sS, sI 0] [(.long q), (.long x0)])) rfl (by rw [hml]; rfl) [(.long x0), (.long q)] [] rfl (lenOf pd_212497 rfl) rfl (by show 2 * 0 + _ ≤ _; exact Nat.le_of_eq rfl) (hb hby d11_11)
  have N83 := Fr.app N0 Nq83
  refine Go.st (S' := T83.setTop (mkF m 14 #[sR a1, sI 2, sJ q, sS, sI 0] [(.int (bF x0 q))])) st83 ?_
  by_cases hc14 : (bF x0 q) = (0 : Int32)
  · refine Go.st (S' := T83.setTop (mkF m 20 #[sR a1, sI 2, sJ q, sS, sI 0] [])) (fun _ k => XS.ifYes X83.here hx rfl (pc0 := 14) (pc' := 20) rfl (hb hby d11_14) rfl ((if0 _ _).trans (teq hc14).1) (by decide) (by decide) k) ?_
    exact kb0  _ _ _ X83 eq83 N83 O0  _ VA  rfl (by rw [show [x0] = [] ++ [x0] from rfl, own_cqs, if_pos hc14]; rfl)
  · refine Go.st (S' := T83.setTop (mkF m 17 #[sR a1, sI 2, sJ q, sS, sI 0] [])) (fun _ k => XS.ifNo X83.here hx rfl (hb hby d11_14) rfl ((if0 _ _).trans (feq hc14).1) k) ?_
    refine Go.st (S' := T83.setTop (mkF m 20 #[sR a1, sI 2, sJ q, sS, sI ((0 : Int32) + (1 : Int32))] [])) (fun _ k => XS.iinc X83.here hx rfl (hb hby d11_17) rfl (l' := #[sR a1, sI 2, sJ q, sS, sI ((0 : Int32) + (1 : Int32))]) rfl k) ?_
    exact kb0  _ _ _ X83 eq83 N83 O0  _ VA  rfl (by rw [show [x0] = [] ++ [x0] from rfl, own_cqs, if_neg hc14]; rfl)
theorem d11_43 : decode method_5_code 43 = .ok (.aload_n 0, 1) := by decide +kernel
theorem d11_44 : decode method_5_code 44 = .ok (.iconst 2, 1) := by decide +kernel
theorem d11_45 : decode method_5_code 45 = .ok (.laload, 1) := by decide +kernel
theorem d11_46 : decode method_5_code 46 = .ok (.lload_n 2, 1) := by decide +kernel
theorem d11_47 : decode method_5_code 47 = .ok (.invokestatic 45, 3) := by decide +kernel
theorem d11_50 : decode method_5_code 50 = .ok (.ifCond .eq 6, 3) := by decide +kernel
theorem d11_53 : decode method_5_code 53 = .ok (.iinc 4 1, 3) := by decide +kernel
theorem ef_rmBl3 (m : MethodId) (x0 : Addr) (x1 : Int32) (x2 : Int64) : entryFrame m #[(.ref x0), (.int x1), (.long x2)] 5 = mkF m 0 #[sR x0, sI x1, sJ x2, sS, sU] [] := by first | (simp [entryFrame, mkF, argsToLocals, Value.category]; done) | rfl
set_option maxRecDepth 65536 in
set_option maxHeartbeats 400000000 in
theorem rmBl3 (l : Launch) (Z : State) (a0 : Array Value) (hw : ∀ d ∈ tables_1, d.before a0 Z = true) (ws : List Jvm.Cond) (w_BITS_32 : Addr) (w_BITS_64 : Addr) (hS : SF Z w_BITS_32 w_BITS_64) (a1 : Addr) (q : Int64) (k1 : ClassId) (x0 : Int64) (x1 : Int64) (x2 : Int64) (h0 : Heap) (O0 : Ext Z.heap h0) (VA : Arv Z h0 a1 k1 .long (3 : Int32) [(.long x0), (.long x1), (.long x2)] (.long (0 : Int64))) :
    Con l Z h0 (⟨"com/example/lenkki/lenkki/PositionIndexFirstAtOrAfterPinLaw", "below", "([JIJ)I"⟩ : MethodName) method_5_code 5 (some .int) ws ({ frames := 1, cells := 0, slots := 0, locals := 15 } : Room) #[(.ref a1), (.int (3 : Int32)), (.long q)] (fun v h L => v = some (.int (Int32.ofNat (cq [x0, x1, x2] q))) ∧ Fr Z.heap.size L ∧ h = h0) := by
  obtain ⟨S_BITS_32, E_BITS_32, F_BITS_32_bits, S_BITS_64, E_BITS_64, F_BITS_64_bits⟩ := id hS
  refine own_con (plainFor_of_name pn_372981) ?_
  intro p e s m below meth c T0 X0 hx hby hml hown hnm hret hlk hZ e0
  have hown : s.vm.findClass "com/example/lenkki/lenkki/PositionIndexFirstAtOrAfterPinLaw" = some m.cls := hown
  have N0 := Fr.nil Z.heap.size
  refine Go.st (S' := T0.setTop (mkF m 0 #[sR a1, sI 3, sJ q, sS, sU] [])) (fun _ k => castTop (ef_rmBl3 m a1 (3 : Int32) q) k) ?_
  refine Go.st (S' := T0.setTop (mkF m 1 #[sR a1, sI 3, sJ q, sS, sU] [(.int (0 : Int32))])) (fun _ k => XS.iconst X0.here hx rfl (hb hby d11_0) k) ?_
  refine Go.st (S' := T0.setTop (mkF m 3 #[sR a1, sI 3, sJ q, sS, sI 0] [])) (fun _ k => XS.istore X0.here hx rfl (hb hby d11_1) rfl (l' := #[sR a1, sI 3, sJ q, sS, sI 0]) rfl k) ?_
  refine Go.st (S' := T0.setTop (mkF m 4 #[sR a1, sI 3, sJ q, sS, sI 0] [(.int (3 : Int32))])) (fun _ k => XS.iloadN X0.here hx rfl (hb hby d11_3) rfl k) ?_
  have kb0 : ∀ (Tj : State) (lj : List Loc) (hj : Heap) (Xj : Stand p l e ({ frames := 1, cells := 0, slots := 0, locals := 15 } : Room) s m #[(.ref a1), (.int (3 : Int32)), (.long q)] below meth c Tj lj 0 0) (ej : Tj.heap = hj) (Nj : Fr Z.heap.size lj) (Oj : Ext Z.heap hj) (c1 : Int32) (Vj0 : Arv Z hj a1 k1 .long (3 : Int32) [(.long x0), (.long x1), (.long x2)] (.long (0 : Int64))) (hej0 : hj = h0) (hcq1 : c1 = Int32.ofNat (cq [x0] q)), Go p e below (Ret s (fun v h L => v = some (.int (Int32.ofNat (cq [x0, x1, x2] q))) ∧ Fr Z.heap.size L ∧ h = h0) ({ frames := 1, cells := 0, slots := 0, locals := 15 } : Room).cells ({ frames := 1, cells := 0, slots := 0, locals := 15 } : Room).slots) (Tj.setTop (mkF m 20 #[sR a1, sI 3, sJ q, sS, sI c1] [])) := by
    intro Tj lj  hj Xj ej Nj Oj  c1 Vj0 hej0 hcq1
    refine Go.st (S' := Tj.setTop (mkF m 21 #[sR a1, sI 3, sJ q, sS, sI c1] [(.int (3 : Int32))])) (fun _ k => XS.iloadN Xj.here hx rfl (hb hby d11_20) rfl k) ?_
    have kb1 : ∀ (Tj : State) (lj : List Loc) (hj : Heap) (Xj : Stand p l e ({ frames := 1, cells := 0, slots := 0, locals := 15 } : Room) s m #[(.ref a1), (.int (3 : Int32)), (.long q)] below meth c Tj lj 0 0) (ej : Tj.heap = hj) (Nj : Fr Z.heap.size lj) (Oj : Ext Z.heap hj) (c2 : Int32) (Vj1 : Arv Z hj a1 k1 .long (3 : Int32) [(.long x0), (.long x1), (.long x2)] (.long (0 : Int64))) (hej1 : hj = h0) (hcq2 : c2 = Int32.ofNat (cq [x0, x1] q)), Go p e below (Ret s (fun v h L => v = some (.int (Int32.ofNat (cq [x0, x1, x2] q))) ∧ Fr Z.heap.size L ∧ h = h0) ({ frames := 1, cells := 0, slots := 0, locals := 15 } : Room).cells ({ frames := 1, cells := 0, slots := 0, locals := 15 } : Room).slots) (Tj.setTop (mkF m 38 #[sR a1, sI 3, sJ q, sS, sI c2] [])) := by
      intro Tj lj  hj Xj ej Nj Oj  c2 Vj1 hej1 hcq2
      refine Go.st (S' := Tj.setTop (mkF m 39 #[sR a1, sI 3, sJ q, sS, sI c2] [(.int (3 : Int32))])) (fun _ k => XS.iloadN Xj.here hx rfl (hb hby d11_38) rfl k) ?_
      have kb2 : ∀ (Tj : State) (lj : List Loc) (hj : Heap) (Xj : Stand p l e ({ frames := 1, cells := 0, slots := 0, locals := 15 } : Room) s m #[(.ref a1), (.int (3 : Int32)), (.long q)] below meth c Tj lj 0 0) (ej : Tj.heap = hj) (Nj : Fr Z.heap.size lj) (Oj : Ext Z.heap hj) (c3 : Int32) (Vj2 : Arv Z hj a1 k1 .long (3 : Int32) [(.long x0), (.long x1), (.long x2)] (.long (0 : Int64))) (hej2 : hj = h0) (hcq3 : c3 = Int32.ofNat (cq [x0, x1, x2] q)), Go p e below (Ret s (fun v h L => v = some (.int (Int32.ofNat (cq [x0, x1, x2] q))) ∧ Fr Z.heap.size L ∧ h = h0) ({ frames := 1, cells := 0, slots := 0, locals := 15 } : Room).cells ({ frames := 1, cells := 0, slots := 0, locals := 15 } : Room).slots) (Tj.setTop (mkF m 56 #[sR a1, sI 3, sJ q, sS, sI c3] [])) := by
        intro Tj lj  hj Xj ej Nj Oj  c3 Vj2 hej2 hcq3
        refine Go.st (S' := Tj.setTop (mkF m 57 #[sR a1, sI 3, sJ q, sS, sI c3] [(.int (3 : Int32))])) (fun _ k => XS.iloadN Xj.here hx rfl (hb hby d11_56) rfl k) ?_
        have kb3 : ∀ (Tj : State) (lj : List Loc) (hj : Heap) (Xj : Stand p l e ({ frames := 1, cells := 0, slots := 0, locals := 15 } : Room) s m #[(.ref a1), (.int (3 : Int32)), (.long q)] below meth c Tj lj 0 0) (ej : Tj.heap = hj) (Nj : Fr Z.heap.size lj) (Oj : Ext Z.heap hj) (c4 : Int32) (Vj3 : Arv Z hj a1 k1 .long (3 : Int32) [(.long x0), (.long x1), (.long x2)] (.long (0 : Int64))) (hej3 : hj = h0) (hcq4 : c4 = Int32.ofNat (cq [x0, x1, x2] q)), Go p e below (Ret s (fun v h L => v = some (.int (Int32.ofNat (cq [x0, x1, x2] q))) ∧ Fr Z.heap.size L ∧ h = h0) ({ frames := 1, cells := 0, slots := 0, locals := 15 } : Room).cells ({ frames := 1, cells := 0, slots := 0, locals := 15 } : Room).slots) (Tj.setTop (mkF m 74 #[sR a1, sI 3, sJ q, sS, sI c4] [])) := by
          intro Tj lj  hj Xj ej Nj Oj  c4 Vj3 hej3 hcq4
          refine Go.st (S' := Tj.setTop (mkF m 75 #[sR a1, sI 3, sJ q, sS, sI c4] [(.int (3 : Int32))])) (fun _ k => XS.iloadN Xj.here hx rfl (hb hby d11_74) rfl k) ?_
          have kb4 : ∀ (Tj : State) (lj : List Loc) (hj : Heap) (Xj : Stand p l e ({ frames := 1, cells := 0, slots := 0, locals := 15 } : Room) s m #[(.ref a1), (.int (3 : Int32)), (.long q)] below meth c Tj lj 0 0) (ej : Tj.heap = hj) (Nj : Fr Z.heap.size lj) (Oj : Ext Z.heap hj) (c5 : Int32) (Vj4 : Arv Z hj a1 k1 .long (3 : Int32) [(.long x0), (.long x1), (.long x2)] (.long (0 : Int64))) (hej4 : hj = h0) (hcq5 : c5 = Int32.ofNat (cq [x0, x1, x2] q)), Go p e below (Ret s (fun v h L => v = some (.int (Int32.ofNat (cq [x0, x1, x2] q))) ∧ Fr Z.heap.size L ∧ h = h0) ({ frames := 1, cells := 0, slots := 0, locals := 15 } : Room).cells ({ frames := 1, cells := 0, slots := 0, locals := 15 } : Room).slots) (Tj.setTop (mkF m 92 #[sR a1, sI 3, sJ q, sS, sI c5] [])) := by
            intro Tj lj  hj Xj ej Nj Oj  c5 Vj4 hej4 hcq5
            refine Go.st (S' := Tj.setTop (mkF m 93 #[sR a1, sI 3, sJ q, sS, sI c5] [(.int (3 : Int32))])) (fun _ k => XS.iloadN Xj.here hx rfl (hb hby d11_92) rfl k) ?_
            have kb5 : ∀ (Tj : State) (lj : List Loc) (hj : Heap) (Xj : Stand p l e ({ frames := 1, cells := 0, slots := 0, locals := 15 } : Room) s m #[(.ref a1), (.int (3 : Int32)), (.long q)] below meth c Tj lj 0 0) (ej : Tj.heap = hj) (Nj : Fr Z.heap.size lj) (Oj : Ext Z.heap hj) (c6 : Int32) (Vj5 : Arv Z hj a1 k1 .long (3 : Int32) [(.long x0), (.long x1), (.long x2)] (.long (0 : Int64))) (hej5 : hj = h0) (hcq6 : c6 = Int32.ofNat (cq [x0, x1, x2] q)), Go p e below (Ret s (fun v h L => v = some (.int (Int32.ofNat (cq [x0, x1, x2] q))) ∧ Fr Z.heap.size L ∧ h = h0) ({ frames := 1, cells := 0, slots := 0, locals := 15 } : Room).cells ({ frames := 1, cells := 0, slots := 0, locals := 15 } : Room).slots) (Tj.setTop (mkF m 110 #[sR a1, sI 3, sJ q, sS, sI c6] [])) := by
              intro Tj lj  hj Xj ej Nj Oj  c6 Vj5 hej5 hcq6
              refine Go.st (S' := Tj.setTop (mkF m 112 #[sR a1, sI 3, sJ q, sS, sI c6] [(.int c6)])) (fun _ k => XS.iload Xj.here hx rfl (hb hby d11_110) rfl k) ?_
              exact own_retI Xj hx hlk hret (hb hby d11_112) ej ⟨by rw [hcq6], Nj, hej5⟩ (by decide) (by decide)
            refine Go.st (S' := Tj.setTop (mkF m 94 #[sR a1, sI 3, sJ q, sS, sI c5] [(.int (5 : Int32)), (.int (3 : Int32))])) (fun _ k => XS.iconst Xj.here hx rfl (hb hby d11_93) k) ?_
            refine Go.st (S' := Tj.setTop (mkF m 110 #[sR a1, sI 3, sJ q, sS, sI c5] [])) (fun _ k => XS.icmpYes Xj.here hx rfl (pc0 := 94) (pc' := 110) rfl (hb hby d11_94) rfl (flt (by decide)).2.2.2 (by decide) (by decide) k) ?_
            exact kb5  _ _ _ Xj ej Nj Oj  _ Vj4  hej4 hcq5
          refine Go.st (S' := Tj.setTop (mkF m 76 #[sR a1, sI 3, sJ q, sS, sI c4] [(.int (4 : Int32)), (.int (3 : Int32))])) (fun _ k => XS.iconst Xj.here hx rfl (hb hby d11_75) k) ?_
          refine Go.st (S' := Tj.setTop (mkF m 92 #[sR a1, sI 3, sJ q, sS, sI c4] [])) (fun _ k => XS.icmpYes Xj.here hx rfl (pc0 := 76) (pc' := 92) rfl (hb hby d11_76) rfl (flt (by decide)).2.2.2 (by decide) (by decide) k) ?_
          exact kb4  _ _ _ Xj ej Nj Oj  _ Vj3  hej3 hcq4
        refine Go.st (S' := Tj.setTop (mkF m 58 #[sR a1, sI 3, sJ q, sS, sI c3] [(.int (3 : Int32)), (.int (3 : Int32))])) (fun _ k => XS.iconst Xj.here hx rfl (hb hby d11_57) k) ?_
        refine Go.st (S' := Tj.setTop (mkF m 74 #[sR a1, sI 3, sJ q, sS, sI c3] [])) (fun _ k => XS.icmpYes Xj.here hx rfl (pc0 := 58) (pc' := 74) rfl (hb hby d11_58) rfl (flt (by decide)).2.2.2 (by decide) (by decide) k) ?_
        exact kb3  _ _ _ Xj ej Nj Oj  _ Vj2  hej2 hcq3
      refine Go.st (S' := Tj.setTop (mkF m 40 #[sR a1, sI 3, sJ q, sS, sI c2] [(.int (2 : Int32)), (.int (3 : Int32))])) (fun _ k => XS.iconst Xj.here hx rfl (hb hby d11_39) k) ?_
      refine Go.st (S' := Tj.setTop (mkF m 43 #[sR a1, sI 3, sJ q, sS, sI c2] [])) (fun _ k => XS.icmpNo Xj.here hx rfl (hb hby d11_40) rfl (tlt (by decide)).2.2.2 k) ?_
      refine Go.st (S' := Tj.setTop (mkF m 44 #[sR a1, sI 3, sJ q, sS, sI c2] [(.ref a1)])) (fun _ k => XS.aloadN Xj.here hx rfl (hb hby d11_43) rfl rfl k) ?_
      refine Go.st (S' := Tj.setTop (mkF m 45 #[sR a1, sI 3, sJ q, sS, sI c2] [(.int (2 : Int32)), (.ref a1)])) (fun _ k => XS.iconst Xj.here hx rfl (hb hby d11_44) k) ?_
      refine Go.st (S' := Tj.setTop (mkF m 46 #[sR a1, sI 3, sJ q, sS, sI c2] [(.long x2)])) (own_ldJ Xj hx hZ ej Vj1 ⟨by decide, by decide⟩ rfl (g := (mkF m 45 #[sR a1, sI 3, sJ q, sS, sI c2] [(.int (2 : Int32)), (.ref a1)])) rfl rfl (hb hby d11_45)) ?_
      refine Go.st (S' := Tj.setTop (mkF m 47 #[sR a1, sI 3, sJ q, sS, sI c2] [(.long q), (.long x2)])) (fun _ k => XS.lloadN Xj.here hx rfl (hb hby d11_46) rfl k) ?_
      obtain ⟨_, T85, L85, X85, ⟨rfl, Nq85, eq85⟩, st85⟩ := own_callS Xj hx hZ hown (ww hw 9 rfl) (ww hw 10 rfl) (ww hw 7 rfl) (ww hw 11 rfl) (by decide) ej (rmUlt l Z a0 hw [] w_BITS_32 w_BITS_64 hS x2 q hj Oj) 0 (by decide) (by decide) (by decide) (by decide) (g := (mkF m 47 #[sR a1, sI 3, sJ q, sS, sI c2] [(.long q), (.long x2)])) rfl (by rw [hml]; rfl) [(.long x2), (.long q)] [] rfl (lenOf pd_212497 rfl) rfl (by show 2 * 0 + _ ≤ _; exact Nat.le_of_eq rfl) (hb hby d11_47)
      have N85 := Fr.app Nj Nq85
      refine Go.st (S' := T85.setTop (mkF m 50 #[sR a1, sI 3, sJ q, sS, sI c2] [(.int (bF x2 q))])) st85 ?_
      by_cases hc50 : (bF x2 q) = (0 : Int32)
      · refine Go.st (S' := T85.setTop (mkF m 56 #[sR a1, sI 3, sJ q, sS, sI c2] [])) (fun _ k => XS.ifYes X85.here hx rfl (pc0 := 50) (pc' := 56) rfl (hb hby d11_50) rfl ((if0 _ _).trans (teq hc50).1) (by decide) (by decide) k) ?_
        exact kb2  _ _ _ X85 eq85 N85 Oj  _ Vj1  hej1 (by rw [show [x0, x1, x2] = [x0, x1] ++ [x2] from rfl, own_cqs, if_pos hc50]; exact hcq2)
      · refine Go.st (S' := T85.setTop (mkF m 53 #[sR a1, sI 3, sJ q, sS, sI c2] [])) (fun _ k => XS.ifNo X85.here hx rfl (hb hby d11_50) rfl ((if0 _ _).trans (feq hc50).1) k) ?_
        refine Go.st (S' := T85.setTop (mkF m 56 #[sR a1, sI 3, sJ q, sS, sI (c2 + (1 : Int32))] [])) (fun _ k => XS.iinc X85.here hx rfl (hb hby d11_53) rfl (l' := #[sR a1, sI 3, sJ q, sS, sI (c2 + (1 : Int32))]) rfl k) ?_
        exact kb2  _ _ _ X85 eq85 N85 Oj  _ Vj1  hej1 (by rw [show [x0, x1, x2] = [x0, x1] ++ [x2] from rfl, own_cqs, if_neg hc50]; rw [hcq2])
    refine Go.st (S' := Tj.setTop (mkF m 22 #[sR a1, sI 3, sJ q, sS, sI c1] [(.int (1 : Int32)), (.int (3 : Int32))])) (fun _ k => XS.iconst Xj.here hx rfl (hb hby d11_21) k) ?_
    refine Go.st (S' := Tj.setTop (mkF m 25 #[sR a1, sI 3, sJ q, sS, sI c1] [])) (fun _ k => XS.icmpNo Xj.here hx rfl (hb hby d11_22) rfl (tlt (by decide)).2.2.2 k) ?_
    refine Go.st (S' := Tj.setTop (mkF m 26 #[sR a1, sI 3, sJ q, sS, sI c1] [(.ref a1)])) (fun _ k => XS.aloadN Xj.here hx rfl (hb hby d11_25) rfl rfl k) ?_
    refine Go.st (S' := Tj.setTop (mkF m 27 #[sR a1, sI 3, sJ q, sS, sI c1] [(.int (1 : Int32)), (.ref a1)])) (fun _ k => XS.iconst Xj.here hx rfl (hb hby d11_26) k) ?_
    refine Go.st (S' := Tj.setTop (mkF m 28 #[sR a1, sI 3, sJ q, sS, sI c1] [(.long x1)])) (own_ldJ Xj hx hZ ej Vj0 ⟨by decide, by decide⟩ rfl (g := (mkF m 27 #[sR a1, sI 3, sJ q, sS, sI c1] [(.int (1 : Int32)), (.ref a1)])) rfl rfl (hb hby d11_27)) ?_
    refine Go.st (S' := Tj.setTop (mkF m 29 #[sR a1, sI 3, sJ q, sS, sI c1] [(.long q), (.long x1)])) (fun _ k => XS.lloadN Xj.here hx rfl (hb hby d11_28) rfl k) ?_
    obtain ⟨_, T87, L87, X87, ⟨rfl, Nq87, eq87⟩, st87⟩ := own_callS Xj hx hZ hown (ww hw 9 rfl) (ww hw 10 rfl) (ww hw 7 rfl) (ww hw 11 rfl) (by decide) ej (rmUlt l Z a0 hw [] w_BITS_32 w_BITS_64 hS x1 q hj Oj) 0 (by decide) (by decide) (by decide) (by decide) (g := (mkF m 29 #[sR a1, sI 3, sJ q, sS, sI c1] [(.long q), (.long x1)])) rfl (by rw [hml]; rfl) [(.long x1), (.long q)] [] rfl (lenOf pd_212497 rfl) rfl (by show 2 * 0 + _ ≤ _; exact Nat.le_of_eq rfl) (hb hby d11_29)
    have N87 := Fr.app Nj Nq87
    refine Go.st (S' := T87.setTop (mkF m 32 #[sR a1, sI 3, sJ q, sS, sI c1] [(.int (bF x1 q))])) st87 ?_
    by_cases hc32 : (bF x1 q) = (0 : Int32)
    · refine Go.st (S' := T87.setTop (mkF m 38 #[sR a1, sI 3, sJ q, sS, sI c1] [])) (fun _ k => XS.ifYes X87.here hx rfl (pc0 := 32) (pc' := 38) rfl (hb hby d11_32) rfl ((if0 _ _).trans (teq hc32).1) (by decide) (by decide) k) ?_
      exact kb1  _ _ _ X87 eq87 N87 Oj  _ Vj0  hej0 (by rw [show [x0, x1] = [x0] ++ [x1] from rfl, own_cqs, if_pos hc32]; exact hcq1)
    · refine Go.st (S' := T87.setTop (mkF m 35 #[sR a1, sI 3, sJ q, sS, sI c1] [])) (fun _ k => XS.ifNo X87.here hx rfl (hb hby d11_32) rfl ((if0 _ _).trans (feq hc32).1) k) ?_
      refine Go.st (S' := T87.setTop (mkF m 38 #[sR a1, sI 3, sJ q, sS, sI (c1 + (1 : Int32))] [])) (fun _ k => XS.iinc X87.here hx rfl (hb hby d11_35) rfl (l' := #[sR a1, sI 3, sJ q, sS, sI (c1 + (1 : Int32))]) rfl k) ?_
      exact kb1  _ _ _ X87 eq87 N87 Oj  _ Vj0  hej0 (by rw [show [x0, x1] = [x0] ++ [x1] from rfl, own_cqs, if_neg hc32]; rw [hcq1])
  refine Go.st (S' := T0.setTop (mkF m 7 #[sR a1, sI 3, sJ q, sS, sI 0] [])) (fun _ k => XS.ifNo X0.here hx rfl (hb hby d11_4) rfl ((if0 _ _).trans (tlt (by decide)).2.2.2) k) ?_
  refine Go.st (S' := T0.setTop (mkF m 8 #[sR a1, sI 3, sJ q, sS, sI 0] [(.ref a1)])) (fun _ k => XS.aloadN X0.here hx rfl (hb hby d11_7) rfl rfl k) ?_
  refine Go.st (S' := T0.setTop (mkF m 9 #[sR a1, sI 3, sJ q, sS, sI 0] [(.int (0 : Int32)), (.ref a1)])) (fun _ k => XS.iconst X0.here hx rfl (hb hby d11_8) k) ?_
  refine Go.st (S' := T0.setTop (mkF m 10 #[sR a1, sI 3, sJ q, sS, sI 0] [(.long x0)])) (own_ldJ X0 hx hZ e0 VA ⟨by decide, by decide⟩ rfl (g := (mkF m 9 #[sR a1, sI 3, sJ q, sS, sI 0] [(.int (0 : Int32)), (.ref a1)])) rfl rfl (hb hby d11_9)) ?_
  refine Go.st (S' := T0.setTop (mkF m 11 #[sR a1, sI 3, sJ q, sS, sI 0] [(.long q), (.long x0)])) (fun _ k => XS.lloadN X0.here hx rfl (hb hby d11_10) rfl k) ?_
  obtain ⟨_, T89, L89, X89, ⟨rfl, Nq89, eq89⟩, st89⟩ := own_callS X0 hx hZ hown (ww hw 9 rfl) (ww hw 10 rfl) (ww hw 7 rfl) (ww hw 11 rfl) (by decide) e0 (rmUlt l Z a0 hw [] w_BITS_32 w_BITS_64 hS x0 q h0 O0) 0 (by decide) (by decide) (by decide) (by decide) (g := (mkF m 11 #[sR a1, sI 3, sJ q, sS, sI 0] [(.long q), (.long x0)])) rfl (by rw [hml]; rfl) [(.long x0), (.long q)] [] rfl (lenOf pd_212497 rfl) rfl (by show 2 * 0 + _ ≤ _; exact Nat.le_of_eq rfl) (hb hby d11_11)
  have N89 := Fr.app N0 Nq89
  refine Go.st (S' := T89.setTop (mkF m 14 #[sR a1, sI 3, sJ q, sS, sI 0] [(.int (bF x0 q))])) st89 ?_
  by_cases hc14 : (bF x0 q) = (0 : Int32)
  · refine Go.st (S' := T89.setTop (mkF m 20 #[sR a1, sI 3, sJ q, sS, sI 0] [])) (fun _ k => XS.ifYes X89.here hx rfl (pc0 := 14) (pc' := 20) rfl (hb hby d11_14) rfl ((if0 _ _).trans (teq hc14).1) (by decide) (by decide) k) ?_
    exact kb0  _ _ _ X89 eq89 N89 O0  _ VA  rfl (by rw [show [x0] = [] ++ [x0] from rfl, own_cqs, if_pos hc14]; rfl)
  · refine Go.st (S' := T89.setTop (mkF m 17 #[sR a1, sI 3, sJ q, sS, sI 0] [])) (fun _ k => XS.ifNo X89.here hx rfl (hb hby d11_14) rfl ((if0 _ _).trans (feq hc14).1) k) ?_
    refine Go.st (S' := T89.setTop (mkF m 20 #[sR a1, sI 3, sJ q, sS, sI ((0 : Int32) + (1 : Int32))] [])) (fun _ k => XS.iinc X89.here hx rfl (hb hby d11_17) rfl (l' := #[sR a1, sI 3, sJ q, sS, sI ((0 : Int32) + (1 : Int32))]) rfl k) ?_
    exact kb0  _ _ _ X89 eq89 N89 O0  _ VA  rfl (by rw [show [x0] = [] ++ [x0] from rfl, own_cqs, if_neg hc14]; rfl)
theorem d11_61 : decode method_5_code 61 = .ok (.aload_n 0, 1) := by decide +kernel
theorem d11_62 : decode method_5_code 62 = .ok (.iconst 3, 1) := by decide +kernel
theorem d11_63 : decode method_5_code 63 = .ok (.laload, 1) := by decide +kernel
theorem d11_64 : decode method_5_code 64 = .ok (.lload_n 2, 1) := by decide +kernel
theorem d11_65 : decode method_5_code 65 = .ok (.invokestatic 45, 3) := by decide +kernel
theorem d11_68 : decode method_5_code 68 = .ok (.ifCond .eq 6, 3) := by decide +kernel
theorem d11_71 : decode method_5_code 71 = .ok (.iinc 4 1, 3) := by decide +kernel
theorem ef_rmBl4 (m : MethodId) (x0 : Addr) (x1 : Int32) (x2 : Int64) : entryFrame m #[(.ref x0), (.int x1), (.long x2)] 5 = mkF m 0 #[sR x0, sI x1, sJ x2, sS, sU] [] := by first | (simp [entryFrame, mkF, argsToLocals, Value.category]; done) | rfl
set_option maxRecDepth 65536 in
set_option maxHeartbeats 400000000 in
theorem rmBl4 (l : Launch) (Z : State) (a0 : Array Value) (hw : ∀ d ∈ tables_1, d.before a0 Z = true) (ws : List Jvm.Cond) (w_BITS_32 : Addr) (w_BITS_64 : Addr) (hS : SF Z w_BITS_32 w_BITS_64) (a1 : Addr) (q : Int64) (k1 : ClassId) (x0 : Int64) (x1 : Int64) (x2 : Int64) (x3 : Int64) (h0 : Heap) (O0 : Ext Z.heap h0) (VA : Arv Z h0 a1 k1 .long (4 : Int32) [(.long x0), (.long x1), (.long x2), (.long x3)] (.long (0 : Int64))) :
    Con l Z h0 (⟨"com/example/lenkki/lenkki/PositionIndexFirstAtOrAfterPinLaw", "below", "([JIJ)I"⟩ : MethodName) method_5_code 5 (some .int) ws ({ frames := 1, cells := 0, slots := 0, locals := 15 } : Room) #[(.ref a1), (.int (4 : Int32)), (.long q)] (fun v h L => v = some (.int (Int32.ofNat (cq [x0, x1, x2, x3] q))) ∧ Fr Z.heap.size L ∧ h = h0) := by
  obtain ⟨S_BITS_32, E_BITS_32, F_BITS_32_bits, S_BITS_64, E_BITS_64, F_BITS_64_bits⟩ := id hS
  refine own_con (plainFor_of_name pn_372981) ?_
  intro p e s m below meth c T0 X0 hx hby hml hown hnm hret hlk hZ e0
  have hown : s.vm.findClass "com/example/lenkki/lenkki/PositionIndexFirstAtOrAfterPinLaw" = some m.cls := hown
  have N0 := Fr.nil Z.heap.size
  refine Go.st (S' := T0.setTop (mkF m 0 #[sR a1, sI 4, sJ q, sS, sU] [])) (fun _ k => castTop (ef_rmBl4 m a1 (4 : Int32) q) k) ?_
  refine Go.st (S' := T0.setTop (mkF m 1 #[sR a1, sI 4, sJ q, sS, sU] [(.int (0 : Int32))])) (fun _ k => XS.iconst X0.here hx rfl (hb hby d11_0) k) ?_
  refine Go.st (S' := T0.setTop (mkF m 3 #[sR a1, sI 4, sJ q, sS, sI 0] [])) (fun _ k => XS.istore X0.here hx rfl (hb hby d11_1) rfl (l' := #[sR a1, sI 4, sJ q, sS, sI 0]) rfl k) ?_
  refine Go.st (S' := T0.setTop (mkF m 4 #[sR a1, sI 4, sJ q, sS, sI 0] [(.int (4 : Int32))])) (fun _ k => XS.iloadN X0.here hx rfl (hb hby d11_3) rfl k) ?_
  have kb0 : ∀ (Tj : State) (lj : List Loc) (hj : Heap) (Xj : Stand p l e ({ frames := 1, cells := 0, slots := 0, locals := 15 } : Room) s m #[(.ref a1), (.int (4 : Int32)), (.long q)] below meth c Tj lj 0 0) (ej : Tj.heap = hj) (Nj : Fr Z.heap.size lj) (Oj : Ext Z.heap hj) (c1 : Int32) (Vj0 : Arv Z hj a1 k1 .long (4 : Int32) [(.long x0), (.long x1), (.long x2), (.long x3)] (.long (0 : Int64))) (hej0 : hj = h0) (hcq1 : c1 = Int32.ofNat (cq [x0] q)), Go p e below (Ret s (fun v h L => v = some (.int (Int32.ofNat (cq [x0, x1, x2, x3] q))) ∧ Fr Z.heap.size L ∧ h = h0) ({ frames := 1, cells := 0, slots := 0, locals := 15 } : Room).cells ({ frames := 1, cells := 0, slots := 0, locals := 15 } : Room).slots) (Tj.setTop (mkF m 20 #[sR a1, sI 4, sJ q, sS, sI c1] [])) := by
    intro Tj lj  hj Xj ej Nj Oj  c1 Vj0 hej0 hcq1
    refine Go.st (S' := Tj.setTop (mkF m 21 #[sR a1, sI 4, sJ q, sS, sI c1] [(.int (4 : Int32))])) (fun _ k => XS.iloadN Xj.here hx rfl (hb hby d11_20) rfl k) ?_
    have kb1 : ∀ (Tj : State) (lj : List Loc) (hj : Heap) (Xj : Stand p l e ({ frames := 1, cells := 0, slots := 0, locals := 15 } : Room) s m #[(.ref a1), (.int (4 : Int32)), (.long q)] below meth c Tj lj 0 0) (ej : Tj.heap = hj) (Nj : Fr Z.heap.size lj) (Oj : Ext Z.heap hj) (c2 : Int32) (Vj1 : Arv Z hj a1 k1 .long (4 : Int32) [(.long x0), (.long x1), (.long x2), (.long x3)] (.long (0 : Int64))) (hej1 : hj = h0) (hcq2 : c2 = Int32.ofNat (cq [x0, x1] q)), Go p e below (Ret s (fun v h L => v = some (.int (Int32.ofNat (cq [x0, x1, x2, x3] q))) ∧ Fr Z.heap.size L ∧ h = h0) ({ frames := 1, cells := 0, slots := 0, locals := 15 } : Room).cells ({ frames := 1, cells := 0, slots := 0, locals := 15 } : Room).slots) (Tj.setTop (mkF m 38 #[sR a1, sI 4, sJ q, sS, sI c2] [])) := by
      intro Tj lj  hj Xj ej Nj Oj  c2 Vj1 hej1 hcq2
      refine Go.st (S' := Tj.setTop (mkF m 39 #[sR a1, sI 4, sJ q, sS, sI c2] [(.int (4 : Int32))])) (fun _ k => XS.iloadN Xj.here hx rfl (hb hby d11_38) rfl k) ?_
      have kb2 : ∀ (Tj : State) (lj : List Loc) (hj : Heap) (Xj : Stand p l e ({ frames := 1, cells := 0, slots := 0, locals := 15 } : Room) s m #[(.ref a1), (.int (4 : Int32)), (.long q)] below meth c Tj lj 0 0) (ej : Tj.heap = hj) (Nj : Fr Z.heap.size lj) (Oj : Ext Z.heap hj) (c3 : Int32) (Vj2 : Arv Z hj a1 k1 .long (4 : Int32) [(.long x0), (.long x1), (.long x2), (.long x3)] (.long (0 : Int64))) (hej2 : hj = h0) (hcq3 : c3 = Int32.ofNat (cq [x0, x1, x2] q)), Go p e below (Ret s (fun v h L => v = some (.int (Int32.ofNat (cq [x0, x1, x2, x3] q))) ∧ Fr Z.heap.size L ∧ h = h0) ({ frames := 1, cells := 0, slots := 0, locals := 15 } : Room).cells ({ frames := 1, cells := 0, slots := 0, locals := 15 } : Room).slots) (Tj.setTop (mkF m 56 #[sR a1, sI 4, sJ q, sS, sI c3] [])) := by
        intro Tj lj  hj Xj ej Nj Oj  c3 Vj2 hej2 hcq3
        refine Go.st (S' := Tj.setTop (mkF m 57 #[sR a1, sI 4, sJ q, sS, sI c3] [(.int (4 : Int32))])) (fun _ k => XS.iloadN Xj.here hx rfl (hb hby d11_56) rfl k) ?_
        have kb3 : ∀ (Tj : State) (lj : List Loc) (hj : Heap) (Xj : Stand p l e ({ frames := 1, cells := 0, slots := 0, locals := 15 } : Room) s m #[(.ref a1), (.int (4 : Int32)), (.long q)] below meth c Tj lj 0 0) (ej : Tj.heap = hj) (Nj : Fr Z.heap.size lj) (Oj : Ext Z.heap hj) (c4 : Int32) (Vj3 : Arv Z hj a1 k1 .long (4 : Int32) [(.long x0), (.long x1), (.long x2), (.long x3)] (.long (0 : Int64))) (hej3 : hj = h0) (hcq4 : c4 = Int32.ofNat (cq [x0, x1, x2, x3] q)), Go p e below (Ret s (fun v h L => v = some (.int (Int32.ofNat (cq [x0, x1, x2, x3] q))) ∧ Fr Z.heap.size L ∧ h = h0) ({ frames := 1, cells := 0, slots := 0, locals := 15 } : Room).cells ({ frames := 1, cells := 0, slots := 0, locals := 15 } : Room).slots) (Tj.setTop (mkF m 74 #[sR a1, sI 4, sJ q, sS, sI c4] [])) := by
          intro Tj lj  hj Xj ej Nj Oj  c4 Vj3 hej3 hcq4
          refine Go.st (S' := Tj.setTop (mkF m 75 #[sR a1, sI 4, sJ q, sS, sI c4] [(.int (4 : Int32))])) (fun _ k => XS.iloadN Xj.here hx rfl (hb hby d11_74) rfl k) ?_
          have kb4 : ∀ (Tj : State) (lj : List Loc) (hj : Heap) (Xj : Stand p l e ({ frames := 1, cells := 0, slots := 0, locals := 15 } : Room) s m #[(.ref a1), (.int (4 : Int32)), (.long q)] below meth c Tj lj 0 0) (ej : Tj.heap = hj) (Nj : Fr Z.heap.size lj) (Oj : Ext Z.heap hj) (c5 : Int32) (Vj4 : Arv Z hj a1 k1 .long (4 : Int32) [(.long x0), (.long x1), (.long x2), (.long x3)] (.long (0 : Int64))) (hej4 : hj = h0) (hcq5 : c5 = Int32.ofNat (cq [x0, x1, x2, x3] q)), Go p e below (Ret s (fun v h L => v = some (.int (Int32.ofNat (cq [x0, x1, x2, x3] q))) ∧ Fr Z.heap.size L ∧ h = h0) ({ frames := 1, cells := 0, slots := 0, locals := 15 } : Room).cells ({ frames := 1, cells := 0, slots := 0, locals := 15 } : Room).slots) (Tj.setTop (mkF m 92 #[sR a1, sI 4, sJ q, sS, sI c5] [])) := by
            intro Tj lj  hj Xj ej Nj Oj  c5 Vj4 hej4 hcq5
            refine Go.st (S' := Tj.setTop (mkF m 93 #[sR a1, sI 4, sJ q, sS, sI c5] [(.int (4 : Int32))])) (fun _ k => XS.iloadN Xj.here hx rfl (hb hby d11_92) rfl k) ?_
            have kb5 : ∀ (Tj : State) (lj : List Loc) (hj : Heap) (Xj : Stand p l e ({ frames := 1, cells := 0, slots := 0, locals := 15 } : Room) s m #[(.ref a1), (.int (4 : Int32)), (.long q)] below meth c Tj lj 0 0) (ej : Tj.heap = hj) (Nj : Fr Z.heap.size lj) (Oj : Ext Z.heap hj) (c6 : Int32) (Vj5 : Arv Z hj a1 k1 .long (4 : Int32) [(.long x0), (.long x1), (.long x2), (.long x3)] (.long (0 : Int64))) (hej5 : hj = h0) (hcq6 : c6 = Int32.ofNat (cq [x0, x1, x2, x3] q)), Go p e below (Ret s (fun v h L => v = some (.int (Int32.ofNat (cq [x0, x1, x2, x3] q))) ∧ Fr Z.heap.size L ∧ h = h0) ({ frames := 1, cells := 0, slots := 0, locals := 15 } : Room).cells ({ frames := 1, cells := 0, slots := 0, locals := 15 } : Room).slots) (Tj.setTop (mkF m 110 #[sR a1, sI 4, sJ q, sS, sI c6] [])) := by
              intro Tj lj  hj Xj ej Nj Oj  c6 Vj5 hej5 hcq6
              refine Go.st (S' := Tj.setTop (mkF m 112 #[sR a1, sI 4, sJ q, sS, sI c6] [(.int c6)])) (fun _ k => XS.iload Xj.here hx rfl (hb hby d11_110) rfl k) ?_
              exact own_retI Xj hx hlk hret (hb hby d11_112) ej ⟨by rw [hcq6], Nj, hej5⟩ (by decide) (by decide)
            refine Go.st (S' := Tj.setTop (mkF m 94 #[sR a1, sI 4, sJ q, sS, sI c5] [(.int (5 : Int32)), (.int (4 : Int32))])) (fun _ k => XS.iconst Xj.here hx rfl (hb hby d11_93) k) ?_
            refine Go.st (S' := Tj.setTop (mkF m 110 #[sR a1, sI 4, sJ q, sS, sI c5] [])) (fun _ k => XS.icmpYes Xj.here hx rfl (pc0 := 94) (pc' := 110) rfl (hb hby d11_94) rfl (flt (by decide)).2.2.2 (by decide) (by decide) k) ?_
            exact kb5  _ _ _ Xj ej Nj Oj  _ Vj4  hej4 hcq5
          refine Go.st (S' := Tj.setTop (mkF m 76 #[sR a1, sI 4, sJ q, sS, sI c4] [(.int (4 : Int32)), (.int (4 : Int32))])) (fun _ k => XS.iconst Xj.here hx rfl (hb hby d11_75) k) ?_
          refine Go.st (S' := Tj.setTop (mkF m 92 #[sR a1, sI 4, sJ q, sS, sI c4] [])) (fun _ k => XS.icmpYes Xj.here hx rfl (pc0 := 76) (pc' := 92) rfl (hb hby d11_76) rfl (flt (by decide)).2.2.2 (by decide) (by decide) k) ?_
          exact kb4  _ _ _ Xj ej Nj Oj  _ Vj3  hej3 hcq4
        refine Go.st (S' := Tj.setTop (mkF m 58 #[sR a1, sI 4, sJ q, sS, sI c3] [(.int (3 : Int32)), (.int (4 : Int32))])) (fun _ k => XS.iconst Xj.here hx rfl (hb hby d11_57) k) ?_
        refine Go.st (S' := Tj.setTop (mkF m 61 #[sR a1, sI 4, sJ q, sS, sI c3] [])) (fun _ k => XS.icmpNo Xj.here hx rfl (hb hby d11_58) rfl (tlt (by decide)).2.2.2 k) ?_
        refine Go.st (S' := Tj.setTop (mkF m 62 #[sR a1, sI 4, sJ q, sS, sI c3] [(.ref a1)])) (fun _ k => XS.aloadN Xj.here hx rfl (hb hby d11_61) rfl rfl k) ?_
        refine Go.st (S' := Tj.setTop (mkF m 63 #[sR a1, sI 4, sJ q, sS, sI c3] [(.int (3 : Int32)), (.ref a1)])) (fun _ k => XS.iconst Xj.here hx rfl (hb hby d11_62) k) ?_
        refine Go.st (S' := Tj.setTop (mkF m 64 #[sR a1, sI 4, sJ q, sS, sI c3] [(.long x3)])) (own_ldJ Xj hx hZ ej Vj2 ⟨by decide, by decide⟩ rfl (g := (mkF m 63 #[sR a1, sI 4, sJ q, sS, sI c3] [(.int (3 : Int32)), (.ref a1)])) rfl rfl (hb hby d11_63)) ?_
        refine Go.st (S' := Tj.setTop (mkF m 65 #[sR a1, sI 4, sJ q, sS, sI c3] [(.long q), (.long x3)])) (fun _ k => XS.lloadN Xj.here hx rfl (hb hby d11_64) rfl k) ?_
        obtain ⟨_, T91, L91, X91, ⟨rfl, Nq91, eq91⟩, st91⟩ := own_callS Xj hx hZ hown (ww hw 9 rfl) (ww hw 10 rfl) (ww hw 7 rfl) (ww hw 11 rfl) (by decide) ej (rmUlt l Z a0 hw [] w_BITS_32 w_BITS_64 hS x3 q hj Oj) 0 (by decide) (by decide) (by decide) (by decide) (g := (mkF m 65 #[sR a1, sI 4, sJ q, sS, sI c3] [(.long q), (.long x3)])) rfl (by rw [hml]; rfl) [(.long x3), (.long q)] [] rfl (lenOf pd_212497 rfl) rfl (by show 2 * 0 + _ ≤ _; exact Nat.le_of_eq rfl) (hb hby d11_65)
        have N91 := Fr.app Nj Nq91
        refine Go.st (S' := T91.setTop (mkF m 68 #[sR a1, sI 4, sJ q, sS, sI c3] [(.int (bF x3 q))])) st91 ?_
        by_cases hc68 : (bF x3 q) = (0 : Int32)
        · refine Go.st (S' := T91.setTop (mkF m 74 #[sR a1, sI 4, sJ q, sS, sI c3] [])) (fun _ k => XS.ifYes X91.here hx rfl (pc0 := 68) (pc' := 74) rfl (hb hby d11_68) rfl ((if0 _ _).trans (teq hc68).1) (by decide) (by decide) k) ?_
          exact kb3  _ _ _ X91 eq91 N91 Oj  _ Vj2  hej2 (by rw [show [x0, x1, x2, x3] = [x0, x1, x2] ++ [x3] from rfl, own_cqs, if_pos hc68]; exact hcq3)
        · refine Go.st (S' := T91.setTop (mkF m 71 #[sR a1, sI 4, sJ q, sS, sI c3] [])) (fun _ k => XS.ifNo X91.here hx rfl (hb hby d11_68) rfl ((if0 _ _).trans (feq hc68).1) k) ?_
          refine Go.st (S' := T91.setTop (mkF m 74 #[sR a1, sI 4, sJ q, sS, sI (c3 + (1 : Int32))] [])) (fun _ k => XS.iinc X91.here hx rfl (hb hby d11_71) rfl (l' := #[sR a1, sI 4, sJ q, sS, sI (c3 + (1 : Int32))]) rfl k) ?_
          exact kb3  _ _ _ X91 eq91 N91 Oj  _ Vj2  hej2 (by rw [show [x0, x1, x2, x3] = [x0, x1, x2] ++ [x3] from rfl, own_cqs, if_neg hc68]; rw [hcq3])
      refine Go.st (S' := Tj.setTop (mkF m 40 #[sR a1, sI 4, sJ q, sS, sI c2] [(.int (2 : Int32)), (.int (4 : Int32))])) (fun _ k => XS.iconst Xj.here hx rfl (hb hby d11_39) k) ?_
      refine Go.st (S' := Tj.setTop (mkF m 43 #[sR a1, sI 4, sJ q, sS, sI c2] [])) (fun _ k => XS.icmpNo Xj.here hx rfl (hb hby d11_40) rfl (tlt (by decide)).2.2.2 k) ?_
      refine Go.st (S' := Tj.setTop (mkF m 44 #[sR a1, sI 4, sJ q, sS, sI c2] [(.ref a1)])) (fun _ k => XS.aloadN Xj.here hx rfl (hb hby d11_43) rfl rfl k) ?_
      refine Go.st (S' := Tj.setTop (mkF m 45 #[sR a1, sI 4, sJ q, sS, sI c2] [(.int (2 : Int32)), (.ref a1)])) (fun _ k => XS.iconst Xj.here hx rfl (hb hby d11_44) k) ?_
      refine Go.st (S' := Tj.setTop (mkF m 46 #[sR a1, sI 4, sJ q, sS, sI c2] [(.long x2)])) (own_ldJ Xj hx hZ ej Vj1 ⟨by decide, by decide⟩ rfl (g := (mkF m 45 #[sR a1, sI 4, sJ q, sS, sI c2] [(.int (2 : Int32)), (.ref a1)])) rfl rfl (hb hby d11_45)) ?_
      refine Go.st (S' := Tj.setTop (mkF m 47 #[sR a1, sI 4, sJ q, sS, sI c2] [(.long q), (.long x2)])) (fun _ k => XS.lloadN Xj.here hx rfl (hb hby d11_46) rfl k) ?_
      obtain ⟨_, T93, L93, X93, ⟨rfl, Nq93, eq93⟩, st93⟩ := own_callS Xj hx hZ hown (ww hw 9 rfl) (ww hw 10 rfl) (ww hw 7 rfl) (ww hw 11 rfl) (by decide) ej (rmUlt l Z a0 hw [] w_BITS_32 w_BITS_64 hS x2 q hj Oj) 0 (by decide) (by decide) (by decide) (by decide) (g := (mkF m 47 #[sR a1, sI 4, sJ q, sS, sI c2] [(.long q), (.long x2)])) rfl (by rw [hml]; rfl) [(.long x2), (.long q)] [] rfl (lenOf pd_212497 rfl) rfl (by show 2 * 0 + _ ≤ _; exact Nat.le_of_eq rfl) (hb hby d11_47)
      have N93 := Fr.app Nj Nq93
      refine Go.st (S' := T93.setTop (mkF m 50 #[sR a1, sI 4, sJ q, sS, sI c2] [(.int (bF x2 q))])) st93 ?_
      by_cases hc50 : (bF x2 q) = (0 : Int32)
      · refine Go.st (S' := T93.setTop (mkF m 56 #[sR a1, sI 4, sJ q, sS, sI c2] [])) (fun _ k => XS.ifYes X93.here hx rfl (pc0 := 50) (pc' := 56) rfl (hb hby d11_50) rfl ((if0 _ _).trans (teq hc50).1) (by decide) (by decide) k) ?_
        exact kb2  _ _ _ X93 eq93 N93 Oj  _ Vj1  hej1 (by rw [show [x0, x1, x2] = [x0, x1] ++ [x2] from rfl, own_cqs, if_pos hc50]; exact hcq2)
      · refine Go.st (S' := T93.setTop (mkF m 53 #[sR a1, sI 4, sJ q, sS, sI c2] [])) (fun _ k => XS.ifNo X93.here hx rfl (hb hby d11_50) rfl ((if0 _ _).trans (feq hc50).1) k) ?_
        refine Go.st (S' := T93.setTop (mkF m 56 #[sR a1, sI 4, sJ q, sS, sI (c2 + (1 : Int32))] [])) (fun _ k => XS.iinc X93.here hx rfl (hb hby d11_53) rfl (l' := #[sR a1, sI 4, sJ q, sS, sI (c2 + (1 : Int32))]) rfl k) ?_
        exact kb2  _ _ _ X93 eq93 N93 Oj  _ Vj1  hej1 (by rw [show [x0, x1, x2] = [x0, x1] ++ [x2] from rfl, own_cqs, if_neg hc50]; rw [hcq2])
    refine Go.st (S' := Tj.setTop (mkF m 22 #[sR a1, sI 4, sJ q, sS, sI c1] [(.int (1 : Int32)), (.int (4 : Int32))])) (fun _ k => XS.iconst Xj.here hx rfl (hb hby d11_21) k) ?_
    refine Go.st (S' := Tj.setTop (mkF m 25 #[sR a1, sI 4, sJ q, sS, sI c1] [])) (fun _ k => XS.icmpNo Xj.here hx rfl (hb hby d11_22) rfl (tlt (by decide)).2.2.2 k) ?_
    refine Go.st (S' := Tj.setTop (mkF m 26 #[sR a1, sI 4, sJ q, sS, sI c1] [(.ref a1)])) (fun _ k => XS.aloadN Xj.here hx rfl (hb hby d11_25) rfl rfl k) ?_
    refine Go.st (S' := Tj.setTop (mkF m 27 #[sR a1, sI 4, sJ q, sS, sI c1] [(.int (1 : Int32)), (.ref a1)])) (fun _ k => XS.iconst Xj.here hx rfl (hb hby d11_26) k) ?_
    refine Go.st (S' := Tj.setTop (mkF m 28 #[sR a1, sI 4, sJ q, sS, sI c1] [(.long x1)])) (own_ldJ Xj hx hZ ej Vj0 ⟨by decide, by decide⟩ rfl (g := (mkF m 27 #[sR a1, sI 4, sJ q, sS, sI c1] [(.int (1 : Int32)), (.ref a1)])) rfl rfl (hb hby d11_27)) ?_
    refine Go.st (S' := Tj.setTop (mkF m 29 #[sR a1, sI 4, sJ q, sS, sI c1] [(.long q), (.long x1)])) (fun _ k => XS.lloadN Xj.here hx rfl (hb hby d11_28) rfl k) ?_
    obtain ⟨_, T95, L95, X95, ⟨rfl, Nq95, eq95⟩, st95⟩ := own_callS Xj hx hZ hown (ww hw 9 rfl) (ww hw 10 rfl) (ww hw 7 rfl) (ww hw 11 rfl) (by decide) ej (rmUlt l Z a0 hw [] w_BITS_32 w_BITS_64 hS x1 q hj Oj) 0 (by decide) (by decide) (by decide) (by decide) (g := (mkF m 29 #[sR a1, sI 4, sJ q, sS, sI c1] [(.long q), (.long x1)])) rfl (by rw [hml]; rfl) [(.long x1), (.long q)] [] rfl (lenOf pd_212497 rfl) rfl (by show 2 * 0 + _ ≤ _; exact Nat.le_of_eq rfl) (hb hby d11_29)
    have N95 := Fr.app Nj Nq95
    refine Go.st (S' := T95.setTop (mkF m 32 #[sR a1, sI 4, sJ q, sS, sI c1] [(.int (bF x1 q))])) st95 ?_
    by_cases hc32 : (bF x1 q) = (0 : Int32)
    · refine Go.st (S' := T95.setTop (mkF m 38 #[sR a1, sI 4, sJ q, sS, sI c1] [])) (fun _ k => XS.ifYes X95.here hx rfl (pc0 := 32) (pc' := 38) rfl (hb hby d11_32) rfl ((if0 _ _).trans (teq hc32).1) (by decide) (by decide) k) ?_
      exact kb1  _ _ _ X95 eq95 N95 Oj  _ Vj0  hej0 (by rw [show [x0, x1] = [x0] ++ [x1] from rfl, own_cqs, if_pos hc32]; exact hcq1)
    · refine Go.st (S' := T95.setTop (mkF m 35 #[sR a1, sI 4, sJ q, sS, sI c1] [])) (fun _ k => XS.ifNo X95.here hx rfl (hb hby d11_32) rfl ((if0 _ _).trans (feq hc32).1) k) ?_
      refine Go.st (S' := T95.setTop (mkF m 38 #[sR a1, sI 4, sJ q, sS, sI (c1 + (1 : Int32))] [])) (fun _ k => XS.iinc X95.here hx rfl (hb hby d11_35) rfl (l' := #[sR a1, sI 4, sJ q, sS, sI (c1 + (1 : Int32))]) rfl k) ?_
      exact kb1  _ _ _ X95 eq95 N95 Oj  _ Vj0  hej0 (by rw [show [x0, x1] = [x0] ++ [x1] from rfl, own_cqs, if_neg hc32]; rw [hcq1])
  refine Go.st (S' := T0.setTop (mkF m 7 #[sR a1, sI 4, sJ q, sS, sI 0] [])) (fun _ k => XS.ifNo X0.here hx rfl (hb hby d11_4) rfl ((if0 _ _).trans (tlt (by decide)).2.2.2) k) ?_
  refine Go.st (S' := T0.setTop (mkF m 8 #[sR a1, sI 4, sJ q, sS, sI 0] [(.ref a1)])) (fun _ k => XS.aloadN X0.here hx rfl (hb hby d11_7) rfl rfl k) ?_
  refine Go.st (S' := T0.setTop (mkF m 9 #[sR a1, sI 4, sJ q, sS, sI 0] [(.int (0 : Int32)), (.ref a1)])) (fun _ k => XS.iconst X0.here hx rfl (hb hby d11_8) k) ?_
  refine Go.st (S' := T0.setTop (mkF m 10 #[sR a1, sI 4, sJ q, sS, sI 0] [(.long x0)])) (own_ldJ X0 hx hZ e0 VA ⟨by decide, by decide⟩ rfl (g := (mkF m 9 #[sR a1, sI 4, sJ q, sS, sI 0] [(.int (0 : Int32)), (.ref a1)])) rfl rfl (hb hby d11_9)) ?_
  refine Go.st (S' := T0.setTop (mkF m 11 #[sR a1, sI 4, sJ q, sS, sI 0] [(.long q), (.long x0)])) (fun _ k => XS.lloadN X0.here hx rfl (hb hby d11_10) rfl k) ?_
  obtain ⟨_, T97, L97, X97, ⟨rfl, Nq97, eq97⟩, st97⟩ := own_callS X0 hx hZ hown (ww hw 9 rfl) (ww hw 10 rfl) (ww hw 7 rfl) (ww hw 11 rfl) (by decide) e0 (rmUlt l Z a0 hw [] w_BITS_32 w_BITS_64 hS x0 q h0 O0) 0 (by decide) (by decide) (by decide) (by decide) (g := (mkF m 11 #[sR a1, sI 4, sJ q, sS, sI 0] [(.long q), (.long x0)])) rfl (by rw [hml]; rfl) [(.long x0), (.long q)] [] rfl (lenOf pd_212497 rfl) rfl (by show 2 * 0 + _ ≤ _; exact Nat.le_of_eq rfl) (hb hby d11_11)
  have N97 := Fr.app N0 Nq97
  refine Go.st (S' := T97.setTop (mkF m 14 #[sR a1, sI 4, sJ q, sS, sI 0] [(.int (bF x0 q))])) st97 ?_
  by_cases hc14 : (bF x0 q) = (0 : Int32)
  · refine Go.st (S' := T97.setTop (mkF m 20 #[sR a1, sI 4, sJ q, sS, sI 0] [])) (fun _ k => XS.ifYes X97.here hx rfl (pc0 := 14) (pc' := 20) rfl (hb hby d11_14) rfl ((if0 _ _).trans (teq hc14).1) (by decide) (by decide) k) ?_
    exact kb0  _ _ _ X97 eq97 N97 O0  _ VA  rfl (by rw [show [x0] = [] ++ [x0] from rfl, own_cqs, if_pos hc14]; rfl)
  · refine Go.st (S' := T97.setTop (mkF m 17 #[sR a1, sI 4, sJ q, sS, sI 0] [])) (fun _ k => XS.ifNo X97.here hx rfl (hb hby d11_14) rfl ((if0 _ _).trans (feq hc14).1) k) ?_
    refine Go.st (S' := T97.setTop (mkF m 20 #[sR a1, sI 4, sJ q, sS, sI ((0 : Int32) + (1 : Int32))] [])) (fun _ k => XS.iinc X97.here hx rfl (hb hby d11_17) rfl (l' := #[sR a1, sI 4, sJ q, sS, sI ((0 : Int32) + (1 : Int32))]) rfl k) ?_
    exact kb0  _ _ _ X97 eq97 N97 O0  _ VA  rfl (by rw [show [x0] = [] ++ [x0] from rfl, own_cqs, if_neg hc14]; rfl)
theorem d11_79 : decode method_5_code 79 = .ok (.aload_n 0, 1) := by decide +kernel
theorem d11_80 : decode method_5_code 80 = .ok (.iconst 4, 1) := by decide +kernel
theorem d11_81 : decode method_5_code 81 = .ok (.laload, 1) := by decide +kernel
theorem d11_82 : decode method_5_code 82 = .ok (.lload_n 2, 1) := by decide +kernel
theorem d11_83 : decode method_5_code 83 = .ok (.invokestatic 45, 3) := by decide +kernel
theorem d11_86 : decode method_5_code 86 = .ok (.ifCond .eq 6, 3) := by decide +kernel
theorem d11_89 : decode method_5_code 89 = .ok (.iinc 4 1, 3) := by decide +kernel
theorem ef_rmBl5 (m : MethodId) (x0 : Addr) (x1 : Int32) (x2 : Int64) : entryFrame m #[(.ref x0), (.int x1), (.long x2)] 5 = mkF m 0 #[sR x0, sI x1, sJ x2, sS, sU] [] := by first | (simp [entryFrame, mkF, argsToLocals, Value.category]; done) | rfl
set_option maxRecDepth 65536 in
set_option maxHeartbeats 400000000 in
theorem rmBl5 (l : Launch) (Z : State) (a0 : Array Value) (hw : ∀ d ∈ tables_1, d.before a0 Z = true) (ws : List Jvm.Cond) (w_BITS_32 : Addr) (w_BITS_64 : Addr) (hS : SF Z w_BITS_32 w_BITS_64) (a1 : Addr) (q : Int64) (k1 : ClassId) (x0 : Int64) (x1 : Int64) (x2 : Int64) (x3 : Int64) (x4 : Int64) (h0 : Heap) (O0 : Ext Z.heap h0) (VA : Arv Z h0 a1 k1 .long (5 : Int32) [(.long x0), (.long x1), (.long x2), (.long x3), (.long x4)] (.long (0 : Int64))) :
    Con l Z h0 (⟨"com/example/lenkki/lenkki/PositionIndexFirstAtOrAfterPinLaw", "below", "([JIJ)I"⟩ : MethodName) method_5_code 5 (some .int) ws ({ frames := 1, cells := 0, slots := 0, locals := 15 } : Room) #[(.ref a1), (.int (5 : Int32)), (.long q)] (fun v h L => v = some (.int (Int32.ofNat (cq [x0, x1, x2, x3, x4] q))) ∧ Fr Z.heap.size L ∧ h = h0) := by
  obtain ⟨S_BITS_32, E_BITS_32, F_BITS_32_bits, S_BITS_64, E_BITS_64, F_BITS_64_bits⟩ := id hS
  refine own_con (plainFor_of_name pn_372981) ?_
  intro p e s m below meth c T0 X0 hx hby hml hown hnm hret hlk hZ e0
  have hown : s.vm.findClass "com/example/lenkki/lenkki/PositionIndexFirstAtOrAfterPinLaw" = some m.cls := hown
  have N0 := Fr.nil Z.heap.size
  refine Go.st (S' := T0.setTop (mkF m 0 #[sR a1, sI 5, sJ q, sS, sU] [])) (fun _ k => castTop (ef_rmBl5 m a1 (5 : Int32) q) k) ?_
  refine Go.st (S' := T0.setTop (mkF m 1 #[sR a1, sI 5, sJ q, sS, sU] [(.int (0 : Int32))])) (fun _ k => XS.iconst X0.here hx rfl (hb hby d11_0) k) ?_
  refine Go.st (S' := T0.setTop (mkF m 3 #[sR a1, sI 5, sJ q, sS, sI 0] [])) (fun _ k => XS.istore X0.here hx rfl (hb hby d11_1) rfl (l' := #[sR a1, sI 5, sJ q, sS, sI 0]) rfl k) ?_
  refine Go.st (S' := T0.setTop (mkF m 4 #[sR a1, sI 5, sJ q, sS, sI 0] [(.int (5 : Int32))])) (fun _ k => XS.iloadN X0.here hx rfl (hb hby d11_3) rfl k) ?_
  have kb0 : ∀ (Tj : State) (lj : List Loc) (hj : Heap) (Xj : Stand p l e ({ frames := 1, cells := 0, slots := 0, locals := 15 } : Room) s m #[(.ref a1), (.int (5 : Int32)), (.long q)] below meth c Tj lj 0 0) (ej : Tj.heap = hj) (Nj : Fr Z.heap.size lj) (Oj : Ext Z.heap hj) (c1 : Int32) (Vj0 : Arv Z hj a1 k1 .long (5 : Int32) [(.long x0), (.long x1), (.long x2), (.long x3), (.long x4)] (.long (0 : Int64))) (hej0 : hj = h0) (hcq1 : c1 = Int32.ofNat (cq [x0] q)), Go p e below (Ret s (fun v h L => v = some (.int (Int32.ofNat (cq [x0, x1, x2, x3, x4] q))) ∧ Fr Z.heap.size L ∧ h = h0) ({ frames := 1, cells := 0, slots := 0, locals := 15 } : Room).cells ({ frames := 1, cells := 0, slots := 0, locals := 15 } : Room).slots) (Tj.setTop (mkF m 20 #[sR a1, sI 5, sJ q, sS, sI c1] [])) := by
    intro Tj lj  hj Xj ej Nj Oj  c1 Vj0 hej0 hcq1
    refine Go.st (S' := Tj.setTop (mkF m 21 #[sR a1, sI 5, sJ q, sS, sI c1] [(.int (5 : Int32))])) (fun _ k => XS.iloadN Xj.here hx rfl (hb hby d11_20) rfl k) ?_
    have kb1 : ∀ (Tj : State) (lj : List Loc) (hj : Heap) (Xj : Stand p l e ({ frames := 1, cells := 0, slots := 0, locals := 15 } : Room) s m #[(.ref a1), (.int (5 : Int32)), (.long q)] below meth c Tj lj 0 0) (ej : Tj.heap = hj) (Nj : Fr Z.heap.size lj) (Oj : Ext Z.heap hj) (c2 : Int32) (Vj1 : Arv Z hj a1 k1 .long (5 : Int32) [(.long x0), (.long x1), (.long x2), (.long x3), (.long x4)] (.long (0 : Int64))) (hej1 : hj = h0) (hcq2 : c2 = Int32.ofNat (cq [x0, x1] q)), Go p e below (Ret s (fun v h L => v = some (.int (Int32.ofNat (cq [x0, x1, x2, x3, x4] q))) ∧ Fr Z.heap.size L ∧ h = h0) ({ frames := 1, cells := 0, slots := 0, locals := 15 } : Room).cells ({ frames := 1, cells := 0, slots := 0, locals := 15 } : Room).slots) (Tj.setTop (mkF m 38 #[sR a1, sI 5, sJ q, sS, sI c2] [])) := by
      intro Tj lj  hj Xj ej Nj Oj  c2 Vj1 hej1 hcq2
      refine Go.st (S' := Tj.setTop (mkF m 39 #[sR a1, sI 5, sJ q, sS, sI c2] [(.int (5 : Int32))])) (fun _ k => XS.iloadN Xj.here hx rfl (hb hby d11_38) rfl k) ?_
      have kb2 : ∀ (Tj : State) (lj : List Loc) (hj : Heap) (Xj : Stand p l e ({ frames := 1, cells := 0, slots := 0, locals := 15 } : Room) s m #[(.ref a1), (.int (5 : Int32)), (.long q)] below meth c Tj lj 0 0) (ej : Tj.heap = hj) (Nj : Fr Z.heap.size lj) (Oj : Ext Z.heap hj) (c3 : Int32) (Vj2 : Arv Z hj a1 k1 .long (5 : Int32) [(.long x0), (.long x1), (.long x2), (.long x3), (.long x4)] (.long (0 : Int64))) (hej2 : hj = h0) (hcq3 : c3 = Int32.ofNat (cq [x0, x1, x2] q)), Go p e below (Ret s (fun v h L => v = some (.int (Int32.ofNat (cq [x0, x1, x2, x3, x4] q))) ∧ Fr Z.heap.size L ∧ h = h0) ({ frames := 1, cells := 0, slots := 0, locals := 15 } : Room).cells ({ frames := 1, cells := 0, slots := 0, locals := 15 } : Room).slots) (Tj.setTop (mkF m 56 #[sR a1, sI 5, sJ q, sS, sI c3] [])) := by
        intro Tj lj  hj Xj ej Nj Oj  c3 Vj2 hej2 hcq3
        refine Go.st (S' := Tj.setTop (mkF m 57 #[sR a1, sI 5, sJ q, sS, sI c3] [(.int (5 : Int32))])) (fun _ k => XS.iloadN Xj.here hx rfl (hb hby d11_56) rfl k) ?_
        have kb3 : ∀ (Tj : State) (lj : List Loc) (hj : Heap) (Xj : Stand p l e ({ frames := 1, cells := 0, slots := 0, locals := 15 } : Room) s m #[(.ref a1), (.int (5 : Int32)), (.long q)] below meth c Tj lj 0 0) (ej : Tj.heap = hj) (Nj : Fr Z.heap.size lj) (Oj : Ext Z.heap hj) (c4 : Int32) (Vj3 : Arv Z hj a1 k1 .long (5 : Int32) [(.long x0), (.long x1), (.long x2), (.long x3), (.long x4)] (.long (0 : Int64))) (hej3 : hj = h0) (hcq4 : c4 = Int32.ofNat (cq [x0, x1, x2, x3] q)), Go p e below (Ret s (fun v h L => v = some (.int (Int32.ofNat (cq [x0, x1, x2, x3, x4] q))) ∧ Fr Z.heap.size L ∧ h = h0) ({ frames := 1, cells := 0, slots := 0, locals := 15 } : Room).cells ({ frames := 1, cells := 0, slots := 0, locals := 15 } : Room).slots) (Tj.setTop (mkF m 74 #[sR a1, sI 5, sJ q, sS, sI c4] [])) := by
          intro Tj lj  hj Xj ej Nj Oj  c4 Vj3 hej3 hcq4
          refine Go.st (S' := Tj.setTop (mkF m 75 #[sR a1, sI 5, sJ q, sS, sI c4] [(.int (5 : Int32))])) (fun _ k => XS.iloadN Xj.here hx rfl (hb hby d11_74) rfl k) ?_
          have kb4 : ∀ (Tj : State) (lj : List Loc) (hj : Heap) (Xj : Stand p l e ({ frames := 1, cells := 0, slots := 0, locals := 15 } : Room) s m #[(.ref a1), (.int (5 : Int32)), (.long q)] below meth c Tj lj 0 0) (ej : Tj.heap = hj) (Nj : Fr Z.heap.size lj) (Oj : Ext Z.heap hj) (c5 : Int32) (Vj4 : Arv Z hj a1 k1 .long (5 : Int32) [(.long x0), (.long x1), (.long x2), (.long x3), (.long x4)] (.long (0 : Int64))) (hej4 : hj = h0) (hcq5 : c5 = Int32.ofNat (cq [x0, x1, x2, x3, x4] q)), Go p e below (Ret s (fun v h L => v = some (.int (Int32.ofNat (cq [x0, x1, x2, x3, x4] q))) ∧ Fr Z.heap.size L ∧ h = h0) ({ frames := 1, cells := 0, slots := 0, locals := 15 } : Room).cells ({ frames := 1, cells := 0, slots := 0, locals := 15 } : Room).slots) (Tj.setTop (mkF m 92 #[sR a1, sI 5, sJ q, sS, sI c5] [])) := by
            intro Tj lj  hj Xj ej Nj Oj  c5 Vj4 hej4 hcq5
            refine Go.st (S' := Tj.setTop (mkF m 93 #[sR a1, sI 5, sJ q, sS, sI c5] [(.int (5 : Int32))])) (fun _ k => XS.iloadN Xj.here hx rfl (hb hby d11_92) rfl k) ?_
            have kb5 : ∀ (Tj : State) (lj : List Loc) (hj : Heap) (Xj : Stand p l e ({ frames := 1, cells := 0, slots := 0, locals := 15 } : Room) s m #[(.ref a1), (.int (5 : Int32)), (.long q)] below meth c Tj lj 0 0) (ej : Tj.heap = hj) (Nj : Fr Z.heap.size lj) (Oj : Ext Z.heap hj) (c6 : Int32) (Vj5 : Arv Z hj a1 k1 .long (5 : Int32) [(.long x0), (.long x1), (.long x2), (.long x3), (.long x4)] (.long (0 : Int64))) (hej5 : hj = h0) (hcq6 : c6 = Int32.ofNat (cq [x0, x1, x2, x3, x4] q)), Go p e below (Ret s (fun v h L => v = some (.int (Int32.ofNat (cq [x0, x1, x2, x3, x4] q))) ∧ Fr Z.heap.size L ∧ h = h0) ({ frames := 1, cells := 0, slots := 0, locals := 15 } : Room).cells ({ frames := 1, cells := 0, slots := 0, locals := 15 } : Room).slots) (Tj.setTop (mkF m 110 #[sR a1, sI 5, sJ q, sS, sI c6] [])) := by
              intro Tj lj  hj Xj ej Nj Oj  c6 Vj5 hej5 hcq6
              refine Go.st (S' := Tj.setTop (mkF m 112 #[sR a1, sI 5, sJ q, sS, sI c6] [(.int c6)])) (fun _ k => XS.iload Xj.here hx rfl (hb hby d11_110) rfl k) ?_
              exact own_retI Xj hx hlk hret (hb hby d11_112) ej ⟨by rw [hcq6], Nj, hej5⟩ (by decide) (by decide)
            refine Go.st (S' := Tj.setTop (mkF m 94 #[sR a1, sI 5, sJ q, sS, sI c5] [(.int (5 : Int32)), (.int (5 : Int32))])) (fun _ k => XS.iconst Xj.here hx rfl (hb hby d11_93) k) ?_
            refine Go.st (S' := Tj.setTop (mkF m 110 #[sR a1, sI 5, sJ q, sS, sI c5] [])) (fun _ k => XS.icmpYes Xj.here hx rfl (pc0 := 94) (pc' := 110) rfl (hb hby d11_94) rfl (flt (by decide)).2.2.2 (by decide) (by decide) k) ?_
            exact kb5  _ _ _ Xj ej Nj Oj  _ Vj4  hej4 hcq5
          refine Go.st (S' := Tj.setTop (mkF m 76 #[sR a1, sI 5, sJ q, sS, sI c4] [(.int (4 : Int32)), (.int (5 : Int32))])) (fun _ k => XS.iconst Xj.here hx rfl (hb hby d11_75) k) ?_
          refine Go.st (S' := Tj.setTop (mkF m 79 #[sR a1, sI 5, sJ q, sS, sI c4] [])) (fun _ k => XS.icmpNo Xj.here hx rfl (hb hby d11_76) rfl (tlt (by decide)).2.2.2 k) ?_
          refine Go.st (S' := Tj.setTop (mkF m 80 #[sR a1, sI 5, sJ q, sS, sI c4] [(.ref a1)])) (fun _ k => XS.aloadN Xj.here hx rfl (hb hby d11_79) rfl rfl k) ?_
          refine Go.st (S' := Tj.setTop (mkF m 81 #[sR a1, sI 5, sJ q, sS, sI c4] [(.int (4 : Int32)), (.ref a1)])) (fun _ k => XS.iconst Xj.here hx rfl (hb hby d11_80) k) ?_
          refine Go.st (S' := Tj.setTop (mkF m 82 #[sR a1, sI 5, sJ q, sS, sI c4] [(.long x4)])) (own_ldJ Xj hx hZ ej Vj3 ⟨by decide, by decide⟩ rfl (g := (mkF m 81 #[sR a1, sI 5, sJ q, sS, sI c4] [(.int (4 : Int32)), (.ref a1)])) rfl rfl (hb hby d11_81)) ?_
          refine Go.st (S' := Tj.setTop (mkF m 83 #[sR a1, sI 5, sJ q, sS, sI c4] [(.long q), (.long x4)])) (fun _ k => XS.lloadN Xj.here hx rfl (hb hby d11_82) rfl k) ?_
          obtain ⟨_, T99, L99, X99, ⟨rfl, Nq99, eq99⟩, st99⟩ := own_callS Xj hx hZ hown (ww hw 9 rfl) (ww hw 10 rfl) (ww hw 7 rfl) (ww hw 11 rfl) (by decide) ej (rmUlt l Z a0 hw [] w_BITS_32 w_BITS_64 hS x4 q hj Oj) 0 (by decide) (by decide) (by decide) (by decide) (g := (mkF m 83 #[sR a1, sI 5, sJ q, sS, sI c4] [(.long q), (.long x4)])) rfl (by rw [hml]; rfl) [(.long x4), (.long q)] [] rfl (lenOf pd_212497 rfl) rfl (by show 2 * 0 + _ ≤ _; exact Nat.le_of_eq rfl) (hb hby d11_83)
          have N99 := Fr.app Nj Nq99
          refine Go.st (S' := T99.setTop (mkF m 86 #[sR a1, sI 5, sJ q, sS, sI c4] [(.int (bF x4 q))])) st99 ?_
          by_cases hc86 : (bF x4 q) = (0 : Int32)
          · refine Go.st (S' := T99.setTop (mkF m 92 #[sR a1, sI 5, sJ q, sS, sI c4] [])) (fun _ k => XS.ifYes X99.here hx rfl (pc0 := 86) (pc' := 92) rfl (hb hby d11_86) rfl ((if0 _ _).trans (teq hc86).1) (by decide) (by decide) k) ?_
            exact kb4  _ _ _ X99 eq99 N99 Oj  _ Vj3  hej3 (by rw [show [x0, x1, x2, x3, x4] = [x0, x1, x2, x3] ++ [x4] from rfl, own_cqs, if_pos hc86]; exact hcq4)
          · refine Go.st (S' := T99.setTop (mkF m 89 #[sR a1, sI 5, sJ q, sS, sI c4] [])) (fun _ k => XS.ifNo X99.here hx rfl (hb hby d11_86) rfl ((if0 _ _).trans (feq hc86).1) k) ?_
            refine Go.st (S' := T99.setTop (mkF m 92 #[sR a1, sI 5, sJ q, sS, sI (c4 + (1 : Int32))] [])) (fun _ k => XS.iinc X99.here hx rfl (hb hby d11_89) rfl (l' := #[sR a1, sI 5, sJ q, sS, sI (c4 + (1 : Int32))]) rfl k) ?_
            exact kb4  _ _ _ X99 eq99 N99 Oj  _ Vj3  hej3 (by rw [show [x0, x1, x2, x3, x4] = [x0, x1, x2, x3] ++ [x4] from rfl, own_cqs, if_neg hc86]; rw [hcq4])
        refine Go.st (S' := Tj.setTop (mkF m 58 #[sR a1, sI 5, sJ q, sS, sI c3] [(.int (3 : Int32)), (.int (5 : Int32))])) (fun _ k => XS.iconst Xj.here hx rfl (hb hby d11_57) k) ?_
        refine Go.st (S' := Tj.setTop (mkF m 61 #[sR a1, sI 5, sJ q, sS, sI c3] [])) (fun _ k => XS.icmpNo Xj.here hx rfl (hb hby d11_58) rfl (tlt (by decide)).2.2.2 k) ?_
        refine Go.st (S' := Tj.setTop (mkF m 62 #[sR a1, sI 5, sJ q, sS, sI c3] [(.ref a1)])) (fun _ k => XS.aloadN Xj.here hx rfl (hb hby d11_61) rfl rfl k) ?_
        refine Go.st (S' := Tj.setTop (mkF m 63 #[sR a1, sI 5, sJ q, sS, sI c3] [(.int (3 : Int32)), (.ref a1)])) (fun _ k => XS.iconst Xj.here hx rfl (hb hby d11_62) k) ?_
        refine Go.st (S' := Tj.setTop (mkF m 64 #[sR a1, sI 5, sJ q, sS, sI c3] [(.long x3)])) (own_ldJ Xj hx hZ ej Vj2 ⟨by decide, by decide⟩ rfl (g := (mkF m 63 #[sR a1, sI 5, sJ q, sS, sI c3] [(.int (3 : Int32)), (.ref a1)])) rfl rfl (hb hby d11_63)) ?_
        refine Go.st (S' := Tj.setTop (mkF m 65 #[sR a1, sI 5, sJ q, sS, sI c3] [(.long q), (.long x3)])) (fun _ k => XS.lloadN Xj.here hx rfl (hb hby d11_64) rfl k) ?_
        obtain ⟨_, T101, L101, X101, ⟨rfl, Nq101, eq101⟩, st101⟩ := own_callS Xj hx hZ hown (ww hw 9 rfl) (ww hw 10 rfl) (ww hw 7 rfl) (ww hw 11 rfl) (by decide) ej (rmUlt l Z a0 hw [] w_BITS_32 w_BITS_64 hS x3 q hj Oj) 0 (by decide) (by decide) (by decide) (by decide) (g := (mkF m 65 #[sR a1, sI 5, sJ q, sS, sI c3] [(.long q), (.long x3)])) rfl (by rw [hml]; rfl) [(.long x3), (.long q)] [] rfl (lenOf pd_212497 rfl) rfl (by show 2 * 0 + _ ≤ _; exact Nat.le_of_eq rfl) (hb hby d11_65)
        have N101 := Fr.app Nj Nq101
        refine Go.st (S' := T101.setTop (mkF m 68 #[sR a1, sI 5, sJ q, sS, sI c3] [(.int (bF x3 q))])) st101 ?_
        by_cases hc68 : (bF x3 q) = (0 : Int32)
        · refine Go.st (S' := T101.setTop (mkF m 74 #[sR a1, sI 5, sJ q, sS, sI c3] [])) (fun _ k => XS.ifYes X101.here hx rfl (pc0 := 68) (pc' := 74) rfl (hb hby d11_68) rfl ((if0 _ _).trans (teq hc68).1) (by decide) (by decide) k) ?_
          exact kb3  _ _ _ X101 eq101 N101 Oj  _ Vj2  hej2 (by rw [show [x0, x1, x2, x3] = [x0, x1, x2] ++ [x3] from rfl, own_cqs, if_pos hc68]; exact hcq3)
        · refine Go.st (S' := T101.setTop (mkF m 71 #[sR a1, sI 5, sJ q, sS, sI c3] [])) (fun _ k => XS.ifNo X101.here hx rfl (hb hby d11_68) rfl ((if0 _ _).trans (feq hc68).1) k) ?_
          refine Go.st (S' := T101.setTop (mkF m 74 #[sR a1, sI 5, sJ q, sS, sI (c3 + (1 : Int32))] [])) (fun _ k => XS.iinc X101.here hx rfl (hb hby d11_71) rfl (l' := #[sR a1, sI 5, sJ q, sS, sI (c3 + (1 : Int32))]) rfl k) ?_
          exact kb3  _ _ _ X101 eq101 N101 Oj  _ Vj2  hej2 (by rw [show [x0, x1, x2, x3] = [x0, x1, x2] ++ [x3] from rfl, own_cqs, if_neg hc68]; rw [hcq3])
      refine Go.st (S' := Tj.setTop (mkF m 40 #[sR a1, sI 5, sJ q, sS, sI c2] [(.int (2 : Int32)), (.int (5 : Int32))])) (fun _ k => XS.iconst Xj.here hx rfl (hb hby d11_39) k) ?_
      refine Go.st (S' := Tj.setTop (mkF m 43 #[sR a1, sI 5, sJ q, sS, sI c2] [])) (fun _ k => XS.icmpNo Xj.here hx rfl (hb hby d11_40) rfl (tlt (by decide)).2.2.2 k) ?_
      refine Go.st (S' := Tj.setTop (mkF m 44 #[sR a1, sI 5, sJ q, sS, sI c2] [(.ref a1)])) (fun _ k => XS.aloadN Xj.here hx rfl (hb hby d11_43) rfl rfl k) ?_
      refine Go.st (S' := Tj.setTop (mkF m 45 #[sR a1, sI 5, sJ q, sS, sI c2] [(.int (2 : Int32)), (.ref a1)])) (fun _ k => XS.iconst Xj.here hx rfl (hb hby d11_44) k) ?_
      refine Go.st (S' := Tj.setTop (mkF m 46 #[sR a1, sI 5, sJ q, sS, sI c2] [(.long x2)])) (own_ldJ Xj hx hZ ej Vj1 ⟨by decide, by decide⟩ rfl (g := (mkF m 45 #[sR a1, sI 5, sJ q, sS, sI c2] [(.int (2 : Int32)), (.ref a1)])) rfl rfl (hb hby d11_45)) ?_
      refine Go.st (S' := Tj.setTop (mkF m 47 #[sR a1, sI 5, sJ q, sS, sI c2] [(.long q), (.long x2)])) (fun _ k => XS.lloadN Xj.here hx rfl (hb hby d11_46) rfl k) ?_
      obtain ⟨_, T103, L103, X103, ⟨rfl, Nq103, eq103⟩, st103⟩ := own_callS Xj hx hZ hown (ww hw 9 rfl) (ww hw 10 rfl) (ww hw 7 rfl) (ww hw 11 rfl) (by decide) ej (rmUlt l Z a0 hw [] w_BITS_32 w_BITS_64 hS x2 q hj Oj) 0 (by decide) (by decide) (by decide) (by decide) (g := (mkF m 47 #[sR a1, sI 5, sJ q, sS, sI c2] [(.long q), (.long x2)])) rfl (by rw [hml]; rfl) [(.long x2), (.long q)] [] rfl (lenOf pd_212497 rfl) rfl (by show 2 * 0 + _ ≤ _; exact Nat.le_of_eq rfl) (hb hby d11_47)
      have N103 := Fr.app Nj Nq103
      refine Go.st (S' := T103.setTop (mkF m 50 #[sR a1, sI 5, sJ q, sS, sI c2] [(.int (bF x2 q))])) st103 ?_
      by_cases hc50 : (bF x2 q) = (0 : Int32)
      · refine Go.st (S' := T103.setTop (mkF m 56 #[sR a1, sI 5, sJ q, sS, sI c2] [])) (fun _ k => XS.ifYes X103.here hx rfl (pc0 := 50) (pc' := 56) rfl (hb hby d11_50) rfl ((if0 _ _).trans (teq hc50).1) (by decide) (by decide) k) ?_
        exact kb2  _ _ _ X103 eq103 N103 Oj  _ Vj1  hej1 (by rw [show [x0, x1, x2] = [x0, x1] ++ [x2] from rfl, own_cqs, if_pos hc50]; exact hcq2)
      · refine Go.st (S' := T103.setTop (mkF m 53 #[sR a1, sI 5, sJ q, sS, sI c2] [])) (fun _ k => XS.ifNo X103.here hx rfl (hb hby d11_50) rfl ((if0 _ _).trans (feq hc50).1) k) ?_
        refine Go.st (S' := T103.setTop (mkF m 56 #[sR a1, sI 5, sJ q, sS, sI (c2 + (1 : Int32))] [])) (fun _ k => XS.iinc X103.here hx rfl (hb hby d11_53) rfl (l' := #[sR a1, sI 5, sJ q, sS, sI (c2 + (1 : Int32))]) rfl k) ?_
        exact kb2  _ _ _ X103 eq103 N103 Oj  _ Vj1  hej1 (by rw [show [x0, x1, x2] = [x0, x1] ++ [x2] from rfl, own_cqs, if_neg hc50]; rw [hcq2])
    refine Go.st (S' := Tj.setTop (mkF m 22 #[sR a1, sI 5, sJ q, sS, sI c1] [(.int (1 : Int32)), (.int (5 : Int32))])) (fun _ k => XS.iconst Xj.here hx rfl (hb hby d11_21) k) ?_
    refine Go.st (S' := Tj.setTop (mkF m 25 #[sR a1, sI 5, sJ q, sS, sI c1] [])) (fun _ k => XS.icmpNo Xj.here hx rfl (hb hby d11_22) rfl (tlt (by decide)).2.2.2 k) ?_
    refine Go.st (S' := Tj.setTop (mkF m 26 #[sR a1, sI 5, sJ q, sS, sI c1] [(.ref a1)])) (fun _ k => XS.aloadN Xj.here hx rfl (hb hby d11_25) rfl rfl k) ?_
    refine Go.st (S' := Tj.setTop (mkF m 27 #[sR a1, sI 5, sJ q, sS, sI c1] [(.int (1 : Int32)), (.ref a1)])) (fun _ k => XS.iconst Xj.here hx rfl (hb hby d11_26) k) ?_
    refine Go.st (S' := Tj.setTop (mkF m 28 #[sR a1, sI 5, sJ q, sS, sI c1] [(.long x1)])) (own_ldJ Xj hx hZ ej Vj0 ⟨by decide, by decide⟩ rfl (g := (mkF m 27 #[sR a1, sI 5, sJ q, sS, sI c1] [(.int (1 : Int32)), (.ref a1)])) rfl rfl (hb hby d11_27)) ?_
    refine Go.st (S' := Tj.setTop (mkF m 29 #[sR a1, sI 5, sJ q, sS, sI c1] [(.long q), (.long x1)])) (fun _ k => XS.lloadN Xj.here hx rfl (hb hby d11_28) rfl k) ?_
    obtain ⟨_, T105, L105, X105, ⟨rfl, Nq105, eq105⟩, st105⟩ := own_callS Xj hx hZ hown (ww hw 9 rfl) (ww hw 10 rfl) (ww hw 7 rfl) (ww hw 11 rfl) (by decide) ej (rmUlt l Z a0 hw [] w_BITS_32 w_BITS_64 hS x1 q hj Oj) 0 (by decide) (by decide) (by decide) (by decide) (g := (mkF m 29 #[sR a1, sI 5, sJ q, sS, sI c1] [(.long q), (.long x1)])) rfl (by rw [hml]; rfl) [(.long x1), (.long q)] [] rfl (lenOf pd_212497 rfl) rfl (by show 2 * 0 + _ ≤ _; exact Nat.le_of_eq rfl) (hb hby d11_29)
    have N105 := Fr.app Nj Nq105
    refine Go.st (S' := T105.setTop (mkF m 32 #[sR a1, sI 5, sJ q, sS, sI c1] [(.int (bF x1 q))])) st105 ?_
    by_cases hc32 : (bF x1 q) = (0 : Int32)
    · refine Go.st (S' := T105.setTop (mkF m 38 #[sR a1, sI 5, sJ q, sS, sI c1] [])) (fun _ k => XS.ifYes X105.here hx rfl (pc0 := 32) (pc' := 38) rfl (hb hby d11_32) rfl ((if0 _ _).trans (teq hc32).1) (by decide) (by decide) k) ?_
      exact kb1  _ _ _ X105 eq105 N105 Oj  _ Vj0  hej0 (by rw [show [x0, x1] = [x0] ++ [x1] from rfl, own_cqs, if_pos hc32]; exact hcq1)
    · refine Go.st (S' := T105.setTop (mkF m 35 #[sR a1, sI 5, sJ q, sS, sI c1] [])) (fun _ k => XS.ifNo X105.here hx rfl (hb hby d11_32) rfl ((if0 _ _).trans (feq hc32).1) k) ?_
      refine Go.st (S' := T105.setTop (mkF m 38 #[sR a1, sI 5, sJ q, sS, sI (c1 + (1 : Int32))] [])) (fun _ k => XS.iinc X105.here hx rfl (hb hby d11_35) rfl (l' := #[sR a1, sI 5, sJ q, sS, sI (c1 + (1 : Int32))]) rfl k) ?_
      exact kb1  _ _ _ X105 eq105 N105 Oj  _ Vj0  hej0 (by rw [show [x0, x1] = [x0] ++ [x1] from rfl, own_cqs, if_neg hc32]; rw [hcq1])
  refine Go.st (S' := T0.setTop (mkF m 7 #[sR a1, sI 5, sJ q, sS, sI 0] [])) (fun _ k => XS.ifNo X0.here hx rfl (hb hby d11_4) rfl ((if0 _ _).trans (tlt (by decide)).2.2.2) k) ?_
  refine Go.st (S' := T0.setTop (mkF m 8 #[sR a1, sI 5, sJ q, sS, sI 0] [(.ref a1)])) (fun _ k => XS.aloadN X0.here hx rfl (hb hby d11_7) rfl rfl k) ?_
  refine Go.st (S' := T0.setTop (mkF m 9 #[sR a1, sI 5, sJ q, sS, sI 0] [(.int (0 : Int32)), (.ref a1)])) (fun _ k => XS.iconst X0.here hx rfl (hb hby d11_8) k) ?_
  refine Go.st (S' := T0.setTop (mkF m 10 #[sR a1, sI 5, sJ q, sS, sI 0] [(.long x0)])) (own_ldJ X0 hx hZ e0 VA ⟨by decide, by decide⟩ rfl (g := (mkF m 9 #[sR a1, sI 5, sJ q, sS, sI 0] [(.int (0 : Int32)), (.ref a1)])) rfl rfl (hb hby d11_9)) ?_
  refine Go.st (S' := T0.setTop (mkF m 11 #[sR a1, sI 5, sJ q, sS, sI 0] [(.long q), (.long x0)])) (fun _ k => XS.lloadN X0.here hx rfl (hb hby d11_10) rfl k) ?_
  obtain ⟨_, T107, L107, X107, ⟨rfl, Nq107, eq107⟩, st107⟩ := own_callS X0 hx hZ hown (ww hw 9 rfl) (ww hw 10 rfl) (ww hw 7 rfl) (ww hw 11 rfl) (by decide) e0 (rmUlt l Z a0 hw [] w_BITS_32 w_BITS_64 hS x0 q h0 O0) 0 (by decide) (by decide) (by decide) (by decide) (g := (mkF m 11 #[sR a1, sI 5, sJ q, sS, sI 0] [(.long q), (.long x0)])) rfl (by rw [hml]; rfl) [(.long x0), (.long q)] [] rfl (lenOf pd_212497 rfl) rfl (by show 2 * 0 + _ ≤ _; exact Nat.le_of_eq rfl) (hb hby d11_11)
  have N107 := Fr.app N0 Nq107
  refine Go.st (S' := T107.setTop (mkF m 14 #[sR a1, sI 5, sJ q, sS, sI 0] [(.int (bF x0 q))])) st107 ?_
  by_cases hc14 : (bF x0 q) = (0 : Int32)
  · refine Go.st (S' := T107.setTop (mkF m 20 #[sR a1, sI 5, sJ q, sS, sI 0] [])) (fun _ k => XS.ifYes X107.here hx rfl (pc0 := 14) (pc' := 20) rfl (hb hby d11_14) rfl ((if0 _ _).trans (teq hc14).1) (by decide) (by decide) k) ?_
    exact kb0  _ _ _ X107 eq107 N107 O0  _ VA  rfl (by rw [show [x0] = [] ++ [x0] from rfl, own_cqs, if_pos hc14]; rfl)
  · refine Go.st (S' := T107.setTop (mkF m 17 #[sR a1, sI 5, sJ q, sS, sI 0] [])) (fun _ k => XS.ifNo X107.here hx rfl (hb hby d11_14) rfl ((if0 _ _).trans (feq hc14).1) k) ?_
    refine Go.st (S' := T107.setTop (mkF m 20 #[sR a1, sI 5, sJ q, sS, sI ((0 : Int32) + (1 : Int32))] [])) (fun _ k => XS.iinc X107.here hx rfl (hb hby d11_17) rfl (l' := #[sR a1, sI 5, sJ q, sS, sI ((0 : Int32) + (1 : Int32))]) rfl k) ?_
    exact kb0  _ _ _ X107 eq107 N107 O0  _ VA  rfl (by rw [show [x0] = [] ++ [x0] from rfl, own_cqs, if_neg hc14]; rfl)
theorem d11_97 : decode method_5_code 97 = .ok (.aload_n 0, 1) := by decide +kernel
theorem d11_98 : decode method_5_code 98 = .ok (.iconst 5, 1) := by decide +kernel
theorem d11_99 : decode method_5_code 99 = .ok (.laload, 1) := by decide +kernel
theorem d11_100 : decode method_5_code 100 = .ok (.lload_n 2, 1) := by decide +kernel
theorem d11_101 : decode method_5_code 101 = .ok (.invokestatic 45, 3) := by decide +kernel
theorem d11_104 : decode method_5_code 104 = .ok (.ifCond .eq 6, 3) := by decide +kernel
theorem d11_107 : decode method_5_code 107 = .ok (.iinc 4 1, 3) := by decide +kernel
theorem ef_rmBl6 (m : MethodId) (x0 : Addr) (x1 : Int32) (x2 : Int64) : entryFrame m #[(.ref x0), (.int x1), (.long x2)] 5 = mkF m 0 #[sR x0, sI x1, sJ x2, sS, sU] [] := by first | (simp [entryFrame, mkF, argsToLocals, Value.category]; done) | rfl
set_option maxRecDepth 65536 in
set_option maxHeartbeats 400000000 in
theorem rmBl6 (l : Launch) (Z : State) (a0 : Array Value) (hw : ∀ d ∈ tables_1, d.before a0 Z = true) (ws : List Jvm.Cond) (w_BITS_32 : Addr) (w_BITS_64 : Addr) (hS : SF Z w_BITS_32 w_BITS_64) (a1 : Addr) (q : Int64) (k1 : ClassId) (x0 : Int64) (x1 : Int64) (x2 : Int64) (x3 : Int64) (x4 : Int64) (x5 : Int64) (h0 : Heap) (O0 : Ext Z.heap h0) (VA : Arv Z h0 a1 k1 .long (6 : Int32) [(.long x0), (.long x1), (.long x2), (.long x3), (.long x4), (.long x5)] (.long (0 : Int64))) :
    Con l Z h0 (⟨"com/example/lenkki/lenkki/PositionIndexFirstAtOrAfterPinLaw", "below", "([JIJ)I"⟩ : MethodName) method_5_code 5 (some .int) ws ({ frames := 1, cells := 0, slots := 0, locals := 15 } : Room) #[(.ref a1), (.int (6 : Int32)), (.long q)] (fun v h L => v = some (.int (Int32.ofNat (cq [x0, x1, x2, x3, x4, x5] q))) ∧ Fr Z.heap.size L ∧ h = h0) := by
  obtain ⟨S_BITS_32, E_BITS_32, F_BITS_32_bits, S_BITS_64, E_BITS_64, F_BITS_64_bits⟩ := id hS
  refine own_con (plainFor_of_name pn_372981) ?_
  intro p e s m below meth c T0 X0 hx hby hml hown hnm hret hlk hZ e0
  have hown : s.vm.findClass "com/example/lenkki/lenkki/PositionIndexFirstAtOrAfterPinLaw" = some m.cls := hown
  have N0 := Fr.nil Z.heap.size
  refine Go.st (S' := T0.setTop (mkF m 0 #[sR a1, sI 6, sJ q, sS, sU] [])) (fun _ k => castTop (ef_rmBl6 m a1 (6 : Int32) q) k) ?_
  refine Go.st (S' := T0.setTop (mkF m 1 #[sR a1, sI 6, sJ q, sS, sU] [(.int (0 : Int32))])) (fun _ k => XS.iconst X0.here hx rfl (hb hby d11_0) k) ?_
  refine Go.st (S' := T0.setTop (mkF m 3 #[sR a1, sI 6, sJ q, sS, sI 0] [])) (fun _ k => XS.istore X0.here hx rfl (hb hby d11_1) rfl (l' := #[sR a1, sI 6, sJ q, sS, sI 0]) rfl k) ?_
  refine Go.st (S' := T0.setTop (mkF m 4 #[sR a1, sI 6, sJ q, sS, sI 0] [(.int (6 : Int32))])) (fun _ k => XS.iloadN X0.here hx rfl (hb hby d11_3) rfl k) ?_
  have kb0 : ∀ (Tj : State) (lj : List Loc) (hj : Heap) (Xj : Stand p l e ({ frames := 1, cells := 0, slots := 0, locals := 15 } : Room) s m #[(.ref a1), (.int (6 : Int32)), (.long q)] below meth c Tj lj 0 0) (ej : Tj.heap = hj) (Nj : Fr Z.heap.size lj) (Oj : Ext Z.heap hj) (c1 : Int32) (Vj0 : Arv Z hj a1 k1 .long (6 : Int32) [(.long x0), (.long x1), (.long x2), (.long x3), (.long x4), (.long x5)] (.long (0 : Int64))) (hej0 : hj = h0) (hcq1 : c1 = Int32.ofNat (cq [x0] q)), Go p e below (Ret s (fun v h L => v = some (.int (Int32.ofNat (cq [x0, x1, x2, x3, x4, x5] q))) ∧ Fr Z.heap.size L ∧ h = h0) ({ frames := 1, cells := 0, slots := 0, locals := 15 } : Room).cells ({ frames := 1, cells := 0, slots := 0, locals := 15 } : Room).slots) (Tj.setTop (mkF m 20 #[sR a1, sI 6, sJ q, sS, sI c1] [])) := by
    intro Tj lj  hj Xj ej Nj Oj  c1 Vj0 hej0 hcq1
    refine Go.st (S' := Tj.setTop (mkF m 21 #[sR a1, sI 6, sJ q, sS, sI c1] [(.int (6 : Int32))])) (fun _ k => XS.iloadN Xj.here hx rfl (hb hby d11_20) rfl k) ?_
    have kb1 : ∀ (Tj : State) (lj : List Loc) (hj : Heap) (Xj : Stand p l e ({ frames := 1, cells := 0, slots := 0, locals := 15 } : Room) s m #[(.ref a1), (.int (6 : Int32)), (.long q)] below meth c Tj lj 0 0) (ej : Tj.heap = hj) (Nj : Fr Z.heap.size lj) (Oj : Ext Z.heap hj) (c2 : Int32) (Vj1 : Arv Z hj a1 k1 .long (6 : Int32) [(.long x0), (.long x1), (.long x2), (.long x3), (.long x4), (.long x5)] (.long (0 : Int64))) (hej1 : hj = h0) (hcq2 : c2 = Int32.ofNat (cq [x0, x1] q)), Go p e below (Ret s (fun v h L => v = some (.int (Int32.ofNat (cq [x0, x1, x2, x3, x4, x5] q))) ∧ Fr Z.heap.size L ∧ h = h0) ({ frames := 1, cells := 0, slots := 0, locals := 15 } : Room).cells ({ frames := 1, cells := 0, slots := 0, locals := 15 } : Room).slots) (Tj.setTop (mkF m 38 #[sR a1, sI 6, sJ q, sS, sI c2] [])) := by
      intro Tj lj  hj Xj ej Nj Oj  c2 Vj1 hej1 hcq2
      refine Go.st (S' := Tj.setTop (mkF m 39 #[sR a1, sI 6, sJ q, sS, sI c2] [(.int (6 : Int32))])) (fun _ k => XS.iloadN Xj.here hx rfl (hb hby d11_38) rfl k) ?_
      have kb2 : ∀ (Tj : State) (lj : List Loc) (hj : Heap) (Xj : Stand p l e ({ frames := 1, cells := 0, slots := 0, locals := 15 } : Room) s m #[(.ref a1), (.int (6 : Int32)), (.long q)] below meth c Tj lj 0 0) (ej : Tj.heap = hj) (Nj : Fr Z.heap.size lj) (Oj : Ext Z.heap hj) (c3 : Int32) (Vj2 : Arv Z hj a1 k1 .long (6 : Int32) [(.long x0), (.long x1), (.long x2), (.long x3), (.long x4), (.long x5)] (.long (0 : Int64))) (hej2 : hj = h0) (hcq3 : c3 = Int32.ofNat (cq [x0, x1, x2] q)), Go p e below (Ret s (fun v h L => v = some (.int (Int32.ofNat (cq [x0, x1, x2, x3, x4, x5] q))) ∧ Fr Z.heap.size L ∧ h = h0) ({ frames := 1, cells := 0, slots := 0, locals := 15 } : Room).cells ({ frames := 1, cells := 0, slots := 0, locals := 15 } : Room).slots) (Tj.setTop (mkF m 56 #[sR a1, sI 6, sJ q, sS, sI c3] [])) := by
        intro Tj lj  hj Xj ej Nj Oj  c3 Vj2 hej2 hcq3
        refine Go.st (S' := Tj.setTop (mkF m 57 #[sR a1, sI 6, sJ q, sS, sI c3] [(.int (6 : Int32))])) (fun _ k => XS.iloadN Xj.here hx rfl (hb hby d11_56) rfl k) ?_
        have kb3 : ∀ (Tj : State) (lj : List Loc) (hj : Heap) (Xj : Stand p l e ({ frames := 1, cells := 0, slots := 0, locals := 15 } : Room) s m #[(.ref a1), (.int (6 : Int32)), (.long q)] below meth c Tj lj 0 0) (ej : Tj.heap = hj) (Nj : Fr Z.heap.size lj) (Oj : Ext Z.heap hj) (c4 : Int32) (Vj3 : Arv Z hj a1 k1 .long (6 : Int32) [(.long x0), (.long x1), (.long x2), (.long x3), (.long x4), (.long x5)] (.long (0 : Int64))) (hej3 : hj = h0) (hcq4 : c4 = Int32.ofNat (cq [x0, x1, x2, x3] q)), Go p e below (Ret s (fun v h L => v = some (.int (Int32.ofNat (cq [x0, x1, x2, x3, x4, x5] q))) ∧ Fr Z.heap.size L ∧ h = h0) ({ frames := 1, cells := 0, slots := 0, locals := 15 } : Room).cells ({ frames := 1, cells := 0, slots := 0, locals := 15 } : Room).slots) (Tj.setTop (mkF m 74 #[sR a1, sI 6, sJ q, sS, sI c4] [])) := by
          intro Tj lj  hj Xj ej Nj Oj  c4 Vj3 hej3 hcq4
          refine Go.st (S' := Tj.setTop (mkF m 75 #[sR a1, sI 6, sJ q, sS, sI c4] [(.int (6 : Int32))])) (fun _ k => XS.iloadN Xj.here hx rfl (hb hby d11_74) rfl k) ?_
          have kb4 : ∀ (Tj : State) (lj : List Loc) (hj : Heap) (Xj : Stand p l e ({ frames := 1, cells := 0, slots := 0, locals := 15 } : Room) s m #[(.ref a1), (.int (6 : Int32)), (.long q)] below meth c Tj lj 0 0) (ej : Tj.heap = hj) (Nj : Fr Z.heap.size lj) (Oj : Ext Z.heap hj) (c5 : Int32) (Vj4 : Arv Z hj a1 k1 .long (6 : Int32) [(.long x0), (.long x1), (.long x2), (.long x3), (.long x4), (.long x5)] (.long (0 : Int64))) (hej4 : hj = h0) (hcq5 : c5 = Int32.ofNat (cq [x0, x1, x2, x3, x4] q)), Go p e below (Ret s (fun v h L => v = some (.int (Int32.ofNat (cq [x0, x1, x2, x3, x4, x5] q))) ∧ Fr Z.heap.size L ∧ h = h0) ({ frames := 1, cells := 0, slots := 0, locals := 15 } : Room).cells ({ frames := 1, cells := 0, slots := 0, locals := 15 } : Room).slots) (Tj.setTop (mkF m 92 #[sR a1, sI 6, sJ q, sS, sI c5] [])) := by
            intro Tj lj  hj Xj ej Nj Oj  c5 Vj4 hej4 hcq5
            refine Go.st (S' := Tj.setTop (mkF m 93 #[sR a1, sI 6, sJ q, sS, sI c5] [(.int (6 : Int32))])) (fun _ k => XS.iloadN Xj.here hx rfl (hb hby d11_92) rfl k) ?_
            have kb5 : ∀ (Tj : State) (lj : List Loc) (hj : Heap) (Xj : Stand p l e ({ frames := 1, cells := 0, slots := 0, locals := 15 } : Room) s m #[(.ref a1), (.int (6 : Int32)), (.long q)] below meth c Tj lj 0 0) (ej : Tj.heap = hj) (Nj : Fr Z.heap.size lj) (Oj : Ext Z.heap hj) (c6 : Int32) (Vj5 : Arv Z hj a1 k1 .long (6 : Int32) [(.long x0), (.long x1), (.long x2), (.long x3), (.long x4), (.long x5)] (.long (0 : Int64))) (hej5 : hj = h0) (hcq6 : c6 = Int32.ofNat (cq [x0, x1, x2, x3, x4, x5] q)), Go p e below (Ret s (fun v h L => v = some (.int (Int32.ofNat (cq [x0, x1, x2, x3, x4, x5] q))) ∧ Fr Z.heap.size L ∧ h = h0) ({ frames := 1, cells := 0, slots := 0, locals := 15 } : Room).cells ({ frames := 1, cells := 0, slots := 0, locals := 15 } : Room).slots) (Tj.setTop (mkF m 110 #[sR a1, sI 6, sJ q, sS, sI c6] [])) := by
              intro Tj lj  hj Xj ej Nj Oj  c6 Vj5 hej5 hcq6
              refine Go.st (S' := Tj.setTop (mkF m 112 #[sR a1, sI 6, sJ q, sS, sI c6] [(.int c6)])) (fun _ k => XS.iload Xj.here hx rfl (hb hby d11_110) rfl k) ?_
              exact own_retI Xj hx hlk hret (hb hby d11_112) ej ⟨by rw [hcq6], Nj, hej5⟩ (by decide) (by decide)
            refine Go.st (S' := Tj.setTop (mkF m 94 #[sR a1, sI 6, sJ q, sS, sI c5] [(.int (5 : Int32)), (.int (6 : Int32))])) (fun _ k => XS.iconst Xj.here hx rfl (hb hby d11_93) k) ?_
            refine Go.st (S' := Tj.setTop (mkF m 97 #[sR a1, sI 6, sJ q, sS, sI c5] [])) (fun _ k => XS.icmpNo Xj.here hx rfl (hb hby d11_94) rfl (tlt (by decide)).2.2.2 k) ?_
            refine Go.st (S' := Tj.setTop (mkF m 98 #[sR a1, sI 6, sJ q, sS, sI c5] [(.ref a1)])) (fun _ k => XS.aloadN Xj.here hx rfl (hb hby d11_97) rfl rfl k) ?_
            refine Go.st (S' := Tj.setTop (mkF m 99 #[sR a1, sI 6, sJ q, sS, sI c5] [(.int (5 : Int32)), (.ref a1)])) (fun _ k => XS.iconst Xj.here hx rfl (hb hby d11_98) k) ?_
            refine Go.st (S' := Tj.setTop (mkF m 100 #[sR a1, sI 6, sJ q, sS, sI c5] [(.long x5)])) (own_ldJ Xj hx hZ ej Vj4 ⟨by decide, by decide⟩ rfl (g := (mkF m 99 #[sR a1, sI 6, sJ q, sS, sI c5] [(.int (5 : Int32)), (.ref a1)])) rfl rfl (hb hby d11_99)) ?_
            refine Go.st (S' := Tj.setTop (mkF m 101 #[sR a1, sI 6, sJ q, sS, sI c5] [(.long q), (.long x5)])) (fun _ k => XS.lloadN Xj.here hx rfl (hb hby d11_100) rfl k) ?_
            obtain ⟨_, T109, L109, X109, ⟨rfl, Nq109, eq109⟩, st109⟩ := own_callS Xj hx hZ hown (ww hw 9 rfl) (ww hw 10 rfl) (ww hw 7 rfl) (ww hw 11 rfl) (by decide) ej (rmUlt l Z a0 hw [] w_BITS_32 w_BITS_64 hS x5 q hj Oj) 0 (by decide) (by decide) (by decide) (by decide) (g := (mkF m 101 #[sR a1, sI 6, sJ q, sS, sI c5] [(.long q), (.long x5)])) rfl (by rw [hml]; rfl) [(.long x5), (.long q)] [] rfl (lenOf pd_212497 rfl) rfl (by show 2 * 0 + _ ≤ _; exact Nat.le_of_eq rfl) (hb hby d11_101)
            have N109 := Fr.app Nj Nq109
            refine Go.st (S' := T109.setTop (mkF m 104 #[sR a1, sI 6, sJ q, sS, sI c5] [(.int (bF x5 q))])) st109 ?_
            by_cases hc104 : (bF x5 q) = (0 : Int32)
            · refine Go.st (S' := T109.setTop (mkF m 110 #[sR a1, sI 6, sJ q, sS, sI c5] [])) (fun _ k => XS.ifYes X109.here hx rfl (pc0 := 104) (pc' := 110) rfl (hb hby d11_104) rfl ((if0 _ _).trans (teq hc104).1) (by decide) (by decide) k) ?_
              exact kb5  _ _ _ X109 eq109 N109 Oj  _ Vj4  hej4 (by rw [show [x0, x1, x2, x3, x4, x5] = [x0, x1, x2, x3, x4] ++ [x5] from rfl, own_cqs, if_pos hc104]; exact hcq5)
            · refine Go.st (S' := T109.setTop (mkF m 107 #[sR a1, sI 6, sJ q, sS, sI c5] [])) (fun _ k => XS.ifNo X109.here hx rfl (hb hby d11_104) rfl ((if0 _ _).trans (feq hc104).1) k) ?_
              refine Go.st (S' := T109.setTop (mkF m 110 #[sR a1, sI 6, sJ q, sS, sI (c5 + (1 : Int32))] [])) (fun _ k => XS.iinc X109.here hx rfl (hb hby d11_107) rfl (l' := #[sR a1, sI 6, sJ q, sS, sI (c5 + (1 : Int32))]) rfl k) ?_
              exact kb5  _ _ _ X109 eq109 N109 Oj  _ Vj4  hej4 (by rw [show [x0, x1, x2, x3, x4, x5] = [x0, x1, x2, x3, x4] ++ [x5] from rfl, own_cqs, if_neg hc104]; rw [hcq5])
          refine Go.st (S' := Tj.setTop (mkF m 76 #[sR a1, sI 6, sJ q, sS, sI c4] [(.int (4 : Int32)), (.int (6 : Int32))])) (fun _ k => XS.iconst Xj.here hx rfl (hb hby d11_75) k) ?_
          refine Go.st (S' := Tj.setTop (mkF m 79 #[sR a1, sI 6, sJ q, sS, sI c4] [])) (fun _ k => XS.icmpNo Xj.here hx rfl (hb hby d11_76) rfl (tlt (by decide)).2.2.2 k) ?_
          refine Go.st (S' := Tj.setTop (mkF m 80 #[sR a1, sI 6, sJ q, sS, sI c4] [(.ref a1)])) (fun _ k => XS.aloadN Xj.here hx rfl (hb hby d11_79) rfl rfl k) ?_
          refine Go.st (S' := Tj.setTop (mkF m 81 #[sR a1, sI 6, sJ q, sS, sI c4] [(.int (4 : Int32)), (.ref a1)])) (fun _ k => XS.iconst Xj.here hx rfl (hb hby d11_80) k) ?_
          refine Go.st (S' := Tj.setTop (mkF m 82 #[sR a1, sI 6, sJ q, sS, sI c4] [(.long x4)])) (own_ldJ Xj hx hZ ej Vj3 ⟨by decide, by decide⟩ rfl (g := (mkF m 81 #[sR a1, sI 6, sJ q, sS, sI c4] [(.int (4 : Int32)), (.ref a1)])) rfl rfl (hb hby d11_81)) ?_
          refine Go.st (S' := Tj.setTop (mkF m 83 #[sR a1, sI 6, sJ q, sS, sI c4] [(.long q), (.long x4)])) (fun _ k => XS.lloadN Xj.here hx rfl (hb hby d11_82) rfl k) ?_
          obtain ⟨_, T111, L111, X111, ⟨rfl, Nq111, eq111⟩, st111⟩ := own_callS Xj hx hZ hown (ww hw 9 rfl) (ww hw 10 rfl) (ww hw 7 rfl) (ww hw 11 rfl) (by decide) ej (rmUlt l Z a0 hw [] w_BITS_32 w_BITS_64 hS x4 q hj Oj) 0 (by decide) (by decide) (by decide) (by decide) (g := (mkF m 83 #[sR a1, sI 6, sJ q, sS, sI c4] [(.long q), (.long x4)])) rfl (by rw [hml]; rfl) [(.long x4), (.long q)] [] rfl (lenOf pd_212497 rfl) rfl (by show 2 * 0 + _ ≤ _; exact Nat.le_of_eq rfl) (hb hby d11_83)
          have N111 := Fr.app Nj Nq111
          refine Go.st (S' := T111.setTop (mkF m 86 #[sR a1, sI 6, sJ q, sS, sI c4] [(.int (bF x4 q))])) st111 ?_
          by_cases hc86 : (bF x4 q) = (0 : Int32)
          · refine Go.st (S' := T111.setTop (mkF m 92 #[sR a1, sI 6, sJ q, sS, sI c4] [])) (fun _ k => XS.ifYes X111.here hx rfl (pc0 := 86) (pc' := 92) rfl (hb hby d11_86) rfl ((if0 _ _).trans (teq hc86).1) (by decide) (by decide) k) ?_
            exact kb4  _ _ _ X111 eq111 N111 Oj  _ Vj3  hej3 (by rw [show [x0, x1, x2, x3, x4] = [x0, x1, x2, x3] ++ [x4] from rfl, own_cqs, if_pos hc86]; exact hcq4)
          · refine Go.st (S' := T111.setTop (mkF m 89 #[sR a1, sI 6, sJ q, sS, sI c4] [])) (fun _ k => XS.ifNo X111.here hx rfl (hb hby d11_86) rfl ((if0 _ _).trans (feq hc86).1) k) ?_
            refine Go.st (S' := T111.setTop (mkF m 92 #[sR a1, sI 6, sJ q, sS, sI (c4 + (1 : Int32))] [])) (fun _ k => XS.iinc X111.here hx rfl (hb hby d11_89) rfl (l' := #[sR a1, sI 6, sJ q, sS, sI (c4 + (1 : Int32))]) rfl k) ?_
            exact kb4  _ _ _ X111 eq111 N111 Oj  _ Vj3  hej3 (by rw [show [x0, x1, x2, x3, x4] = [x0, x1, x2, x3] ++ [x4] from rfl, own_cqs, if_neg hc86]; rw [hcq4])
        refine Go.st (S' := Tj.setTop (mkF m 58 #[sR a1, sI 6, sJ q, sS, sI c3] [(.int (3 : Int32)), (.int (6 : Int32))])) (fun _ k => XS.iconst Xj.here hx rfl (hb hby d11_57) k) ?_
        refine Go.st (S' := Tj.setTop (mkF m 61 #[sR a1, sI 6, sJ q, sS, sI c3] [])) (fun _ k => XS.icmpNo Xj.here hx rfl (hb hby d11_58) rfl (tlt (by decide)).2.2.2 k) ?_
        refine Go.st (S' := Tj.setTop (mkF m 62 #[sR a1, sI 6, sJ q, sS, sI c3] [(.ref a1)])) (fun _ k => XS.aloadN Xj.here hx rfl (hb hby d11_61) rfl rfl k) ?_
        refine Go.st (S' := Tj.setTop (mkF m 63 #[sR a1, sI 6, sJ q, sS, sI c3] [(.int (3 : Int32)), (.ref a1)])) (fun _ k => XS.iconst Xj.here hx rfl (hb hby d11_62) k) ?_
        refine Go.st (S' := Tj.setTop (mkF m 64 #[sR a1, sI 6, sJ q, sS, sI c3] [(.long x3)])) (own_ldJ Xj hx hZ ej Vj2 ⟨by decide, by decide⟩ rfl (g := (mkF m 63 #[sR a1, sI 6, sJ q, sS, sI c3] [(.int (3 : Int32)), (.ref a1)])) rfl rfl (hb hby d11_63)) ?_
        refine Go.st (S' := Tj.setTop (mkF m 65 #[sR a1, sI 6, sJ q, sS, sI c3] [(.long q), (.long x3)])) (fun _ k => XS.lloadN Xj.here hx rfl (hb hby d11_64) rfl k) ?_
        obtain ⟨_, T113, L113, X113, ⟨rfl, Nq113, eq113⟩, st113⟩ := own_callS Xj hx hZ hown (ww hw 9 rfl) (ww hw 10 rfl) (ww hw 7 rfl) (ww hw 11 rfl) (by decide) ej (rmUlt l Z a0 hw [] w_BITS_32 w_BITS_64 hS x3 q hj Oj) 0 (by decide) (by decide) (by decide) (by decide) (g := (mkF m 65 #[sR a1, sI 6, sJ q, sS, sI c3] [(.long q), (.long x3)])) rfl (by rw [hml]; rfl) [(.long x3), (.long q)] [] rfl (lenOf pd_212497 rfl) rfl (by show 2 * 0 + _ ≤ _; exact Nat.le_of_eq rfl) (hb hby d11_65)
        have N113 := Fr.app Nj Nq113
        refine Go.st (S' := T113.setTop (mkF m 68 #[sR a1, sI 6, sJ q, sS, sI c3] [(.int (bF x3 q))])) st113 ?_
        by_cases hc68 : (bF x3 q) = (0 : Int32)
        · refine Go.st (S' := T113.setTop (mkF m 74 #[sR a1, sI 6, sJ q, sS, sI c3] [])) (fun _ k => XS.ifYes X113.here hx rfl (pc0 := 68) (pc' := 74) rfl (hb hby d11_68) rfl ((if0 _ _).trans (teq hc68).1) (by decide) (by decide) k) ?_
          exact kb3  _ _ _ X113 eq113 N113 Oj  _ Vj2  hej2 (by rw [show [x0, x1, x2, x3] = [x0, x1, x2] ++ [x3] from rfl, own_cqs, if_pos hc68]; exact hcq3)
        · refine Go.st (S' := T113.setTop (mkF m 71 #[sR a1, sI 6, sJ q, sS, sI c3] [])) (fun _ k => XS.ifNo X113.here hx rfl (hb hby d11_68) rfl ((if0 _ _).trans (feq hc68).1) k) ?_
          refine Go.st (S' := T113.setTop (mkF m 74 #[sR a1, sI 6, sJ q, sS, sI (c3 + (1 : Int32))] [])) (fun _ k => XS.iinc X113.here hx rfl (hb hby d11_71) rfl (l' := #[sR a1, sI 6, sJ q, sS, sI (c3 + (1 : Int32))]) rfl k) ?_
          exact kb3  _ _ _ X113 eq113 N113 Oj  _ Vj2  hej2 (by rw [show [x0, x1, x2, x3] = [x0, x1, x2] ++ [x3] from rfl, own_cqs, if_neg hc68]; rw [hcq3])
      refine Go.st (S' := Tj.setTop (mkF m 40 #[sR a1, sI 6, sJ q, sS, sI c2] [(.int (2 : Int32)), (.int (6 : Int32))])) (fun _ k => XS.iconst Xj.here hx rfl (hb hby d11_39) k) ?_
      refine Go.st (S' := Tj.setTop (mkF m 43 #[sR a1, sI 6, sJ q, sS, sI c2] [])) (fun _ k => XS.icmpNo Xj.here hx rfl (hb hby d11_40) rfl (tlt (by decide)).2.2.2 k) ?_
      refine Go.st (S' := Tj.setTop (mkF m 44 #[sR a1, sI 6, sJ q, sS, sI c2] [(.ref a1)])) (fun _ k => XS.aloadN Xj.here hx rfl (hb hby d11_43) rfl rfl k) ?_
      refine Go.st (S' := Tj.setTop (mkF m 45 #[sR a1, sI 6, sJ q, sS, sI c2] [(.int (2 : Int32)), (.ref a1)])) (fun _ k => XS.iconst Xj.here hx rfl (hb hby d11_44) k) ?_
      refine Go.st (S' := Tj.setTop (mkF m 46 #[sR a1, sI 6, sJ q, sS, sI c2] [(.long x2)])) (own_ldJ Xj hx hZ ej Vj1 ⟨by decide, by decide⟩ rfl (g := (mkF m 45 #[sR a1, sI 6, sJ q, sS, sI c2] [(.int (2 : Int32)), (.ref a1)])) rfl rfl (hb hby d11_45)) ?_
      refine Go.st (S' := Tj.setTop (mkF m 47 #[sR a1, sI 6, sJ q, sS, sI c2] [(.long q), (.long x2)])) (fun _ k => XS.lloadN Xj.here hx rfl (hb hby d11_46) rfl k) ?_
      obtain ⟨_, T115, L115, X115, ⟨rfl, Nq115, eq115⟩, st115⟩ := own_callS Xj hx hZ hown (ww hw 9 rfl) (ww hw 10 rfl) (ww hw 7 rfl) (ww hw 11 rfl) (by decide) ej (rmUlt l Z a0 hw [] w_BITS_32 w_BITS_64 hS x2 q hj Oj) 0 (by decide) (by decide) (by decide) (by decide) (g := (mkF m 47 #[sR a1, sI 6, sJ q, sS, sI c2] [(.long q), (.long x2)])) rfl (by rw [hml]; rfl) [(.long x2), (.long q)] [] rfl (lenOf pd_212497 rfl) rfl (by show 2 * 0 + _ ≤ _; exact Nat.le_of_eq rfl) (hb hby d11_47)
      have N115 := Fr.app Nj Nq115
      refine Go.st (S' := T115.setTop (mkF m 50 #[sR a1, sI 6, sJ q, sS, sI c2] [(.int (bF x2 q))])) st115 ?_
      by_cases hc50 : (bF x2 q) = (0 : Int32)
      · refine Go.st (S' := T115.setTop (mkF m 56 #[sR a1, sI 6, sJ q, sS, sI c2] [])) (fun _ k => XS.ifYes X115.here hx rfl (pc0 := 50) (pc' := 56) rfl (hb hby d11_50) rfl ((if0 _ _).trans (teq hc50).1) (by decide) (by decide) k) ?_
        exact kb2  _ _ _ X115 eq115 N115 Oj  _ Vj1  hej1 (by rw [show [x0, x1, x2] = [x0, x1] ++ [x2] from rfl, own_cqs, if_pos hc50]; exact hcq2)
      · refine Go.st (S' := T115.setTop (mkF m 53 #[sR a1, sI 6, sJ q, sS, sI c2] [])) (fun _ k => XS.ifNo X115.here hx rfl (hb hby d11_50) rfl ((if0 _ _).trans (feq hc50).1) k) ?_
        refine Go.st (S' := T115.setTop (mkF m 56 #[sR a1, sI 6, sJ q, sS, sI (c2 + (1 : Int32))] [])) (fun _ k => XS.iinc X115.here hx rfl (hb hby d11_53) rfl (l' := #[sR a1, sI 6, sJ q, sS, sI (c2 + (1 : Int32))]) rfl k) ?_
        exact kb2  _ _ _ X115 eq115 N115 Oj  _ Vj1  hej1 (by rw [show [x0, x1, x2] = [x0, x1] ++ [x2] from rfl, own_cqs, if_neg hc50]; rw [hcq2])
    refine Go.st (S' := Tj.setTop (mkF m 22 #[sR a1, sI 6, sJ q, sS, sI c1] [(.int (1 : Int32)), (.int (6 : Int32))])) (fun _ k => XS.iconst Xj.here hx rfl (hb hby d11_21) k) ?_
    refine Go.st (S' := Tj.setTop (mkF m 25 #[sR a1, sI 6, sJ q, sS, sI c1] [])) (fun _ k => XS.icmpNo Xj.here hx rfl (hb hby d11_22) rfl (tlt (by decide)).2.2.2 k) ?_
    refine Go.st (S' := Tj.setTop (mkF m 26 #[sR a1, sI 6, sJ q, sS, sI c1] [(.ref a1)])) (fun _ k => XS.aloadN Xj.here hx rfl (hb hby d11_25) rfl rfl k) ?_
    refine Go.st (S' := Tj.setTop (mkF m 27 #[sR a1, sI 6, sJ q, sS, sI c1] [(.int (1 : Int32)), (.ref a1)])) (fun _ k => XS.iconst Xj.here hx rfl (hb hby d11_26) k) ?_
    refine Go.st (S' := Tj.setTop (mkF m 28 #[sR a1, sI 6, sJ q, sS, sI c1] [(.long x1)])) (own_ldJ Xj hx hZ ej Vj0 ⟨by decide, by decide⟩ rfl (g := (mkF m 27 #[sR a1, sI 6, sJ q, sS, sI c1] [(.int (1 : Int32)), (.ref a1)])) rfl rfl (hb hby d11_27)) ?_
    refine Go.st (S' := Tj.setTop (mkF m 29 #[sR a1, sI 6, sJ q, sS, sI c1] [(.long q), (.long x1)])) (fun _ k => XS.lloadN Xj.here hx rfl (hb hby d11_28) rfl k) ?_
    obtain ⟨_, T117, L117, X117, ⟨rfl, Nq117, eq117⟩, st117⟩ := own_callS Xj hx hZ hown (ww hw 9 rfl) (ww hw 10 rfl) (ww hw 7 rfl) (ww hw 11 rfl) (by decide) ej (rmUlt l Z a0 hw [] w_BITS_32 w_BITS_64 hS x1 q hj Oj) 0 (by decide) (by decide) (by decide) (by decide) (g := (mkF m 29 #[sR a1, sI 6, sJ q, sS, sI c1] [(.long q), (.long x1)])) rfl (by rw [hml]; rfl) [(.long x1), (.long q)] [] rfl (lenOf pd_212497 rfl) rfl (by show 2 * 0 + _ ≤ _; exact Nat.le_of_eq rfl) (hb hby d11_29)
    have N117 := Fr.app Nj Nq117
    refine Go.st (S' := T117.setTop (mkF m 32 #[sR a1, sI 6, sJ q, sS, sI c1] [(.int (bF x1 q))])) st117 ?_
    by_cases hc32 : (bF x1 q) = (0 : Int32)
    · refine Go.st (S' := T117.setTop (mkF m 38 #[sR a1, sI 6, sJ q, sS, sI c1] [])) (fun _ k => XS.ifYes X117.here hx rfl (pc0 := 32) (pc' := 38) rfl (hb hby d11_32) rfl ((if0 _ _).trans (teq hc32).1) (by decide) (by decide) k) ?_
      exact kb1  _ _ _ X117 eq117 N117 Oj  _ Vj0  hej0 (by rw [show [x0, x1] = [x0] ++ [x1] from rfl, own_cqs, if_pos hc32]; exact hcq1)
    · refine Go.st (S' := T117.setTop (mkF m 35 #[sR a1, sI 6, sJ q, sS, sI c1] [])) (fun _ k => XS.ifNo X117.here hx rfl (hb hby d11_32) rfl ((if0 _ _).trans (feq hc32).1) k) ?_
      refine Go.st (S' := T117.setTop (mkF m 38 #[sR a1, sI 6, sJ q, sS, sI (c1 + (1 : Int32))] [])) (fun _ k => XS.iinc X117.here hx rfl (hb hby d11_35) rfl (l' := #[sR a1, sI 6, sJ q, sS, sI (c1 + (1 : Int32))]) rfl k) ?_
      exact kb1  _ _ _ X117 eq117 N117 Oj  _ Vj0  hej0 (by rw [show [x0, x1] = [x0] ++ [x1] from rfl, own_cqs, if_neg hc32]; rw [hcq1])
  refine Go.st (S' := T0.setTop (mkF m 7 #[sR a1, sI 6, sJ q, sS, sI 0] [])) (fun _ k => XS.ifNo X0.here hx rfl (hb hby d11_4) rfl ((if0 _ _).trans (tlt (by decide)).2.2.2) k) ?_
  refine Go.st (S' := T0.setTop (mkF m 8 #[sR a1, sI 6, sJ q, sS, sI 0] [(.ref a1)])) (fun _ k => XS.aloadN X0.here hx rfl (hb hby d11_7) rfl rfl k) ?_
  refine Go.st (S' := T0.setTop (mkF m 9 #[sR a1, sI 6, sJ q, sS, sI 0] [(.int (0 : Int32)), (.ref a1)])) (fun _ k => XS.iconst X0.here hx rfl (hb hby d11_8) k) ?_
  refine Go.st (S' := T0.setTop (mkF m 10 #[sR a1, sI 6, sJ q, sS, sI 0] [(.long x0)])) (own_ldJ X0 hx hZ e0 VA ⟨by decide, by decide⟩ rfl (g := (mkF m 9 #[sR a1, sI 6, sJ q, sS, sI 0] [(.int (0 : Int32)), (.ref a1)])) rfl rfl (hb hby d11_9)) ?_
  refine Go.st (S' := T0.setTop (mkF m 11 #[sR a1, sI 6, sJ q, sS, sI 0] [(.long q), (.long x0)])) (fun _ k => XS.lloadN X0.here hx rfl (hb hby d11_10) rfl k) ?_
  obtain ⟨_, T119, L119, X119, ⟨rfl, Nq119, eq119⟩, st119⟩ := own_callS X0 hx hZ hown (ww hw 9 rfl) (ww hw 10 rfl) (ww hw 7 rfl) (ww hw 11 rfl) (by decide) e0 (rmUlt l Z a0 hw [] w_BITS_32 w_BITS_64 hS x0 q h0 O0) 0 (by decide) (by decide) (by decide) (by decide) (g := (mkF m 11 #[sR a1, sI 6, sJ q, sS, sI 0] [(.long q), (.long x0)])) rfl (by rw [hml]; rfl) [(.long x0), (.long q)] [] rfl (lenOf pd_212497 rfl) rfl (by show 2 * 0 + _ ≤ _; exact Nat.le_of_eq rfl) (hb hby d11_11)
  have N119 := Fr.app N0 Nq119
  refine Go.st (S' := T119.setTop (mkF m 14 #[sR a1, sI 6, sJ q, sS, sI 0] [(.int (bF x0 q))])) st119 ?_
  by_cases hc14 : (bF x0 q) = (0 : Int32)
  · refine Go.st (S' := T119.setTop (mkF m 20 #[sR a1, sI 6, sJ q, sS, sI 0] [])) (fun _ k => XS.ifYes X119.here hx rfl (pc0 := 14) (pc' := 20) rfl (hb hby d11_14) rfl ((if0 _ _).trans (teq hc14).1) (by decide) (by decide) k) ?_
    exact kb0  _ _ _ X119 eq119 N119 O0  _ VA  rfl (by rw [show [x0] = [] ++ [x0] from rfl, own_cqs, if_pos hc14]; rfl)
  · refine Go.st (S' := T119.setTop (mkF m 17 #[sR a1, sI 6, sJ q, sS, sI 0] [])) (fun _ k => XS.ifNo X119.here hx rfl (hb hby d11_14) rfl ((if0 _ _).trans (feq hc14).1) k) ?_
    refine Go.st (S' := T119.setTop (mkF m 20 #[sR a1, sI 6, sJ q, sS, sI ((0 : Int32) + (1 : Int32))] [])) (fun _ k => XS.iinc X119.here hx rfl (hb hby d11_17) rfl (l' := #[sR a1, sI 6, sJ q, sS, sI ((0 : Int32) + (1 : Int32))]) rfl k) ?_
    exact kb0  _ _ _ X119 eq119 N119 O0  _ VA  rfl (by rw [show [x0] = [] ++ [x0] from rfl, own_cqs, if_neg hc14]; rfl)
theorem own_n7 (x : Int32) : (∃ y, y = (x.toUInt32 >>> ((1 : Int32) &&& 31).toUInt32).toInt32 % (7 : Int32) ∧ (y = 0 ∨ y = 1 ∨ y = 2 ∨ y = 3 ∨ y = 4 ∨ y = 5 ∨ y = 6)) := by
  have e0 : 0 ≤ ((x.toUInt32 >>> ((1 : Int32) &&& 31).toUInt32).toInt32).toInt := by
    have h := BitVec.toInt_eq_toNat_cond ((x.toUInt32 >>> ((1 : Int32) &&& 31).toUInt32).toInt32).toBitVec
    have e : ((x.toUInt32 >>> ((1 : Int32) &&& 31).toUInt32).toInt32).toBitVec.toNat = x.toUInt32.toNat / 2 := by
      show (x.toUInt32 >>> ((1 : Int32) &&& 31).toUInt32).toNat = _
      rw [UInt32.toNat_shiftRight, Nat.shiftRight_eq_div_pow]; rfl
    have l := x.toUInt32.toNat_lt
    rw [e, if_pos (by omega)] at h
    exact Int.le_trans (Int.natCast_nonneg _) (Int.le_of_eq h.symm)
  generalize (x.toUInt32 >>> ((1 : Int32) &&& 31).toUInt32).toInt32 = z at *
  refine ⟨_, rfl, ?_⟩
  have e1 := Jvm.Kit.i32_rem_nonneg (x := z) (y := 7) e0
  have c7 : (7 : Int32).toInt = 7 := by decide
  rw [c7] at e1
  generalize z % (7 : Int32) = k at *
  have q : k.toInt = 0 ∨ k.toInt = 1 ∨ k.toInt = 2 ∨ k.toInt = 3 ∨ k.toInt = 4 ∨ k.toInt = 5 ∨ k.toInt = 6 := by omega
  rcases q with q | q | q | q | q | q | q
  · exact Or.inl (own_i32 q)
  · exact Or.inr (Or.inl (own_i32 q))
  · exact Or.inr (Or.inr (Or.inl (own_i32 q)))
  · exact Or.inr (Or.inr (Or.inr (Or.inl (own_i32 q))))
  · exact Or.inr (Or.inr (Or.inr (Or.inr (Or.inl (own_i32 q)))))
  · exact Or.inr (Or.inr (Or.inr (Or.inr (Or.inr (Or.inl (own_i32 q))))))
  · exact Or.inr (Or.inr (Or.inr (Or.inr (Or.inr (Or.inr (own_i32 q))))))
theorem own_li (q n : Int64) (k : Int32) (hk : n.toInt = k.toInt) (h0 : 0 < k.toInt) (h1 : k.toInt < 100) : ¬ ((q &&& 2147483647) % n).toInt32 < 0 ∧ ((q &&& 2147483647) % n).toInt32 < k := by
  have e1 := Jvm.Kit.i64_mask q 2147483647 (k := 31) (by decide) (by decide)
  have e2 : ((q &&& 2147483647) % n).toInt = (q &&& 2147483647).toInt % n.toInt := by
    rw [Int64.toInt_mod, Int.tmod_eq_emod_of_nonneg (by omega)]
  have e3 : 0 ≤ ((q &&& 2147483647) % n).toInt ∧ ((q &&& 2147483647) % n).toInt < k.toInt := by
    rw [e2, hk]
    exact ⟨Int.emod_nonneg _ (by omega), Int.emod_lt_of_pos _ h0⟩
  have e4 : ((q &&& 2147483647) % n).toInt32.toInt = ((q &&& 2147483647) % n).toInt := Jvm.Kit.i32_of_i64 (by omega) (by omega)
  exact own_bd (by omega) (by omega)
theorem own_n64 {n : Int32} (h : 0 < n.toInt) : n.toInt64 ≠ 0 := by
  intro q
  have e := congrArg Int64.toInt q
  rw [Int32.toInt_toInt64] at e
  have c0 : (0 : Int64).toInt = 0 := by decide
  omega
theorem own_BM {DD : Nat} {Wd : Int32} (hM : (DD = 2 ^ 64 ∧ Wd = 64) ∨ (DD = 2 ^ 32 ∧ Wd = 32)) : (∀ x : Int64, U x < DD → B (Wd - 1) x < 2) ∧ ∀ x : Int64, U x < DD → B (Wd - 2) x < 4 := by
  have d1 : (63 : Int32).toNatClampNeg = 63 := by decide
  have d2 : (62 : Int32).toNatClampNeg = 62 := by decide
  have d3 : (31 : Int32).toNatClampNeg = 31 := by decide
  have d4 : (30 : Int32).toNatClampNeg = 30 := by decide
  rcases hM with ⟨rfl, rfl⟩ | ⟨rfl, rfl⟩
  · refine ⟨fun x hx => ?_, fun x hx => ?_⟩
    · show U x / 2 ^ (63 : Int32).toNatClampNeg < 2
      rw [d1]; omega
    · show U x / 2 ^ (62 : Int32).toNatClampNeg < 4
      rw [d2]; omega
  · refine ⟨fun x hx => ?_, fun x hx => ?_⟩
    · show U x / 2 ^ (31 : Int32).toNatClampNeg < 2
      rw [d3]; omega
    · show U x / 2 ^ (30 : Int32).toNatClampNeg < 4
      rw [d4]; omega
theorem own_sf {DD : Nat} {Wd : Int32} (hM : (DD = 2 ^ 64 ∧ Wd = 64) ∨ (DD = 2 ^ 32 ∧ Wd = 32)) : ((Wd - 1) = 30 ∨ (Wd - 1) = 31 ∨ (Wd - 1) = 62 ∨ (Wd - 1) = 63) ∧ ((Wd - 2) = 30 ∨ (Wd - 2) = 31 ∨ (Wd - 2) = 62 ∨ (Wd - 2) = 63) := by
  rcases hM with ⟨-, rfl⟩ | ⟨-, rfl⟩ <;> decide
theorem own_D0 {DD : Nat} {Wd : Int32} (hM : (DD = 2 ^ 64 ∧ Wd = 64) ∨ (DD = 2 ^ 32 ∧ Wd = 32)) : 0 < DD := by
  rcases hM with ⟨rfl, -⟩ | ⟨rfl, -⟩ <;> decide
theorem own_posn {n : Int32} {k : Nat} (hn : n.toInt = k) (h : 0 < n) : 0 < n.toInt := by
  have c0 : (0 : Int32).toInt = 0 := by decide
  have := Int32.lt_iff_toInt_lt.mp h
  omega
theorem rmBl (l : Launch) (Z : State) (a0 : Array Value) (hw : ∀ d ∈ tables_1, d.before a0 Z = true) (ws : List Jvm.Cond) (w_BITS_32 : Addr) (w_BITS_64 : Addr) (hS : SF Z w_BITS_32 w_BITS_64) (a1 : Addr) (q : Int64) (k1 : ClassId) (n : Int32) (xs : List Int64) (hn : n.toInt = xs.length) (hn6 : xs.length ≤ 6) (h0 : Heap) (O0 : Ext Z.heap h0) (VA : Arv Z h0 a1 k1 .long n (xs.map Value.long) (.long (0 : Int64))) :
    Con l Z h0 (⟨"com/example/lenkki/lenkki/PositionIndexFirstAtOrAfterPinLaw", "below", "([JIJ)I"⟩ : MethodName) method_5_code 5 (some .int) ws ({ frames := 1, cells := 0, slots := 0, locals := 15 } : Room) #[(.ref a1), (.int n), (.long q)] (fun v h L => v = some (.int (Int32.ofNat (cq xs q))) ∧ Fr Z.heap.size L ∧ h = h0) := by
  match xs, hn6 with
  | [], _ =>
    obtain rfl : n = (0 : Int32) := own_i32 (k := 0) (by first | exact hn | simpa using hn)
    exact rmBl0 l Z a0 hw ws w_BITS_32 w_BITS_64 hS a1 q k1  h0 O0 VA
  | [x0], _ =>
    obtain rfl : n = (1 : Int32) := own_i32 (k := 1) (by first | exact hn | simpa using hn)
    exact rmBl1 l Z a0 hw ws w_BITS_32 w_BITS_64 hS a1 q k1 x0 h0 O0 VA
  | [x0, x1], _ =>
    obtain rfl : n = (2 : Int32) := own_i32 (k := 2) (by first | exact hn | simpa using hn)
    exact rmBl2 l Z a0 hw ws w_BITS_32 w_BITS_64 hS a1 q k1 x0 x1 h0 O0 VA
  | [x0, x1, x2], _ =>
    obtain rfl : n = (3 : Int32) := own_i32 (k := 3) (by first | exact hn | simpa using hn)
    exact rmBl3 l Z a0 hw ws w_BITS_32 w_BITS_64 hS a1 q k1 x0 x1 x2 h0 O0 VA
  | [x0, x1, x2, x3], _ =>
    obtain rfl : n = (4 : Int32) := own_i32 (k := 4) (by first | exact hn | simpa using hn)
    exact rmBl4 l Z a0 hw ws w_BITS_32 w_BITS_64 hS a1 q k1 x0 x1 x2 x3 h0 O0 VA
  | [x0, x1, x2, x3, x4], _ =>
    obtain rfl : n = (5 : Int32) := own_i32 (k := 5) (by first | exact hn | simpa using hn)
    exact rmBl5 l Z a0 hw ws w_BITS_32 w_BITS_64 hS a1 q k1 x0 x1 x2 x3 x4 h0 O0 VA
  | [x0, x1, x2, x3, x4, x5], _ =>
    obtain rfl : n = (6 : Int32) := own_i32 (k := 6) (by first | exact hn | simpa using hn)
    exact rmBl6 l Z a0 hw ws w_BITS_32 w_BITS_64 hS a1 q k1 x0 x1 x2 x3 x4 x5 h0 O0 VA
  | _ :: _ :: _ :: _ :: _ :: _ :: _ :: t, h => exact absurd h (by simp)
theorem pd_659015 : parseMethodDescriptor "([JII)V" = some ⟨[(.array .long), .int, .int], none⟩ := by decide +kernel
theorem pd_730585 : parseMethodDescriptor "([JLcom/example/lenkki/lenkki/RingWidth;)V" = some ⟨[(.array .long), (.object "com/example/lenkki/lenkki/RingWidth")], none⟩ := by decide +kernel
theorem pd_691989 : parseMethodDescriptor "(J)I" = some ⟨[.long], some .int⟩ := by decide +kernel
theorem pd_676163 : parseMethodDescriptor "([JIJ)I" = some ⟨[(.array .long), .int, .long], some .int⟩ := by decide +kernel
theorem ef_rm0 (m : MethodId) (x0 : Int64) (x1 : Int64) (x2 : Int64) (x3 : Int64) (x4 : Int64) (x5 : Int32) : entryFrame m #[(.long x0), (.long x1), (.long x2), (.long x3), (.long x4), (.int x5)] maxLocals = mkF m 0 #[sJ x0, sS, sJ x1, sS, sJ x2, sS, sJ x3, sS, sJ x4, sS, sI x5, sU, sU, sU, sU, sU, sU, sU, sU, sU, sU, sU, sU] [] := by first | (simp [entryFrame, mkF, argsToLocals, Value.category, maxLocals]; done) | rfl
/-- what a walk in this body knows of its frame -/
def CX0 (p : Program) (s : State) (m : MethodId) (meth : Method) (c : Code) (Z : State) : Prop := p.tables.exec = Jvm.exec ∧ c.code = code ∧ c.maxLocals = maxLocals ∧ s.vm.findClass "com/example/lenkki/lenkki/PositionIndexFirstAtOrAfterPinLaw" = some m.cls ∧ meth.name = "law" ∧ meth.sig.returnType = ret ∧ meth.locks = false ∧ Z.Warmed39 s.vm
set_option maxRecDepth 65536 in
set_option maxHeartbeats 400000000 in
theorem rE (l : Launch) (Z : State) (a0 : Array Value) (hw : ∀ d ∈ tables_1, d.before a0 Z = true) (w_BITS_32 : Addr) (w_BITS_64 : Addr) (hS : SF Z w_BITS_32 w_BITS_64) (q1 : Int64) (q2 : Int64) (q3 : Int64) (q4 : Int64) (q5 : Int64) (p6 : Int32) (p : Program) (e : Env) (s : State) (m : MethodId) (below : List Frame) (meth : Method) (c : Code) (hC : CX0 p s m meth c Z) (Tj : State) (lj : List Loc) (hj : Heap) (Xj : Stand p l e room_1 s m #[(.long q1), (.long q2), (.long q3), (.long q4), (.long q5), (.int p6)] below meth c Tj lj 4 20) (ej : Tj.heap = hj) (Nj : Fr Z.heap.size lj) (Oj : Ext Z.heap hj) (wi : Int32) (wd : Addr) (mu : Int64) (DD : Nat) (Wd mo n r bt sf nb : Int32) (N : Nat) (xs : List Int64) (sa pa : Addr) (kp : ClassId) (qv : Int64) (ix ba : Addr) (kb : ClassId) (Eix : Exa Z hj ix "com/example/lenkki/lenkki/PositionIndex") (Fp : Fld Z hj ix "com/example/lenkki/lenkki/PositionIndex" "positions" "[J" (.ref pa)) (Fs : Fld Z hj ix "com/example/lenkki/lenkki/PositionIndex" "shift" "I" (.int sf)) (Fb : Fld Z hj ix "com/example/lenkki/lenkki/PositionIndex" "bucketStarts" "[I" (.ref ba)) (Vpa : Arv Z hj pa kp .long n (xs.map Value.long) (.long (0 : Int64))) (Vba : Arv Z hj ba kb .int (nb + (1 : Int32)) (PL sf xs N N) (.int 0)) (hM : (DD = 2 ^ 64 ∧ Wd = 64) ∨ (DD = 2 ^ 32 ∧ Wd = 32)) (hmu : ∀ x : Int64, U (x &&& mu) < DD) (hn : n.toInt = xs.length) (hn6 : xs.length ≤ 6) (hz : (maxF (n * 2 / 3) 1) = 1 ∧ r = 31 ∨ (maxF (n * 2 / 3) 1) = 2 ∧ r = 30 ∨ (maxF (n * 2 / 3) 1) = 3 ∧ r = 30 ∨ (maxF (n * 2 / 3) 1) = 4 ∧ r = 29) (hbt : maxF 1 (31 - r) = bt) (hsf : Wd - bt = sf) (hnb : (1 <<< (bt &&& 31) : Int32) = nb) (hs : sf = 30 ∨ sf = 31 ∨ sf = 62 ∨ sf = 63) (hN : nb.toInt = N) (hN4 : N ≤ 4) (hso : Srt xs) (hall : ∀ x ∈ xs, U x < DD) (hBM : ∀ x : Int64, U x < DD → B sf x < N) (hqv : U qv < DD) :
    Go p e below (Ret s (fun v h L => v = some (.int 1) ∧ Fr Z.heap.size L) room_1.cells room_1.slots) (Tj.setTop (mkF m 404 #[sJ q1, sS, sJ q2, sS, sJ q3, sS, sJ q4, sS, sJ q5, sS, sI p6, sI wi, sR wd, sJ mu, sS, sI n, sI mo, sR sa, sR pa, sJ qv, sS, sR ix, sU] [])) := by
  obtain ⟨S_BITS_32, E_BITS_32, F_BITS_32_bits, S_BITS_64, E_BITS_64, F_BITS_64_bits⟩ := id hS
  obtain ⟨hx, hby, hml, hown, hnm, hret, hlk, hZ⟩ := id hC
  refine Go.st (fun _ k => XS.aload Xj.here hx rfl (hb hby at_404) rfl rfl k) ?_
  refine Go.st (S' := Tj.setTop (mkF m 408 #[sJ q1, sS, sJ q2, sS, sJ q3, sS, sJ q4, sS, sJ q5, sS, sI p6, sI wi, sR wd, sJ mu, sS, sI n, sI mo, sR sa, sR pa, sJ qv, sS, sR ix, sU] [(.long qv), (.ref ix)])) (fun _ k => XS.lload Xj.here hx rfl (hb hby at_406) rfl k) ?_
  obtain ⟨_, T236, L236, X236, ⟨rfl, Nq236, eq236⟩, st236⟩ := own_callV Xj hx hZ hown (ww hw 45 rfl) (ww hw 46 rfl) (notFace_of_selects (args := #[]) (mvT hZ (ww hw 48 rfl))) (ww hw 48 rfl) (ww hw 47 rfl) (ww hw 15 rfl) (ww hw 49 rfl) (by decide) ej Eix (rmFA l Z a0 hw [] w_BITS_32 w_BITS_64 hS ix qv pa ba kp kb n sf nb xs N hn hn6 hs hN hN4 hso (hBM _ hqv) hj Oj Fp Fs Fb Vpa Vba) 0 (by decide) (by decide) (by decide) (by decide) (g := (mkF m 408 #[sJ q1, sS, sJ q2, sS, sJ q3, sS, sJ q4, sS, sJ q5, sS, sI p6, sI wi, sR wd, sJ mu, sS, sI n, sI mo, sR sa, sR pa, sJ qv, sS, sR ix, sU] [(.long qv), (.ref ix)])) rfl (by rw [hml]; rfl) [(.long qv)] [] rfl (lenOf pd_691989 rfl) rfl (by show 2 * 0 + _ ≤ _; exact Nat.le_of_eq rfl) (hb hby at_408)
  have N236 := Fr.app Nj Nq236
  refine Go.st (S' := T236.setTop (mkF m 411 #[sJ q1, sS, sJ q2, sS, sJ q3, sS, sJ q4, sS, sJ q5, sS, sI p6, sI wi, sR wd, sJ mu, sS, sI n, sI mo, sR sa, sR pa, sJ qv, sS, sR ix, sU] [(.int (Int32.ofNat (cq xs qv)))])) st236 ?_
  refine Go.st (fun _ k => XS.istore X236.here hx rfl (hb hby at_411) rfl (l' := #[sJ q1, sS, sJ q2, sS, sJ q3, sS, sJ q4, sS, sJ q5, sS, sI p6, sI wi, sR wd, sJ mu, sS, sI n, sI mo, sR sa, sR pa, sJ qv, sS, sR ix, sI (Int32.ofNat (cq xs qv))]) rfl k) ?_
  refine Go.st (fun _ k => XS.iload X236.here hx rfl (hb hby at_413) rfl k) ?_
  refine Go.st (fun _ k => XS.aload X236.here hx rfl (hb hby at_415) rfl rfl k) ?_
  refine Go.st (fun _ k => XS.iload X236.here hx rfl (hb hby at_417) rfl k) ?_
  refine Go.st (S' := T236.setTop (mkF m 421 #[sJ q1, sS, sJ q2, sS, sJ q3, sS, sJ q4, sS, sJ q5, sS, sI p6, sI wi, sR wd, sJ mu, sS, sI n, sI mo, sR sa, sR pa, sJ qv, sS, sR ix, sI (Int32.ofNat (cq xs qv))] [(.long qv), (.int n), (.ref pa), (.int (Int32.ofNat (cq xs qv)))])) (fun _ k => XS.lload X236.here hx rfl (hb hby at_419) rfl k) ?_
  obtain ⟨_, T237, L237, X237, ⟨rfl, Nq237, eq237⟩, st237⟩ := own_callS X236 hx hZ hown (ww hw 58 rfl) (ww hw 59 rfl) (ww hw 7 rfl) (ww hw 60 rfl) (by decide) eq236 (rmBl l Z a0 hw [] w_BITS_32 w_BITS_64 hS pa qv kp n xs hn hn6 hj Oj Vpa) 1 (by decide) (by decide) (by decide) (by decide) (g := (mkF m 421 #[sJ q1, sS, sJ q2, sS, sJ q3, sS, sJ q4, sS, sJ q5, sS, sI p6, sI wi, sR wd, sJ mu, sS, sI n, sI mo, sR sa, sR pa, sJ qv, sS, sR ix, sI (Int32.ofNat (cq xs qv))] [(.long qv), (.int n), (.ref pa), (.int (Int32.ofNat (cq xs qv)))])) rfl (by rw [hml]; rfl) [(.ref pa), (.int n), (.long qv)] [(.int (Int32.ofNat (cq xs qv)))] rfl (lenOf pd_676163 rfl) rfl (by show 2 * 0 + _ ≤ _; exact Nat.le_of_eq rfl) (hb hby at_421)
  have N237 := Fr.app N236 Nq237
  refine Go.st (S' := T237.setTop (mkF m 424 #[sJ q1, sS, sJ q2, sS, sJ q3, sS, sJ q4, sS, sJ q5, sS, sI p6, sI wi, sR wd, sJ mu, sS, sI n, sI mo, sR sa, sR pa, sJ qv, sS, sR ix, sI (Int32.ofNat (cq xs qv))] [(.int (Int32.ofNat (cq xs qv))), (.int (Int32.ofNat (cq xs qv)))])) st237 ?_
  refine Go.st (fun _ k => XS.icmpNo X237.here hx rfl (hb hby at_424) rfl (teq rfl).2 k) ?_
  refine Go.st (fun _ k => XS.iconst X237.here hx rfl (hb hby at_427) k) ?_
  refine Go.st (S' := T237.setTop (mkF m 432 #[sJ q1, sS, sJ q2, sS, sJ q3, sS, sJ q4, sS, sJ q5, sS, sI p6, sI wi, sR wd, sJ mu, sS, sI n, sI mo, sR sa, sR pa, sJ qv, sS, sR ix, sI (Int32.ofNat (cq xs qv))] [(.int (1 : Int32))])) (fun _ k => XS.goto X237.here hx rfl (pc0 := 428) (pc' := 432) rfl (hb hby at_428) (by decide) (by decide) k) ?_
  exact own_retN X237 hx hlk hret (by simp) (hb hby at_432) eq237 ⟨rfl, N237⟩ (by decide) (by decide)
set_option maxRecDepth 65536 in
set_option maxHeartbeats 400000000 in
theorem rD (l : Launch) (Z : State) (a0 : Array Value) (hw : ∀ d ∈ tables_1, d.before a0 Z = true) (w_BITS_32 : Addr) (w_BITS_64 : Addr) (hS : SF Z w_BITS_32 w_BITS_64) (q1 : Int64) (q2 : Int64) (q3 : Int64) (q4 : Int64) (q5 : Int64) (p6 : Int32) (p : Program) (e : Env) (s : State) (m : MethodId) (below : List Frame) (meth : Method) (c : Code) (hC : CX0 p s m meth c Z) (Tj : State) (lj : List Loc) (hj : Heap) (Xj : Stand p l e room_1 s m #[(.long q1), (.long q2), (.long q3), (.long q4), (.long q5), (.int p6)] below meth c Tj lj 2 12) (ej : Tj.heap = hj) (Nj : Fr Z.heap.size lj) (Oj : Ext Z.heap hj) (wi : Int32) (wd : Addr) (mu : Int64) (DD : Nat) (Wd mo n r bt sf nb : Int32) (N : Nat) (xs : List Int64) (sa pa : Addr) (kp : ClassId) (qv : Int64) (u21 u22 : Slot) (Ewd : Exa Z hj wd "com/example/lenkki/lenkki/RingWidth") (Fwd : Fld Z hj wd "com/example/lenkki/lenkki/RingWidth" "bits" "I" (.int Wd)) (Vpa : Arv Z hj pa kp .long n (xs.map Value.long) (.long (0 : Int64))) (hM : (DD = 2 ^ 64 ∧ Wd = 64) ∨ (DD = 2 ^ 32 ∧ Wd = 32)) (hmu : ∀ x : Int64, U (x &&& mu) < DD) (hn : n.toInt = xs.length) (hn6 : xs.length ≤ 6) (hz : (maxF (n * 2 / 3) 1) = 1 ∧ r = 31 ∨ (maxF (n * 2 / 3) 1) = 2 ∧ r = 30 ∨ (maxF (n * 2 / 3) 1) = 3 ∧ r = 30 ∨ (maxF (n * 2 / 3) 1) = 4 ∧ r = 29) (hbt : maxF 1 (31 - r) = bt) (hsf : Wd - bt = sf) (hnb : (1 <<< (bt &&& 31) : Int32) = nb) (hs : sf = 30 ∨ sf = 31 ∨ sf = 62 ∨ sf = 63) (hN : nb.toInt = N) (hN4 : N ≤ 4) (hso : Srt xs) (hall : ∀ x ∈ xs, U x < DD) (hBM : ∀ x : Int64, U x < DD → B sf x < N) (hqv : U qv < DD) (hu : u21 = .unset ∧ u22 = .unset ∨ ∃ z, u21 = sJ z ∧ u22 = sS) :
    Go p e below (Ret s (fun v h L => v = some (.int 1) ∧ Fr Z.heap.size L) room_1.cells room_1.slots) (Tj.setTop (mkF m 391 #[sJ q1, sS, sJ q2, sS, sJ q3, sS, sJ q4, sS, sJ q5, sS, sI p6, sI wi, sR wd, sJ mu, sS, sI n, sI mo, sR sa, sR pa, sJ qv, sS, u21, u22] [])) := by
  obtain ⟨S_BITS_32, E_BITS_32, F_BITS_32_bits, S_BITS_64, E_BITS_64, F_BITS_64_bits⟩ := id hS
  obtain ⟨hx, hby, hml, hown, hnm, hret, hlk, hZ⟩ := id hC
  obtain ⟨T234, h234, X234, e234, E234, A234, D234, -, st234⟩ := newO Xj hx hZ hown (ww hw 13 rfl) (ww hw 14 rfl) (ww hw 15 rfl) ej (g := (mkF m 391 #[sJ q1, sS, sJ q2, sS, sJ q3, sS, sJ q4, sS, sJ q5, sS, sI p6, sI wi, sR wd, sJ mu, sS, sI n, sI mo, sR sa, sR pa, sJ qv, sS, u21, u22] [])) rfl (hb hby at_391) (by decide) (by decide)
  obtain ⟨b234, g234⟩ : ∃ z, z = hj.size := ⟨_, rfl⟩
  rw [← g234] at A234 D234 st234
  have gz234 : Z.heap.size ≤ b234 := Nat.le_trans Oj.1 (Nat.le_of_eq g234.symm)
  have ne_wd_b234 : wd ≠ b234 := own_lt_ne Ewd.lt g234
  have ne_pa_b234 : pa ≠ b234 := own_lt_ne Vpa.lt g234
  have O234 : Ext Z.heap h234 := own_Ext.trans Oj E234
  have F234_positions : Fld Z h234 b234 "com/example/lenkki/lenkki/PositionIndex" "positions" "[J" .null := D234 (Or.inr (ww hw 23 rfl)) (ty := (.array .long)) pf_132122
  have F234_shift : Fld Z h234 b234 "com/example/lenkki/lenkki/PositionIndex" "shift" "I" (.int (0 : Int32)) := D234 (Or.inr (ww hw 41 rfl)) (ty := .int) pf_990
  have F234_bucketStarts : Fld Z h234 b234 "com/example/lenkki/lenkki/PositionIndex" "bucketStarts" "[I" .null := D234 (Or.inr (ww hw 44 rfl)) (ty := (.array .int)) pf_132121
  refine Go.st (S' := T234.setTop (mkF m 394 #[sJ q1, sS, sJ q2, sS, sJ q3, sS, sJ q4, sS, sJ q5, sS, sI p6, sI wi, sR wd, sJ mu, sS, sI n, sI mo, sR sa, sR pa, sJ qv, sS, u21, u22] [(.ref b234)])) st234 ?_
  refine Go.st (fun _ k => XS.dup X234.here hx rfl (hb hby at_394) rfl rfl k) ?_
  refine Go.st (fun _ k => XS.aload X234.here hx rfl (hb hby at_395) rfl rfl k) ?_
  refine Go.st (S' := T234.setTop (mkF m 399 #[sJ q1, sS, sJ q2, sS, sJ q3, sS, sJ q4, sS, sJ q5, sS, sI p6, sI wi, sR wd, sJ mu, sS, sI n, sI mo, sR sa, sR pa, sJ qv, sS, u21, u22] [(.ref wd), (.ref pa), (.ref b234), (.ref b234)])) (fun _ k => XS.aload X234.here hx rfl (hb hby at_397) rfl rfl k) ?_
  obtain ⟨_, T235, L235, X235, ⟨rfl, Nq235, kp235, ba235, kb235, sb235, fp235, fs235, fb235, vp235, vb235⟩, st235⟩ := own_callI X234 hx hZ rfl hown (ww hw 16 rfl) (ww hw 17 rfl) (ww hw 15 rfl) (ww hw 18 rfl) (by decide) e234 (rmPI l Z a0 hw [] w_BITS_32 w_BITS_64 hS b234 pa wd kp n r bt Wd sf nb xs N hn hn6 hz hbt hsf hnb hs hN hN4 (fun x hx_ => hBM x (hall x hx_)) h234 O234 gz234 A234 F234_positions F234_bucketStarts F234_shift (Vpa.ext E234) (Ewd.ext E234) (Fwd.ext E234) (Ne.symm ne_pa_b234) (Ne.symm ne_wd_b234)) 1 (by decide) (by decide) (by decide) (by decide) (g := (mkF m 399 #[sJ q1, sS, sJ q2, sS, sJ q3, sS, sJ q4, sS, sJ q5, sS, sI p6, sI wi, sR wd, sJ mu, sS, sI n, sI mo, sR sa, sR pa, sJ qv, sS, u21, u22] [(.ref wd), (.ref pa), (.ref b234), (.ref b234)])) rfl (by rw [hml]; rfl) [(.ref pa), (.ref wd)] [(.ref b234)] rfl (lenOf pd_730585 rfl) rfl (by show 2 * 0 + _ ≤ _; exact Nat.le_of_eq rfl) (hb hby at_399)
  have N235 := Fr.app Nj Nq235
  have ne_wd_ba235 : wd ≠ ba235 := own_lt_ne' (Ewd.ext E234).lt sb235
  have ne_pa_ba235 : pa ≠ ba235 := own_lt_ne' (Vpa.ext E234).lt sb235
  have ne_b234_ba235 : b234 ≠ ba235 := own_lt_ne' A234.lt sb235
  have O235 : Ext Z.heap T235.heap := own_Ext.keep O234 kp235 (allS gz234 all0)
  refine Go.st (S' := T235.setTop (mkF m 402 #[sJ q1, sS, sJ q2, sS, sJ q3, sS, sJ q4, sS, sJ q5, sS, sI p6, sI wi, sR wd, sJ mu, sS, sI n, sI mo, sR sa, sR pa, sJ qv, sS, u21, u22] [(.ref b234)])) st235 ?_
  rcases hu with ⟨rfl, rfl⟩ | ⟨z21, rfl, rfl⟩
  · refine Go.st (S' := T235.setTop (mkF m 404 #[sJ q1, sS, sJ q2, sS, sJ q3, sS, sJ q4, sS, sJ q5, sS, sI p6, sI wi, sR wd, sJ mu, sS, sI n, sI mo, sR sa, sR pa, sJ qv, sS, sR b234, sU] [])) (fun _ k => XS.astore X235.here hx rfl (hb hby at_402) rfl rfl (l' := #[sJ q1, sS, sJ q2, sS, sJ q3, sS, sJ q4, sS, sJ q5, sS, sI p6, sI wi, sR wd, sJ mu, sS, sI n, sI mo, sR sa, sR pa, sJ qv, sS, sR b234, sU]) rfl k) ?_
    exact rE l Z a0 hw w_BITS_32 w_BITS_64 hS q1 q2 q3 q4 q5 p6 p e s m below meth c ⟨hx, hby, hml, hown, hnm, hret, hlk, hZ⟩ _ _ _ (X235.mono (by decide) (by decide)) rfl N235 O235 _ _ _ _ _ _ _ _ _ _ _ _ _ _ _ _ _ _ _ _ (A234.keep kp235) fp235 fs235 fb235 ((Vpa.ext E234).keep kp235 (ninS ne_pa_b234 nin0)) vb235 hM hmu hn hn6 hz hbt hsf hnb hs hN hN4 hso hall hBM hqv
  · refine Go.st (S' := T235.setTop (mkF m 404 #[sJ q1, sS, sJ q2, sS, sJ q3, sS, sJ q4, sS, sJ q5, sS, sI p6, sI wi, sR wd, sJ mu, sS, sI n, sI mo, sR sa, sR pa, sJ qv, sS, sR b234, sU] [])) (fun _ k => XS.astore X235.here hx rfl (hb hby at_402) rfl rfl (l' := #[sJ q1, sS, sJ q2, sS, sJ q3, sS, sJ q4, sS, sJ q5, sS, sI p6, sI wi, sR wd, sJ mu, sS, sI n, sI mo, sR sa, sR pa, sJ qv, sS, sR b234, sU]) rfl k) ?_
    exact rE l Z a0 hw w_BITS_32 w_BITS_64 hS q1 q2 q3 q4 q5 p6 p e s m below meth c ⟨hx, hby, hml, hown, hnm, hret, hlk, hZ⟩ _ _ _ (X235.mono (by decide) (by decide)) rfl N235 O235 _ _ _ _ _ _ _ _ _ _ _ _ _ _ _ _ _ _ _ _ (A234.keep kp235) fp235 fs235 fb235 ((Vpa.ext E234).keep kp235 (ninS ne_pa_b234 nin0)) vb235 hM hmu hn hn6 hz hbt hsf hnb hs hN hN4 hso hall hBM hqv
set_option maxRecDepth 65536 in
set_option maxHeartbeats 400000000 in
theorem rC (l : Launch) (Z : State) (a0 : Array Value) (hw : ∀ d ∈ tables_1, d.before a0 Z = true) (w_BITS_32 : Addr) (w_BITS_64 : Addr) (hS : SF Z w_BITS_32 w_BITS_64) (q1 : Int64) (q2 : Int64) (q3 : Int64) (q4 : Int64) (q5 : Int64) (p6 : Int32) (p : Program) (e : Env) (s : State) (m : MethodId) (below : List Frame) (meth : Method) (c : Code) (hC : CX0 p s m meth c Z) (Tj : State) (lj : List Loc) (hj : Heap) (Xj : Stand p l e room_1 s m #[(.long q1), (.long q2), (.long q3), (.long q4), (.long q5), (.int p6)] below meth c Tj lj 2 12) (ej : Tj.heap = hj) (Nj : Fr Z.heap.size lj) (Oj : Ext Z.heap hj) (wi : Int32) (wd : Addr) (mu : Int64) (DD : Nat) (Wd mo n r bt sf nb : Int32) (N : Nat) (xs : List Int64) (sa pa : Addr) (kp : ClassId) (Ewd : Exa Z hj wd "com/example/lenkki/lenkki/RingWidth") (Fwd : Fld Z hj wd "com/example/lenkki/lenkki/RingWidth" "bits" "I" (.int Wd)) (Vpa : Arv Z hj pa kp .long n (xs.map Value.long) (.long (0 : Int64))) (hM : (DD = 2 ^ 64 ∧ Wd = 64) ∨ (DD = 2 ^ 32 ∧ Wd = 32)) (hmu : ∀ x : Int64, U (x &&& mu) < DD) (hn : n.toInt = xs.length) (hn6 : xs.length ≤ 6) (hz : (maxF (n * 2 / 3) 1) = 1 ∧ r = 31 ∨ (maxF (n * 2 / 3) 1) = 2 ∧ r = 30 ∨ (maxF (n * 2 / 3) 1) = 3 ∧ r = 30 ∨ (maxF (n * 2 / 3) 1) = 4 ∧ r = 29) (hbt : maxF 1 (31 - r) = bt) (hsf : Wd - bt = sf) (hnb : (1 <<< (bt &&& 31) : Int32) = nb) (hs : sf = 30 ∨ sf = 31 ∨ sf = 62 ∨ sf = 63) (hN : nb.toInt = N) (hN4 : N ≤ 4) (hso : Srt xs) (hall : ∀ x ∈ xs, U x < DD) (hBM : ∀ x : Int64, U x < DD → B sf x < N) :
    Go p e below (Ret s (fun v h L => v = some (.int 1) ∧ Fr Z.heap.size L) room_1.cells room_1.slots) (Tj.setTop (mkF m 318 #[sJ q1, sS, sJ q2, sS, sJ q3, sS, sJ q4, sS, sJ q5, sS, sI p6, sI wi, sR wd, sJ mu, sS, sI n, sI mo, sR sa, sR pa, sU, sU, sU, sU] [])) := by
  obtain ⟨S_BITS_32, E_BITS_32, F_BITS_32_bits, S_BITS_64, E_BITS_64, F_BITS_64_bits⟩ := id hS
  obtain ⟨hx, hby, hml, hown, hnm, hret, hlk, hZ⟩ := id hC
  refine Go.st (fun _ k => XS.lload Xj.here hx rfl (hb hby at_318) rfl k) ?_
  refine Go.st (fun _ k => XS.lload Xj.here hx rfl (hb hby at_320) rfl k) ?_
  refine Go.st (S' := Tj.setTop (mkF m 323 #[sJ q1, sS, sJ q2, sS, sJ q3, sS, sJ q4, sS, sJ q5, sS, sI p6, sI wi, sR wd, sJ mu, sS, sI n, sI mo, sR sa, sR pa, sU, sU, sU, sU] [(.long (q5 &&& mu))])) (fun _ k => XS.land Xj.here hx rfl (hb hby at_322) rfl k) ?_
  obtain ⟨qu, hqu⟩ : ∃ z : Int64, z = (q5 &&& mu) := ⟨_, rfl⟩
  refine Go.st (S' := Tj.setTop (mkF m 323 #[sJ q1, sS, sJ q2, sS, sJ q3, sS, sJ q4, sS, sJ q5, sS, sI p6, sI wi, sR wd, sJ mu, sS, sI n, sI mo, sR sa, sR pa, sU, sU, sU, sU] [(.long qu)])) (fun _ k => by rw [hqu] at k; exact k) ?_
  have hquv : U qu < DD := by rw [hqu]; exact hmu _
  refine Go.st (fun _ k => XS.lstore Xj.here hx rfl (hb hby at_323) rfl (l' := #[sJ q1, sS, sJ q2, sS, sJ q3, sS, sJ q4, sS, sJ q5, sS, sI p6, sI wi, sR wd, sJ mu, sS, sI n, sI mo, sR sa, sR pa, sJ qu, sS, sU, sU]) rfl k) ?_
  refine Go.st (S' := Tj.setTop (mkF m 327 #[sJ q1, sS, sJ q2, sS, sJ q3, sS, sJ q4, sS, sJ q5, sS, sI p6, sI wi, sR wd, sJ mu, sS, sI n, sI mo, sR sa, sR pa, sJ qu, sS, sU, sU] [(.int n)])) (fun _ k => XS.iload Xj.here hx rfl (hb hby at_325) rfl k) ?_
  by_cases hc327 : (0 : Int32) < n
  · refine Go.st (fun _ k => XS.ifNo Xj.here hx rfl (hb hby at_327) rfl ((if0 _ _).trans (tlt hc327).2.2.2) k) ?_
    refine Go.st (S' := Tj.setTop (mkF m 332 #[sJ q1, sS, sJ q2, sS, sJ q3, sS, sJ q4, sS, sJ q5, sS, sI p6, sI wi, sR wd, sJ mu, sS, sI n, sI mo, sR sa, sR pa, sJ qu, sS, sU, sU] [(.int mo)])) (fun _ k => XS.iload Xj.here hx rfl (hb hby at_330) rfl k) ?_
    by_cases hc332 : mo = (0 : Int32)
    · refine Go.st (S' := Tj.setTop (mkF m 391 #[sJ q1, sS, sJ q2, sS, sJ q3, sS, sJ q4, sS, sJ q5, sS, sI p6, sI wi, sR wd, sJ mu, sS, sI n, sI mo, sR sa, sR pa, sJ qu, sS, sU, sU] [])) (fun _ k => XS.ifYes Xj.here hx rfl (pc0 := 332) (pc' := 391) rfl (hb hby at_332) rfl ((if0 _ _).trans (teq hc332).1) (by decide) (by decide) k) ?_
      exact rD l Z a0 hw w_BITS_32 w_BITS_64 hS q1 q2 q3 q4 q5 p6 p e s m below meth c ⟨hx, hby, hml, hown, hnm, hret, hlk, hZ⟩ _ _ _ (Xj.mono (by decide) (by decide)) ej Nj Oj _ _ _ _ _ _ _ _ _ _ _ _ _ _ _ _ _ _ _  Ewd Fwd Vpa hM hmu hn hn6 hz hbt hsf hnb hs hN hN4 hso hall hBM hquv (Or.inl ⟨rfl, rfl⟩)
    · refine Go.st (S' := Tj.setTop (mkF m 335 #[sJ q1, sS, sJ q2, sS, sJ q3, sS, sJ q4, sS, sJ q5, sS, sI p6, sI wi, sR wd, sJ mu, sS, sI n, sI mo, sR sa, sR pa, sJ qu, sS, sU, sU] [])) (fun _ k => XS.ifNo Xj.here hx rfl (hb hby at_332) rfl ((if0 _ _).trans (feq hc332).1) k) ?_
      have hn0 : 0 < n.toInt := own_posn hn hc327
      refine Go.st (fun _ k => XS.aload Xj.here hx rfl (hb hby at_335) rfl rfl k) ?_
      refine Go.st (S' := Tj.setTop (mkF m 339 #[sJ q1, sS, sJ q2, sS, sJ q3, sS, sJ q4, sS, sJ q5, sS, sI p6, sI wi, sR wd, sJ mu, sS, sI n, sI mo, sR sa, sR pa, sJ qu, sS, sU, sU] [(.long q5), (.ref pa)])) (fun _ k => XS.lload Xj.here hx rfl (hb hby at_337) rfl k) ?_
      refine Go.st (S' := Tj.setTop (mkF m 342 #[sJ q1, sS, sJ q2, sS, sJ q3, sS, sJ q4, sS, sJ q5, sS, sI p6, sI wi, sR wd, sJ mu, sS, sI n, sI mo, sR sa, sR pa, sJ qu, sS, sU, sU] [(.long (2147483647 : Int64)), (.long q5), (.ref pa)])) (Xj.ldc2Long hx hown (mvT hZ (ww hw 61 rfl)) (g := (mkF m 339 #[sJ q1, sS, sJ q2, sS, sJ q3, sS, sJ q4, sS, sJ q5, sS, sI p6, sI wi, sR wd, sJ mu, sS, sI n, sI mo, sR sa, sR pa, sJ qu, sS, sU, sU] [(.long q5), (.ref pa)])) rfl (hb hby at_339)) ?_
      refine Go.st (fun _ k => XS.land Xj.here hx rfl (hb hby at_342) rfl k) ?_
      refine Go.st (fun _ k => XS.iload Xj.here hx rfl (hb hby at_343) rfl k) ?_
      refine Go.st (S' := Tj.setTop (mkF m 346 #[sJ q1, sS, sJ q2, sS, sJ q3, sS, sJ q4, sS, sJ q5, sS, sI p6, sI wi, sR wd, sJ mu, sS, sI n, sI mo, sR sa, sR pa, sJ qu, sS, sU, sU] [(.long (n.toInt64)), (.long (q5 &&& (2147483647 : Int64))), (.ref pa)])) (fun _ k => XS.i2l Xj.here hx rfl (hb hby at_345) rfl k) ?_
      refine Go.st (S' := Tj.setTop (mkF m 347 #[sJ q1, sS, sJ q2, sS, sJ q3, sS, sJ q4, sS, sJ q5, sS, sI p6, sI wi, sR wd, sJ mu, sS, sI n, sI mo, sR sa, sR pa, sJ qu, sS, sU, sU] [(.long ((q5 &&& (2147483647 : Int64)) % (n.toInt64))), (.ref pa)])) (fun _ k => own_lrem Xj hx rfl (hb hby at_346) rfl (own_n64 hn0) k) ?_
      refine Go.st (S' := Tj.setTop (mkF m 348 #[sJ q1, sS, sJ q2, sS, sJ q3, sS, sJ q4, sS, sJ q5, sS, sI p6, sI wi, sR wd, sJ mu, sS, sI n, sI mo, sR sa, sR pa, sJ qu, sS, sU, sU] [(.int (((q5 &&& (2147483647 : Int64)) % (n.toInt64)).toInt32)), (.ref pa)])) (fun _ k => XS.l2i Xj.here hx rfl (hb hby at_347) rfl k) ?_
      refine Go.st (S' := Tj.setTop (mkF m 349 #[sJ q1, sS, sJ q2, sS, sJ q3, sS, sJ q4, sS, sJ q5, sS, sI p6, sI wi, sR wd, sJ mu, sS, sI n, sI mo, sR sa, sR pa, sJ qu, sS, sU, sU] [(.long (xs.getD (((q5 &&& (2147483647 : Int64)) % (n.toInt64)).toInt32).toNatClampNeg 0))])) (own_ldJ Xj hx hZ ej Vpa (own_li _ _ _ (Int32.toInt_toInt64 n) hn0 (by omega)) (own_getJ xs _) (g := (mkF m 348 #[sJ q1, sS, sJ q2, sS, sJ q3, sS, sJ q4, sS, sJ q5, sS, sI p6, sI wi, sR wd, sJ mu, sS, sI n, sI mo, sR sa, sR pa, sJ qu, sS, sU, sU] [(.int (((q5 &&& (2147483647 : Int64)) % (n.toInt64)).toInt32)), (.ref pa)])) rfl rfl (hb hby at_348)) ?_
      obtain ⟨ba_, hba_⟩ : ∃ z : Int64, z = (xs.getD (((q5 &&& (2147483647 : Int64)) % (n.toInt64)).toInt32).toNatClampNeg 0) := ⟨_, rfl⟩
      refine Go.st (S' := Tj.setTop (mkF m 349 #[sJ q1, sS, sJ q2, sS, sJ q3, sS, sJ q4, sS, sJ q5, sS, sI p6, sI wi, sR wd, sJ mu, sS, sI n, sI mo, sR sa, sR pa, sJ qu, sS, sU, sU] [(.long ba_)])) (fun _ k => by rw [hba_] at k; exact k) ?_
      have hbav : U ba_ < DD := by rw [hba_]; exact own_gd _ _ _ (own_D0 hM) hall
      refine Go.st (fun _ k => XS.lstore Xj.here hx rfl (hb hby at_349) rfl (l' := #[sJ q1, sS, sJ q2, sS, sJ q3, sS, sJ q4, sS, sJ q5, sS, sI p6, sI wi, sR wd, sJ mu, sS, sI n, sI mo, sR sa, sR pa, sJ qu, sS, sJ ba_, sS]) rfl k) ?_
      refine Go.st (fun _ k => XS.iload Xj.here hx rfl (hb hby at_351) rfl k) ?_
      refine Go.st (S' := Tj.setTop (mkF m 354 #[sJ q1, sS, sJ q2, sS, sJ q3, sS, sJ q4, sS, sJ q5, sS, sI p6, sI wi, sR wd, sJ mu, sS, sI n, sI mo, sR sa, sR pa, sJ qu, sS, sJ ba_, sS] [(.int (1 : Int32)), (.int mo)])) (fun _ k => XS.iconst Xj.here hx rfl (hb hby at_353) k) ?_
      by_cases hc354 : mo = (1 : Int32)
      · refine Go.st (fun _ k => XS.icmpNo Xj.here hx rfl (hb hby at_354) rfl (teq hc354).2 k) ?_
        refine Go.st (fun _ k => XS.lload Xj.here hx rfl (hb hby at_357) rfl k) ?_
        refine Go.st (fun _ k => XS.lstore Xj.here hx rfl (hb hby at_359) rfl (l' := #[sJ q1, sS, sJ q2, sS, sJ q3, sS, sJ q4, sS, sJ q5, sS, sI p6, sI wi, sR wd, sJ mu, sS, sI n, sI mo, sR sa, sR pa, sJ ba_, sS, sJ ba_, sS]) rfl k) ?_
        refine Go.st (S' := Tj.setTop (mkF m 391 #[sJ q1, sS, sJ q2, sS, sJ q3, sS, sJ q4, sS, sJ q5, sS, sI p6, sI wi, sR wd, sJ mu, sS, sI n, sI mo, sR sa, sR pa, sJ ba_, sS, sJ ba_, sS] [])) (fun _ k => XS.goto Xj.here hx rfl (pc0 := 361) (pc' := 391) rfl (hb hby at_361) (by decide) (by decide) k) ?_
        exact rD l Z a0 hw w_BITS_32 w_BITS_64 hS q1 q2 q3 q4 q5 p6 p e s m below meth c ⟨hx, hby, hml, hown, hnm, hret, hlk, hZ⟩ _ _ _ (Xj.mono (by decide) (by decide)) ej Nj Oj _ _ _ _ _ _ _ _ _ _ _ _ _ _ _ _ _ _ _  Ewd Fwd Vpa hM hmu hn hn6 hz hbt hsf hnb hs hN hN4 hso hall hBM hbav (Or.inr ⟨_, rfl, rfl⟩)
      · refine Go.st (fun _ k => XS.icmpYes Xj.here hx rfl (pc0 := 354) (pc' := 364) rfl (hb hby at_354) rfl (feq hc354).2 (by decide) (by decide) k) ?_
        refine Go.st (fun _ k => XS.iload Xj.here hx rfl (hb hby at_364) rfl k) ?_
        refine Go.st (S' := Tj.setTop (mkF m 367 #[sJ q1, sS, sJ q2, sS, sJ q3, sS, sJ q4, sS, sJ q5, sS, sI p6, sI wi, sR wd, sJ mu, sS, sI n, sI mo, sR sa, sR pa, sJ qu, sS, sJ ba_, sS] [(.int (2 : Int32)), (.int mo)])) (fun _ k => XS.iconst Xj.here hx rfl (hb hby at_366) k) ?_
        by_cases hc367 : mo = (2 : Int32)
        · refine Go.st (fun _ k => XS.icmpNo Xj.here hx rfl (hb hby at_367) rfl (teq hc367).2 k) ?_
          refine Go.st (fun _ k => XS.lload Xj.here hx rfl (hb hby at_370) rfl k) ?_
          refine Go.st (fun _ k => XS.lconst Xj.here hx rfl (hb hby at_372) k) ?_
          refine Go.st (fun _ k => XS.ladd Xj.here hx rfl (hb hby at_373) rfl k) ?_
          refine Go.st (fun _ k => XS.lload Xj.here hx rfl (hb hby at_374) rfl k) ?_
          refine Go.st (fun _ k => XS.land Xj.here hx rfl (hb hby at_376) rfl k) ?_
          refine Go.st (S' := Tj.setTop (mkF m 379 #[sJ q1, sS, sJ q2, sS, sJ q3, sS, sJ q4, sS, sJ q5, sS, sI p6, sI wi, sR wd, sJ mu, sS, sI n, sI mo, sR sa, sR pa, sJ ((ba_ + (1 : Int64)) &&& mu), sS, sJ ba_, sS] [])) (fun _ k => XS.lstore Xj.here hx rfl (hb hby at_377) rfl (l' := #[sJ q1, sS, sJ q2, sS, sJ q3, sS, sJ q4, sS, sJ q5, sS, sI p6, sI wi, sR wd, sJ mu, sS, sI n, sI mo, sR sa, sR pa, sJ ((ba_ + (1 : Int64)) &&& mu), sS, sJ ba_, sS]) rfl k) ?_
          refine Go.st (S' := Tj.setTop (mkF m 391 #[sJ q1, sS, sJ q2, sS, sJ q3, sS, sJ q4, sS, sJ q5, sS, sI p6, sI wi, sR wd, sJ mu, sS, sI n, sI mo, sR sa, sR pa, sJ ((ba_ + (1 : Int64)) &&& mu), sS, sJ ba_, sS] [])) (fun _ k => XS.goto Xj.here hx rfl (pc0 := 379) (pc' := 391) rfl (hb hby at_379) (by decide) (by decide) k) ?_
          exact rD l Z a0 hw w_BITS_32 w_BITS_64 hS q1 q2 q3 q4 q5 p6 p e s m below meth c ⟨hx, hby, hml, hown, hnm, hret, hlk, hZ⟩ _ _ _ (Xj.mono (by decide) (by decide)) ej Nj Oj _ _ _ _ _ _ _ _ _ _ _ _ _ _ _ _ _ _ _  Ewd Fwd Vpa hM hmu hn hn6 hz hbt hsf hnb hs hN hN4 hso hall hBM (hmu _) (Or.inr ⟨_, rfl, rfl⟩)
        · refine Go.st (fun _ k => XS.icmpYes Xj.here hx rfl (pc0 := 367) (pc' := 382) rfl (hb hby at_367) rfl (feq hc367).2 (by decide) (by decide) k) ?_
          refine Go.st (fun _ k => XS.lload Xj.here hx rfl (hb hby at_382) rfl k) ?_
          refine Go.st (fun _ k => XS.lconst Xj.here hx rfl (hb hby at_384) k) ?_
          refine Go.st (fun _ k => XS.lsub Xj.here hx rfl (hb hby at_385) rfl k) ?_
          refine Go.st (fun _ k => XS.lload Xj.here hx rfl (hb hby at_386) rfl k) ?_
          refine Go.st (fun _ k => XS.land Xj.here hx rfl (hb hby at_388) rfl k) ?_
          refine Go.st (S' := Tj.setTop (mkF m 391 #[sJ q1, sS, sJ q2, sS, sJ q3, sS, sJ q4, sS, sJ q5, sS, sI p6, sI wi, sR wd, sJ mu, sS, sI n, sI mo, sR sa, sR pa, sJ ((ba_ - (1 : Int64)) &&& mu), sS, sJ ba_, sS] [])) (fun _ k => XS.lstore Xj.here hx rfl (hb hby at_389) rfl (l' := #[sJ q1, sS, sJ q2, sS, sJ q3, sS, sJ q4, sS, sJ q5, sS, sI p6, sI wi, sR wd, sJ mu, sS, sI n, sI mo, sR sa, sR pa, sJ ((ba_ - (1 : Int64)) &&& mu), sS, sJ ba_, sS]) rfl k) ?_
          exact rD l Z a0 hw w_BITS_32 w_BITS_64 hS q1 q2 q3 q4 q5 p6 p e s m below meth c ⟨hx, hby, hml, hown, hnm, hret, hlk, hZ⟩ _ _ _ (Xj.mono (by decide) (by decide)) ej Nj Oj _ _ _ _ _ _ _ _ _ _ _ _ _ _ _ _ _ _ _  Ewd Fwd Vpa hM hmu hn hn6 hz hbt hsf hnb hs hN hN4 hso hall hBM (hmu _) (Or.inr ⟨_, rfl, rfl⟩)
  · refine Go.st (S' := Tj.setTop (mkF m 391 #[sJ q1, sS, sJ q2, sS, sJ q3, sS, sJ q4, sS, sJ q5, sS, sI p6, sI wi, sR wd, sJ mu, sS, sI n, sI mo, sR sa, sR pa, sJ qu, sS, sU, sU] [])) (fun _ k => XS.ifYes Xj.here hx rfl (pc0 := 327) (pc' := 391) rfl (hb hby at_327) rfl ((if0 _ _).trans (flt hc327).2.2.2) (by decide) (by decide) k) ?_
    exact rD l Z a0 hw w_BITS_32 w_BITS_64 hS q1 q2 q3 q4 q5 p6 p e s m below meth c ⟨hx, hby, hml, hown, hnm, hret, hlk, hZ⟩ _ _ _ (Xj.mono (by decide) (by decide)) ej Nj Oj _ _ _ _ _ _ _ _ _ _ _ _ _ _ _ _ _ _ _  Ewd Fwd Vpa hM hmu hn hn6 hz hbt hsf hnb hs hN hN4 hso hall hBM hquv (Or.inl ⟨rfl, rfl⟩)
set_option maxRecDepth 65536 in
set_option maxHeartbeats 400000000 in
theorem rB (l : Launch) (Z : State) (a0 : Array Value) (hw : ∀ d ∈ tables_1, d.before a0 Z = true) (w_BITS_32 : Addr) (w_BITS_64 : Addr) (hS : SF Z w_BITS_32 w_BITS_64) (q1 : Int64) (q2 : Int64) (q3 : Int64) (q4 : Int64) (q5 : Int64) (p6 : Int32) (p : Program) (e : Env) (s : State) (m : MethodId) (below : List Frame) (meth : Method) (c : Code) (hC : CX0 p s m meth c Z) (Tj : State) (lj : List Loc) (hj : Heap) (Xj : Stand p l e room_1 s m #[(.long q1), (.long q2), (.long q3), (.long q4), (.long q5), (.int p6)] below meth c Tj lj 1 6) (ej : Tj.heap = hj) (Nj : Fr Z.heap.size lj) (Oj : Ext Z.heap hj) (wi : Int32) (wd : Addr) (mu : Int64) (DD : Nat) (Wd n mo : Int32) (sa : Addr) (ks : ClassId) (y0 y1 y2 y3 y4 y5 : Int64) (Ewd : Exa Z hj wd "com/example/lenkki/lenkki/RingWidth") (Fwd : Fld Z hj wd "com/example/lenkki/lenkki/RingWidth" "bits" "I" (.int Wd)) (Vsa : Arv Z hj sa ks .long (6 : Int32) [(.long y0), (.long y1), (.long y2), (.long y3), (.long y4), (.long y5)] (.long (0 : Int64))) (gsa : Z.heap.size ≤ sa) (hM : (DD = 2 ^ 64 ∧ Wd = 64) ∨ (DD = 2 ^ 32 ∧ Wd = 32)) (hmu : ∀ x : Int64, U (x &&& mu) < DD) (hqn : n = 0 ∨ n = 1 ∨ n = 2 ∨ n = 3 ∨ n = 4 ∨ n = 5 ∨ n = 6) (le0 : U y0 ≤ U y1) (le1 : U y1 ≤ U y2) (le2 : U y2 ≤ U y3) (le3 : U y3 ≤ U y4) (le4 : U y4 ≤ U y5) (bd0 : U y0 < DD) (bd1 : U y1 < DD) (bd2 : U y2 < DD) (bd3 : U y3 < DD) (bd4 : U y4 < DD) (bd5 : U y5 < DD) :
    Go p e below (Ret s (fun v h L => v = some (.int 1) ∧ Fr Z.heap.size L) room_1.cells room_1.slots) (Tj.setTop (mkF m 229 #[sJ q1, sS, sJ q2, sS, sJ q3, sS, sJ q4, sS, sJ q5, sS, sI p6, sI wi, sR wd, sJ mu, sS, sI n, sI mo, sR sa, sU, sU, sU, sU, sU] [])) := by
  obtain ⟨S_BITS_32, E_BITS_32, F_BITS_32_bits, S_BITS_64, E_BITS_64, F_BITS_64_bits⟩ := id hS
  obtain ⟨hx, hby, hml, hown, hnm, hret, hlk, hZ⟩ := id hC
  refine Go.st (S' := Tj.setTop (mkF m 231 #[sJ q1, sS, sJ q2, sS, sJ q3, sS, sJ q4, sS, sJ q5, sS, sI p6, sI wi, sR wd, sJ mu, sS, sI n, sI mo, sR sa, sU, sU, sU, sU, sU] [(.int n)])) (fun _ k => XS.iload Xj.here hx rfl (hb hby at_229) rfl k) ?_
  rcases hqn with rfl | rfl | rfl | rfl | rfl | rfl | rfl
  · obtain ⟨T233, h233, k233, X233, e233, E233, A233, Ea233, st233⟩ := newPE Xj hx hZ (ww hw 4 rfl) ej (g := (mkF m 231 #[sJ q1, sS, sJ q2, sS, sJ q3, sS, sJ q4, sS, sJ q5, sS, sI p6, sI wi, sR wd, sJ mu, sS, sI 0, sI mo, sR sa, sU, sU, sU, sU, sU] [(.int (0 : Int32))])) rfl (hb hby at_231) rfl (by decide) (cap := 0) (by decide) (by decide) (by decide) (by decide) (ad := "[J") (by decide)
    obtain ⟨b233, g233⟩ : ∃ z, z = hj.size := ⟨_, rfl⟩
    rw [← g233] at A233 Ea233 st233
    have gz233 : Z.heap.size ≤ b233 := Nat.le_trans Oj.1 (Nat.le_of_eq g233.symm)
    have ne_wd_b233 : wd ≠ b233 := own_lt_ne Ewd.lt g233
    have ne_sa_b233 : sa ≠ b233 := own_lt_ne Vsa.lt g233
    have O233 : Ext Z.heap h233 := own_Ext.trans Oj E233
    have V233 : Arv Z h233 b233 k233 .long (0 : Int32) [] (.long (0 : Int64)) := (Arv.new A233 (by decide)).pad (pad_rep [] (.long (0 : Int64)) 0)
    refine Go.st (S' := T233.setTop (mkF m 233 #[sJ q1, sS, sJ q2, sS, sJ q3, sS, sJ q4, sS, sJ q5, sS, sI p6, sI wi, sR wd, sJ mu, sS, sI 0, sI mo, sR sa, sU, sU, sU, sU, sU] [(.ref b233)])) st233 ?_
    refine Go.st (fun _ k => XS.astore X233.here hx rfl (hb hby at_233) rfl rfl (l' := #[sJ q1, sS, sJ q2, sS, sJ q3, sS, sJ q4, sS, sJ q5, sS, sI p6, sI wi, sR wd, sJ mu, sS, sI 0, sI mo, sR sa, sR b233, sU, sU, sU, sU]) rfl k) ?_
    refine Go.st (S' := T233.setTop (mkF m 237 #[sJ q1, sS, sJ q2, sS, sJ q3, sS, sJ q4, sS, sJ q5, sS, sI p6, sI wi, sR wd, sJ mu, sS, sI 0, sI mo, sR sa, sR b233, sU, sU, sU, sU] [(.int (0 : Int32))])) (fun _ k => XS.iload X233.here hx rfl (hb hby at_235) rfl k) ?_
    refine Go.st (fun _ k => XS.ifYes X233.here hx rfl (pc0 := 237) (pc' := 248) rfl (hb hby at_237) rfl ((if0 _ _).trans (flt (by decide)).2.2.2) (by decide) (by decide) k) ?_
    refine Go.st (fun _ k => XS.iload X233.here hx rfl (hb hby at_248) rfl k) ?_
    refine Go.st (S' := T233.setTop (mkF m 251 #[sJ q1, sS, sJ q2, sS, sJ q3, sS, sJ q4, sS, sJ q5, sS, sI p6, sI wi, sR wd, sJ mu, sS, sI 0, sI mo, sR sa, sR b233, sU, sU, sU, sU] [(.int (1 : Int32)), (.int (0 : Int32))])) (fun _ k => XS.iconst X233.here hx rfl (hb hby at_250) k) ?_
    refine Go.st (fun _ k => XS.icmpYes X233.here hx rfl (pc0 := 251) (pc' := 262) rfl (hb hby at_251) rfl (flt (by decide)).2.2.2 (by decide) (by decide) k) ?_
    refine Go.st (fun _ k => XS.iload X233.here hx rfl (hb hby at_262) rfl k) ?_
    refine Go.st (S' := T233.setTop (mkF m 265 #[sJ q1, sS, sJ q2, sS, sJ q3, sS, sJ q4, sS, sJ q5, sS, sI p6, sI wi, sR wd, sJ mu, sS, sI 0, sI mo, sR sa, sR b233, sU, sU, sU, sU] [(.int (2 : Int32)), (.int (0 : Int32))])) (fun _ k => XS.iconst X233.here hx rfl (hb hby at_264) k) ?_
    refine Go.st (fun _ k => XS.icmpYes X233.here hx rfl (pc0 := 265) (pc' := 276) rfl (hb hby at_265) rfl (flt (by decide)).2.2.2 (by decide) (by decide) k) ?_
    refine Go.st (fun _ k => XS.iload X233.here hx rfl (hb hby at_276) rfl k) ?_
    refine Go.st (S' := T233.setTop (mkF m 279 #[sJ q1, sS, sJ q2, sS, sJ q3, sS, sJ q4, sS, sJ q5, sS, sI p6, sI wi, sR wd, sJ mu, sS, sI 0, sI mo, sR sa, sR b233, sU, sU, sU, sU] [(.int (3 : Int32)), (.int (0 : Int32))])) (fun _ k => XS.iconst X233.here hx rfl (hb hby at_278) k) ?_
    refine Go.st (fun _ k => XS.icmpYes X233.here hx rfl (pc0 := 279) (pc' := 290) rfl (hb hby at_279) rfl (flt (by decide)).2.2.2 (by decide) (by decide) k) ?_
    refine Go.st (fun _ k => XS.iload X233.here hx rfl (hb hby at_290) rfl k) ?_
    refine Go.st (S' := T233.setTop (mkF m 293 #[sJ q1, sS, sJ q2, sS, sJ q3, sS, sJ q4, sS, sJ q5, sS, sI p6, sI wi, sR wd, sJ mu, sS, sI 0, sI mo, sR sa, sR b233, sU, sU, sU, sU] [(.int (4 : Int32)), (.int (0 : Int32))])) (fun _ k => XS.iconst X233.here hx rfl (hb hby at_292) k) ?_
    refine Go.st (fun _ k => XS.icmpYes X233.here hx rfl (pc0 := 293) (pc' := 304) rfl (hb hby at_293) rfl (flt (by decide)).2.2.2 (by decide) (by decide) k) ?_
    refine Go.st (fun _ k => XS.iload X233.here hx rfl (hb hby at_304) rfl k) ?_
    refine Go.st (S' := T233.setTop (mkF m 307 #[sJ q1, sS, sJ q2, sS, sJ q3, sS, sJ q4, sS, sJ q5, sS, sI p6, sI wi, sR wd, sJ mu, sS, sI 0, sI mo, sR sa, sR b233, sU, sU, sU, sU] [(.int (5 : Int32)), (.int (0 : Int32))])) (fun _ k => XS.iconst X233.here hx rfl (hb hby at_306) k) ?_
    refine Go.st (S' := T233.setTop (mkF m 318 #[sJ q1, sS, sJ q2, sS, sJ q3, sS, sJ q4, sS, sJ q5, sS, sI p6, sI wi, sR wd, sJ mu, sS, sI 0, sI mo, sR sa, sR b233, sU, sU, sU, sU] [])) (fun _ k => XS.icmpYes X233.here hx rfl (pc0 := 307) (pc' := 318) rfl (hb hby at_307) rfl (flt (by decide)).2.2.2 (by decide) (by decide) k) ?_
    have hall : ∀ x ∈ ([] : List Int64), U x < DD := fun x hx_ => absurd hx_ List.not_mem_nil
    have hso : Srt [] := by unfold Srt; simp <;> omega
    exact rC l Z a0 hw w_BITS_32 w_BITS_64 hS q1 q2 q3 q4 q5 p6 p e s m below meth c ⟨hx, hby, hml, hown, hnm, hret, hlk, hZ⟩ _ _ _ (X233.mono (by decide) (by decide)) e233 Nj O233 _ _ _ _ _ _ (0 : Int32) (31 : Int32) (1 : Int32) (Wd - 1) (2 : Int32) 2 [] _ _ _ (Ewd.ext E233) (Fwd.ext E233) V233 hM hmu rfl (Nat.le_of_ble_eq_true rfl) (by decide) (by decide) rfl (by decide) (own_sf hM).1 (by decide) (by decide) hso hall (own_BM hM).1
  · obtain ⟨T239, h239, k239, X239, e239, E239, A239, Ea239, st239⟩ := newPE Xj hx hZ (ww hw 4 rfl) ej (g := (mkF m 231 #[sJ q1, sS, sJ q2, sS, sJ q3, sS, sJ q4, sS, sJ q5, sS, sI p6, sI wi, sR wd, sJ mu, sS, sI 1, sI mo, sR sa, sU, sU, sU, sU, sU] [(.int (1 : Int32))])) rfl (hb hby at_231) rfl (by decide) (cap := 1) (by decide) (by decide) (by decide) (by decide) (ad := "[J") (by decide)
    obtain ⟨b239, g239⟩ : ∃ z, z = hj.size := ⟨_, rfl⟩
    rw [← g239] at A239 Ea239 st239
    have gz239 : Z.heap.size ≤ b239 := Nat.le_trans Oj.1 (Nat.le_of_eq g239.symm)
    have ne_wd_b239 : wd ≠ b239 := own_lt_ne Ewd.lt g239
    have ne_sa_b239 : sa ≠ b239 := own_lt_ne Vsa.lt g239
    have O239 : Ext Z.heap h239 := own_Ext.trans Oj E239
    have V239 : Arv Z h239 b239 k239 .long (1 : Int32) [(.long (0 : Int64))] (.long (0 : Int64)) := (Arv.new A239 (by decide)).pad (pad_rep [] (.long (0 : Int64)) 1)
    refine Go.st (S' := T239.setTop (mkF m 233 #[sJ q1, sS, sJ q2, sS, sJ q3, sS, sJ q4, sS, sJ q5, sS, sI p6, sI wi, sR wd, sJ mu, sS, sI 1, sI mo, sR sa, sU, sU, sU, sU, sU] [(.ref b239)])) st239 ?_
    refine Go.st (fun _ k => XS.astore X239.here hx rfl (hb hby at_233) rfl rfl (l' := #[sJ q1, sS, sJ q2, sS, sJ q3, sS, sJ q4, sS, sJ q5, sS, sI p6, sI wi, sR wd, sJ mu, sS, sI 1, sI mo, sR sa, sR b239, sU, sU, sU, sU]) rfl k) ?_
    refine Go.st (S' := T239.setTop (mkF m 237 #[sJ q1, sS, sJ q2, sS, sJ q3, sS, sJ q4, sS, sJ q5, sS, sI p6, sI wi, sR wd, sJ mu, sS, sI 1, sI mo, sR sa, sR b239, sU, sU, sU, sU] [(.int (1 : Int32))])) (fun _ k => XS.iload X239.here hx rfl (hb hby at_235) rfl k) ?_
    refine Go.st (fun _ k => XS.ifNo X239.here hx rfl (hb hby at_237) rfl ((if0 _ _).trans (tlt (by decide)).2.2.2) k) ?_
    refine Go.st (fun _ k => XS.aload X239.here hx rfl (hb hby at_240) rfl rfl k) ?_
    refine Go.st (fun _ k => XS.iconst X239.here hx rfl (hb hby at_242) k) ?_
    refine Go.st (fun _ k => XS.aload X239.here hx rfl (hb hby at_243) rfl rfl k) ?_
    refine Go.st (S' := T239.setTop (mkF m 246 #[sJ q1, sS, sJ q2, sS, sJ q3, sS, sJ q4, sS, sJ q5, sS, sI p6, sI wi, sR wd, sJ mu, sS, sI 1, sI mo, sR sa, sR b239, sU, sU, sU, sU] [(.int (0 : Int32)), (.ref sa), (.int (0 : Int32)), (.ref b239)])) (fun _ k => XS.iconst X239.here hx rfl (hb hby at_245) k) ?_
    refine Go.st (S' := T239.setTop (mkF m 247 #[sJ q1, sS, sJ q2, sS, sJ q3, sS, sJ q4, sS, sJ q5, sS, sI p6, sI wi, sR wd, sJ mu, sS, sI 1, sI mo, sR sa, sR b239, sU, sU, sU, sU] [(.long y0), (.int (0 : Int32)), (.ref b239)])) (own_ldJ X239 hx hZ e239 (Vsa.ext E239) ⟨by decide, by decide⟩ rfl (g := (mkF m 246 #[sJ q1, sS, sJ q2, sS, sJ q3, sS, sJ q4, sS, sJ q5, sS, sI p6, sI wi, sR wd, sJ mu, sS, sI 1, sI mo, sR sa, sR b239, sU, sU, sU, sU] [(.int (0 : Int32)), (.ref sa), (.int (0 : Int32)), (.ref b239)])) rfl rfl (hb hby at_246)) ?_
    obtain ⟨T241, h241, X241, e241, W241, V241, st241⟩ := own_stJ X239 hx hZ e239 V239 (j := (0 : Int32)) ⟨by decide, by decide⟩ 0 rfl (Nat.le_of_ble_eq_true rfl) (g := (mkF m 247 #[sJ q1, sS, sJ q2, sS, sJ q3, sS, sJ q4, sS, sJ q5, sS, sI p6, sI wi, sR wd, sJ mu, sS, sI 1, sI mo, sR sa, sR b239, sU, sU, sU, sU] [(.long y0), (.int (0 : Int32)), (.ref b239)])) rfl rfl (hb hby at_247)
    have N241 := Fr.snoc X241 Nj gz239
    have V241 : Arv Z h241 b239 k239 .long (1 : Int32) [(.long y0)] (.long (0 : Int64)) := V241
    have O241 : Ext Z.heap h241 := own_Ext.wr O239 W241 gz239
    refine Go.st (S' := T241.setTop (mkF m 248 #[sJ q1, sS, sJ q2, sS, sJ q3, sS, sJ q4, sS, sJ q5, sS, sI p6, sI wi, sR wd, sJ mu, sS, sI 1, sI mo, sR sa, sR b239, sU, sU, sU, sU] [])) st241 ?_
    refine Go.st (fun _ k => XS.iload X241.here hx rfl (hb hby at_248) rfl k) ?_
    refine Go.st (S' := T241.setTop (mkF m 251 #[sJ q1, sS, sJ q2, sS, sJ q3, sS, sJ q4, sS, sJ q5, sS, sI p6, sI wi, sR wd, sJ mu, sS, sI 1, sI mo, sR sa, sR b239, sU, sU, sU, sU] [(.int (1 : Int32)), (.int (1 : Int32))])) (fun _ k => XS.iconst X241.here hx rfl (hb hby at_250) k) ?_
    refine Go.st (fun _ k => XS.icmpYes X241.here hx rfl (pc0 := 251) (pc' := 262) rfl (hb hby at_251) rfl (flt (by decide)).2.2.2 (by decide) (by decide) k) ?_
    refine Go.st (fun _ k => XS.iload X241.here hx rfl (hb hby at_262) rfl k) ?_
    refine Go.st (S' := T241.setTop (mkF m 265 #[sJ q1, sS, sJ q2, sS, sJ q3, sS, sJ q4, sS, sJ q5, sS, sI p6, sI wi, sR wd, sJ mu, sS, sI 1, sI mo, sR sa, sR b239, sU, sU, sU, sU] [(.int (2 : Int32)), (.int (1 : Int32))])) (fun _ k => XS.iconst X241.here hx rfl (hb hby at_264) k) ?_
    refine Go.st (fun _ k => XS.icmpYes X241.here hx rfl (pc0 := 265) (pc' := 276) rfl (hb hby at_265) rfl (flt (by decide)).2.2.2 (by decide) (by decide) k) ?_
    refine Go.st (fun _ k => XS.iload X241.here hx rfl (hb hby at_276) rfl k) ?_
    refine Go.st (S' := T241.setTop (mkF m 279 #[sJ q1, sS, sJ q2, sS, sJ q3, sS, sJ q4, sS, sJ q5, sS, sI p6, sI wi, sR wd, sJ mu, sS, sI 1, sI mo, sR sa, sR b239, sU, sU, sU, sU] [(.int (3 : Int32)), (.int (1 : Int32))])) (fun _ k => XS.iconst X241.here hx rfl (hb hby at_278) k) ?_
    refine Go.st (fun _ k => XS.icmpYes X241.here hx rfl (pc0 := 279) (pc' := 290) rfl (hb hby at_279) rfl (flt (by decide)).2.2.2 (by decide) (by decide) k) ?_
    refine Go.st (fun _ k => XS.iload X241.here hx rfl (hb hby at_290) rfl k) ?_
    refine Go.st (S' := T241.setTop (mkF m 293 #[sJ q1, sS, sJ q2, sS, sJ q3, sS, sJ q4, sS, sJ q5, sS, sI p6, sI wi, sR wd, sJ mu, sS, sI 1, sI mo, sR sa, sR b239, sU, sU, sU, sU] [(.int (4 : Int32)), (.int (1 : Int32))])) (fun _ k => XS.iconst X241.here hx rfl (hb hby at_292) k) ?_
    refine Go.st (fun _ k => XS.icmpYes X241.here hx rfl (pc0 := 293) (pc' := 304) rfl (hb hby at_293) rfl (flt (by decide)).2.2.2 (by decide) (by decide) k) ?_
    refine Go.st (fun _ k => XS.iload X241.here hx rfl (hb hby at_304) rfl k) ?_
    refine Go.st (S' := T241.setTop (mkF m 307 #[sJ q1, sS, sJ q2, sS, sJ q3, sS, sJ q4, sS, sJ q5, sS, sI p6, sI wi, sR wd, sJ mu, sS, sI 1, sI mo, sR sa, sR b239, sU, sU, sU, sU] [(.int (5 : Int32)), (.int (1 : Int32))])) (fun _ k => XS.iconst X241.here hx rfl (hb hby at_306) k) ?_
    refine Go.st (S' := T241.setTop (mkF m 318 #[sJ q1, sS, sJ q2, sS, sJ q3, sS, sJ q4, sS, sJ q5, sS, sI p6, sI wi, sR wd, sJ mu, sS, sI 1, sI mo, sR sa, sR b239, sU, sU, sU, sU] [])) (fun _ k => XS.icmpYes X241.here hx rfl (pc0 := 307) (pc' := 318) rfl (hb hby at_307) rfl (flt (by decide)).2.2.2 (by decide) (by decide) k) ?_
    have hall : ∀ x ∈ ([y0] : List Int64), U x < DD := by
      intro x hx_
      simp only [List.mem_cons, List.not_mem_nil, or_false] at hx_
      rw [hx_]; exact bd0
    have hso : Srt [y0] := by unfold Srt; simp <;> omega
    exact rC l Z a0 hw w_BITS_32 w_BITS_64 hS q1 q2 q3 q4 q5 p6 p e s m below meth c ⟨hx, hby, hml, hown, hnm, hret, hlk, hZ⟩ _ _ _ (X241.mono (by decide) (by decide)) e241 N241 O241 _ _ _ _ _ _ (1 : Int32) (31 : Int32) (1 : Int32) (Wd - 1) (2 : Int32) 2 [y0] _ _ _ ((Ewd.ext E239).wr W241) ((Fwd.ext E239).other W241 (Or.inl ne_wd_b239)) V241 hM hmu rfl (Nat.le_of_ble_eq_true rfl) (by decide) (by decide) rfl (by decide) (own_sf hM).1 (by decide) (by decide) hso hall (own_BM hM).1
  · obtain ⟨T242, h242, k242, X242, e242, E242, A242, Ea242, st242⟩ := newPE Xj hx hZ (ww hw 4 rfl) ej (g := (mkF m 231 #[sJ q1, sS, sJ q2, sS, sJ q3, sS, sJ q4, sS, sJ q5, sS, sI p6, sI wi, sR wd, sJ mu, sS, sI 2, sI mo, sR sa, sU, sU, sU, sU, sU] [(.int (2 : Int32))])) rfl (hb hby at_231) rfl (by decide) (cap := 2) (by decide) (by decide) (by decide) (by decide) (ad := "[J") (by decide)
    obtain ⟨b242, g242⟩ : ∃ z, z = hj.size := ⟨_, rfl⟩
    rw [← g242] at A242 Ea242 st242
    have gz242 : Z.heap.size ≤ b242 := Nat.le_trans Oj.1 (Nat.le_of_eq g242.symm)
    have ne_wd_b242 : wd ≠ b242 := own_lt_ne Ewd.lt g242
    have ne_sa_b242 : sa ≠ b242 := own_lt_ne Vsa.lt g242
    have O242 : Ext Z.heap h242 := own_Ext.trans Oj E242
    have V242 : Arv Z h242 b242 k242 .long (2 : Int32) [(.long (0 : Int64)), (.long (0 : Int64))] (.long (0 : Int64)) := (Arv.new A242 (by decide)).pad (pad_rep [] (.long (0 : Int64)) 2)
    refine Go.st (S' := T242.setTop (mkF m 233 #[sJ q1, sS, sJ q2, sS, sJ q3, sS, sJ q4, sS, sJ q5, sS, sI p6, sI wi, sR wd, sJ mu, sS, sI 2, sI mo, sR sa, sU, sU, sU, sU, sU] [(.ref b242)])) st242 ?_
    refine Go.st (fun _ k => XS.astore X242.here hx rfl (hb hby at_233) rfl rfl (l' := #[sJ q1, sS, sJ q2, sS, sJ q3, sS, sJ q4, sS, sJ q5, sS, sI p6, sI wi, sR wd, sJ mu, sS, sI 2, sI mo, sR sa, sR b242, sU, sU, sU, sU]) rfl k) ?_
    refine Go.st (S' := T242.setTop (mkF m 237 #[sJ q1, sS, sJ q2, sS, sJ q3, sS, sJ q4, sS, sJ q5, sS, sI p6, sI wi, sR wd, sJ mu, sS, sI 2, sI mo, sR sa, sR b242, sU, sU, sU, sU] [(.int (2 : Int32))])) (fun _ k => XS.iload X242.here hx rfl (hb hby at_235) rfl k) ?_
    refine Go.st (fun _ k => XS.ifNo X242.here hx rfl (hb hby at_237) rfl ((if0 _ _).trans (tlt (by decide)).2.2.2) k) ?_
    refine Go.st (fun _ k => XS.aload X242.here hx rfl (hb hby at_240) rfl rfl k) ?_
    refine Go.st (fun _ k => XS.iconst X242.here hx rfl (hb hby at_242) k) ?_
    refine Go.st (fun _ k => XS.aload X242.here hx rfl (hb hby at_243) rfl rfl k) ?_
    refine Go.st (S' := T242.setTop (mkF m 246 #[sJ q1, sS, sJ q2, sS, sJ q3, sS, sJ q4, sS, sJ q5, sS, sI p6, sI wi, sR wd, sJ mu, sS, sI 2, sI mo, sR sa, sR b242, sU, sU, sU, sU] [(.int (0 : Int32)), (.ref sa), (.int (0 : Int32)), (.ref b242)])) (fun _ k => XS.iconst X242.here hx rfl (hb hby at_245) k) ?_
    refine Go.st (S' := T242.setTop (mkF m 247 #[sJ q1, sS, sJ q2, sS, sJ q3, sS, sJ q4, sS, sJ q5, sS, sI p6, sI wi, sR wd, sJ mu, sS, sI 2, sI mo, sR sa, sR b242, sU, sU, sU, sU] [(.long y0), (.int (0 : Int32)), (.ref b242)])) (own_ldJ X242 hx hZ e242 (Vsa.ext E242) ⟨by decide, by decide⟩ rfl (g := (mkF m 246 #[sJ q1, sS, sJ q2, sS, sJ q3, sS, sJ q4, sS, sJ q5, sS, sI p6, sI wi, sR wd, sJ mu, sS, sI 2, sI mo, sR sa, sR b242, sU, sU, sU, sU] [(.int (0 : Int32)), (.ref sa), (.int (0 : Int32)), (.ref b242)])) rfl rfl (hb hby at_246)) ?_
    obtain ⟨T244, h244, X244, e244, W244, V244, st244⟩ := own_stJ X242 hx hZ e242 V242 (j := (0 : Int32)) ⟨by decide, by decide⟩ 0 rfl (Nat.le_of_ble_eq_true rfl) (g := (mkF m 247 #[sJ q1, sS, sJ q2, sS, sJ q3, sS, sJ q4, sS, sJ q5, sS, sI p6, sI wi, sR wd, sJ mu, sS, sI 2, sI mo, sR sa, sR b242, sU, sU, sU, sU] [(.long y0), (.int (0 : Int32)), (.ref b242)])) rfl rfl (hb hby at_247)
    have N244 := Fr.snoc X244 Nj gz242
    have V244 : Arv Z h244 b242 k242 .long (2 : Int32) [(.long y0), (.long (0 : Int64))] (.long (0 : Int64)) := V244
    have O244 : Ext Z.heap h244 := own_Ext.wr O242 W244 gz242
    refine Go.st (S' := T244.setTop (mkF m 248 #[sJ q1, sS, sJ q2, sS, sJ q3, sS, sJ q4, sS, sJ q5, sS, sI p6, sI wi, sR wd, sJ mu, sS, sI 2, sI mo, sR sa, sR b242, sU, sU, sU, sU] [])) st244 ?_
    refine Go.st (fun _ k => XS.iload X244.here hx rfl (hb hby at_248) rfl k) ?_
    refine Go.st (S' := T244.setTop (mkF m 251 #[sJ q1, sS, sJ q2, sS, sJ q3, sS, sJ q4, sS, sJ q5, sS, sI p6, sI wi, sR wd, sJ mu, sS, sI 2, sI mo, sR sa, sR b242, sU, sU, sU, sU] [(.int (1 : Int32)), (.int (2 : Int32))])) (fun _ k => XS.iconst X244.here hx rfl (hb hby at_250) k) ?_
    refine Go.st (fun _ k => XS.icmpNo X244.here hx rfl (hb hby at_251) rfl (tlt (by decide)).2.2.2 k) ?_
    refine Go.st (fun _ k => XS.aload X244.here hx rfl (hb hby at_254) rfl rfl k) ?_
    refine Go.st (fun _ k => XS.iconst X244.here hx rfl (hb hby at_256) k) ?_
    refine Go.st (fun _ k => XS.aload X244.here hx rfl (hb hby at_257) rfl rfl k) ?_
    refine Go.st (S' := T244.setTop (mkF m 260 #[sJ q1, sS, sJ q2, sS, sJ q3, sS, sJ q4, sS, sJ q5, sS, sI p6, sI wi, sR wd, sJ mu, sS, sI 2, sI mo, sR sa, sR b242, sU, sU, sU, sU] [(.int (1 : Int32)), (.ref sa), (.int (1 : Int32)), (.ref b242)])) (fun _ k => XS.iconst X244.here hx rfl (hb hby at_259) k) ?_
    refine Go.st (S' := T244.setTop (mkF m 261 #[sJ q1, sS, sJ q2, sS, sJ q3, sS, sJ q4, sS, sJ q5, sS, sI p6, sI wi, sR wd, sJ mu, sS, sI 2, sI mo, sR sa, sR b242, sU, sU, sU, sU] [(.long y1), (.int (1 : Int32)), (.ref b242)])) (own_ldJ X244 hx hZ e244 ((Vsa.ext E242).other W244 ne_sa_b242) ⟨by decide, by decide⟩ rfl (g := (mkF m 260 #[sJ q1, sS, sJ q2, sS, sJ q3, sS, sJ q4, sS, sJ q5, sS, sI p6, sI wi, sR wd, sJ mu, sS, sI 2, sI mo, sR sa, sR b242, sU, sU, sU, sU] [(.int (1 : Int32)), (.ref sa), (.int (1 : Int32)), (.ref b242)])) rfl rfl (hb hby at_260)) ?_
    obtain ⟨T246, h246, X246, e246, W246, V246, st246⟩ := own_stJ X244 hx hZ e244 V244 (j := (1 : Int32)) ⟨by decide, by decide⟩ 1 rfl (Nat.le_of_ble_eq_true rfl) (g := (mkF m 261 #[sJ q1, sS, sJ q2, sS, sJ q3, sS, sJ q4, sS, sJ q5, sS, sI p6, sI wi, sR wd, sJ mu, sS, sI 2, sI mo, sR sa, sR b242, sU, sU, sU, sU] [(.long y1), (.int (1 : Int32)), (.ref b242)])) rfl rfl (hb hby at_261)
    have N246 := Fr.snoc X246 N244 gz242
    have V246 : Arv Z h246 b242 k242 .long (2 : Int32) [(.long y0), (.long y1)] (.long (0 : Int64)) := V246
    have O246 : Ext Z.heap h246 := own_Ext.wr O244 W246 gz242
    refine Go.st (S' := T246.setTop (mkF m 262 #[sJ q1, sS, sJ q2, sS, sJ q3, sS, sJ q4, sS, sJ q5, sS, sI p6, sI wi, sR wd, sJ mu, sS, sI 2, sI mo, sR sa, sR b242, sU, sU, sU, sU] [])) st246 ?_
    refine Go.st (fun _ k => XS.iload X246.here hx rfl (hb hby at_262) rfl k) ?_
    refine Go.st (S' := T246.setTop (mkF m 265 #[sJ q1, sS, sJ q2, sS, sJ q3, sS, sJ q4, sS, sJ q5, sS, sI p6, sI wi, sR wd, sJ mu, sS, sI 2, sI mo, sR sa, sR b242, sU, sU, sU, sU] [(.int (2 : Int32)), (.int (2 : Int32))])) (fun _ k => XS.iconst X246.here hx rfl (hb hby at_264) k) ?_
    refine Go.st (fun _ k => XS.icmpYes X246.here hx rfl (pc0 := 265) (pc' := 276) rfl (hb hby at_265) rfl (flt (by decide)).2.2.2 (by decide) (by decide) k) ?_
    refine Go.st (fun _ k => XS.iload X246.here hx rfl (hb hby at_276) rfl k) ?_
    refine Go.st (S' := T246.setTop (mkF m 279 #[sJ q1, sS, sJ q2, sS, sJ q3, sS, sJ q4, sS, sJ q5, sS, sI p6, sI wi, sR wd, sJ mu, sS, sI 2, sI mo, sR sa, sR b242, sU, sU, sU, sU] [(.int (3 : Int32)), (.int (2 : Int32))])) (fun _ k => XS.iconst X246.here hx rfl (hb hby at_278) k) ?_
    refine Go.st (fun _ k => XS.icmpYes X246.here hx rfl (pc0 := 279) (pc' := 290) rfl (hb hby at_279) rfl (flt (by decide)).2.2.2 (by decide) (by decide) k) ?_
    refine Go.st (fun _ k => XS.iload X246.here hx rfl (hb hby at_290) rfl k) ?_
    refine Go.st (S' := T246.setTop (mkF m 293 #[sJ q1, sS, sJ q2, sS, sJ q3, sS, sJ q4, sS, sJ q5, sS, sI p6, sI wi, sR wd, sJ mu, sS, sI 2, sI mo, sR sa, sR b242, sU, sU, sU, sU] [(.int (4 : Int32)), (.int (2 : Int32))])) (fun _ k => XS.iconst X246.here hx rfl (hb hby at_292) k) ?_
    refine Go.st (fun _ k => XS.icmpYes X246.here hx rfl (pc0 := 293) (pc' := 304) rfl (hb hby at_293) rfl (flt (by decide)).2.2.2 (by decide) (by decide) k) ?_
    refine Go.st (fun _ k => XS.iload X246.here hx rfl (hb hby at_304) rfl k) ?_
    refine Go.st (S' := T246.setTop (mkF m 307 #[sJ q1, sS, sJ q2, sS, sJ q3, sS, sJ q4, sS, sJ q5, sS, sI p6, sI wi, sR wd, sJ mu, sS, sI 2, sI mo, sR sa, sR b242, sU, sU, sU, sU] [(.int (5 : Int32)), (.int (2 : Int32))])) (fun _ k => XS.iconst X246.here hx rfl (hb hby at_306) k) ?_
    refine Go.st (S' := T246.setTop (mkF m 318 #[sJ q1, sS, sJ q2, sS, sJ q3, sS, sJ q4, sS, sJ q5, sS, sI p6, sI wi, sR wd, sJ mu, sS, sI 2, sI mo, sR sa, sR b242, sU, sU, sU, sU] [])) (fun _ k => XS.icmpYes X246.here hx rfl (pc0 := 307) (pc' := 318) rfl (hb hby at_307) rfl (flt (by decide)).2.2.2 (by decide) (by decide) k) ?_
    have hall : ∀ x ∈ ([y0, y1] : List Int64), U x < DD := by
      intro x hx_
      simp only [List.mem_cons, List.not_mem_nil, or_false] at hx_
      rcases hx_ with rfl | rfl
      · exact bd0
      · exact bd1
    have hso : Srt [y0, y1] := by unfold Srt; simp <;> omega
    exact rC l Z a0 hw w_BITS_32 w_BITS_64 hS q1 q2 q3 q4 q5 p6 p e s m below meth c ⟨hx, hby, hml, hown, hnm, hret, hlk, hZ⟩ _ _ _ (X246.mono (by decide) (by decide)) e246 N246 O246 _ _ _ _ _ _ (2 : Int32) (31 : Int32) (1 : Int32) (Wd - 1) (2 : Int32) 2 [y0, y1] _ _ _ (((Ewd.ext E242).wr W244).wr W246) (((Fwd.ext E242).other W244 (Or.inl ne_wd_b242)).other W246 (Or.inl ne_wd_b242)) V246 hM hmu rfl (Nat.le_of_ble_eq_true rfl) (by decide) (by decide) rfl (by decide) (own_sf hM).1 (by decide) (by decide) hso hall (own_BM hM).1
  · obtain ⟨T247, h247, k247, X247, e247, E247, A247, Ea247, st247⟩ := newPE Xj hx hZ (ww hw 4 rfl) ej (g := (mkF m 231 #[sJ q1, sS, sJ q2, sS, sJ q3, sS, sJ q4, sS, sJ q5, sS, sI p6, sI wi, sR wd, sJ mu, sS, sI 3, sI mo, sR sa, sU, sU, sU, sU, sU] [(.int (3 : Int32))])) rfl (hb hby at_231) rfl (by decide) (cap := 3) (by decide) (by decide) (by decide) (by decide) (ad := "[J") (by decide)
    obtain ⟨b247, g247⟩ : ∃ z, z = hj.size := ⟨_, rfl⟩
    rw [← g247] at A247 Ea247 st247
    have gz247 : Z.heap.size ≤ b247 := Nat.le_trans Oj.1 (Nat.le_of_eq g247.symm)
    have ne_wd_b247 : wd ≠ b247 := own_lt_ne Ewd.lt g247
    have ne_sa_b247 : sa ≠ b247 := own_lt_ne Vsa.lt g247
    have O247 : Ext Z.heap h247 := own_Ext.trans Oj E247
    have V247 : Arv Z h247 b247 k247 .long (3 : Int32) [(.long (0 : Int64)), (.long (0 : Int64)), (.long (0 : Int64))] (.long (0 : Int64)) := (Arv.new A247 (by decide)).pad (pad_rep [] (.long (0 : Int64)) 3)
    refine Go.st (S' := T247.setTop (mkF m 233 #[sJ q1, sS, sJ q2, sS, sJ q3, sS, sJ q4, sS, sJ q5, sS, sI p6, sI wi, sR wd, sJ mu, sS, sI 3, sI mo, sR sa, sU, sU, sU, sU, sU] [(.ref b247)])) st247 ?_
    refine Go.st (fun _ k => XS.astore X247.here hx rfl (hb hby at_233) rfl rfl (l' := #[sJ q1, sS, sJ q2, sS, sJ q3, sS, sJ q4, sS, sJ q5, sS, sI p6, sI wi, sR wd, sJ mu, sS, sI 3, sI mo, sR sa, sR b247, sU, sU, sU, sU]) rfl k) ?_
    refine Go.st (S' := T247.setTop (mkF m 237 #[sJ q1, sS, sJ q2, sS, sJ q3, sS, sJ q4, sS, sJ q5, sS, sI p6, sI wi, sR wd, sJ mu, sS, sI 3, sI mo, sR sa, sR b247, sU, sU, sU, sU] [(.int (3 : Int32))])) (fun _ k => XS.iload X247.here hx rfl (hb hby at_235) rfl k) ?_
    refine Go.st (fun _ k => XS.ifNo X247.here hx rfl (hb hby at_237) rfl ((if0 _ _).trans (tlt (by decide)).2.2.2) k) ?_
    refine Go.st (fun _ k => XS.aload X247.here hx rfl (hb hby at_240) rfl rfl k) ?_
    refine Go.st (fun _ k => XS.iconst X247.here hx rfl (hb hby at_242) k) ?_
    refine Go.st (fun _ k => XS.aload X247.here hx rfl (hb hby at_243) rfl rfl k) ?_
    refine Go.st (S' := T247.setTop (mkF m 246 #[sJ q1, sS, sJ q2, sS, sJ q3, sS, sJ q4, sS, sJ q5, sS, sI p6, sI wi, sR wd, sJ mu, sS, sI 3, sI mo, sR sa, sR b247, sU, sU, sU, sU] [(.int (0 : Int32)), (.ref sa), (.int (0 : Int32)), (.ref b247)])) (fun _ k => XS.iconst X247.here hx rfl (hb hby at_245) k) ?_
    refine Go.st (S' := T247.setTop (mkF m 247 #[sJ q1, sS, sJ q2, sS, sJ q3, sS, sJ q4, sS, sJ q5, sS, sI p6, sI wi, sR wd, sJ mu, sS, sI 3, sI mo, sR sa, sR b247, sU, sU, sU, sU] [(.long y0), (.int (0 : Int32)), (.ref b247)])) (own_ldJ X247 hx hZ e247 (Vsa.ext E247) ⟨by decide, by decide⟩ rfl (g := (mkF m 246 #[sJ q1, sS, sJ q2, sS, sJ q3, sS, sJ q4, sS, sJ q5, sS, sI p6, sI wi, sR wd, sJ mu, sS, sI 3, sI mo, sR sa, sR b247, sU, sU, sU, sU] [(.int (0 : Int32)), (.ref sa), (.int (0 : Int32)), (.ref b247)])) rfl rfl (hb hby at_246)) ?_
    obtain ⟨T249, h249, X249, e249, W249, V249, st249⟩ := own_stJ X247 hx hZ e247 V247 (j := (0 : Int32)) ⟨by decide, by decide⟩ 0 rfl (Nat.le_of_ble_eq_true rfl) (g := (mkF m 247 #[sJ q1, sS, sJ q2, sS, sJ q3, sS, sJ q4, sS, sJ q5, sS, sI p6, sI wi, sR wd, sJ mu, sS, sI 3, sI mo, sR sa, sR b247, sU, sU, sU, sU] [(.long y0), (.int (0 : Int32)), (.ref b247)])) rfl rfl (hb hby at_247)
    have N249 := Fr.snoc X249 Nj gz247
    have V249 : Arv Z h249 b247 k247 .long (3 : Int32) [(.long y0), (.long (0 : Int64)), (.long (0 : Int64))] (.long (0 : Int64)) := V249
    have O249 : Ext Z.heap h249 := own_Ext.wr O247 W249 gz247
    refine Go.st (S' := T249.setTop (mkF m 248 #[sJ q1, sS, sJ q2, sS, sJ q3, sS, sJ q4, sS, sJ q5, sS, sI p6, sI wi, sR wd, sJ mu, sS, sI 3, sI mo, sR sa, sR b247, sU, sU, sU, sU] [])) st249 ?_
    refine Go.st (fun _ k => XS.iload X249.here hx rfl (hb hby at_248) rfl k) ?_
    refine Go.st (S' := T249.setTop (mkF m 251 #[sJ q1, sS, sJ q2, sS, sJ q3, sS, sJ q4, sS, sJ q5, sS, sI p6, sI wi, sR wd, sJ mu, sS, sI 3, sI mo, sR sa, sR b247, sU, sU, sU, sU] [(.int (1 : Int32)), (.int (3 : Int32))])) (fun _ k => XS.iconst X249.here hx rfl (hb hby at_250) k) ?_
    refine Go.st (fun _ k => XS.icmpNo X249.here hx rfl (hb hby at_251) rfl (tlt (by decide)).2.2.2 k) ?_
    refine Go.st (fun _ k => XS.aload X249.here hx rfl (hb hby at_254) rfl rfl k) ?_
    refine Go.st (fun _ k => XS.iconst X249.here hx rfl (hb hby at_256) k) ?_
    refine Go.st (fun _ k => XS.aload X249.here hx rfl (hb hby at_257) rfl rfl k) ?_
    refine Go.st (S' := T249.setTop (mkF m 260 #[sJ q1, sS, sJ q2, sS, sJ q3, sS, sJ q4, sS, sJ q5, sS, sI p6, sI wi, sR wd, sJ mu, sS, sI 3, sI mo, sR sa, sR b247, sU, sU, sU, sU] [(.int (1 : Int32)), (.ref sa), (.int (1 : Int32)), (.ref b247)])) (fun _ k => XS.iconst X249.here hx rfl (hb hby at_259) k) ?_
    refine Go.st (S' := T249.setTop (mkF m 261 #[sJ q1, sS, sJ q2, sS, sJ q3, sS, sJ q4, sS, sJ q5, sS, sI p6, sI wi, sR wd, sJ mu, sS, sI 3, sI mo, sR sa, sR b247, sU, sU, sU, sU] [(.long y1), (.int (1 : Int32)), (.ref b247)])) (own_ldJ X249 hx hZ e249 ((Vsa.ext E247).other W249 ne_sa_b247) ⟨by decide, by decide⟩ rfl (g := (mkF m 260 #[sJ q1, sS, sJ q2, sS, sJ q3, sS, sJ q4, sS, sJ q5, sS, sI p6, sI wi, sR wd, sJ mu, sS, sI 3, sI mo, sR sa, sR b247, sU, sU, sU, sU] [(.int (1 : Int32)), (.ref sa), (.int (1 : Int32)), (.ref b247)])) rfl rfl (hb hby at_260)) ?_
    obtain ⟨T251, h251, X251, e251, W251, V251, st251⟩ := own_stJ X249 hx hZ e249 V249 (j := (1 : Int32)) ⟨by decide, by decide⟩ 1 rfl (Nat.le_of_ble_eq_true rfl) (g := (mkF m 261 #[sJ q1, sS, sJ q2, sS, sJ q3, sS, sJ q4, sS, sJ q5, sS, sI p6, sI wi, sR wd, sJ mu, sS, sI 3, sI mo, sR sa, sR b247, sU, sU, sU, sU] [(.long y1), (.int (1 : Int32)), (.ref b247)])) rfl rfl (hb hby at_261)
    have N251 := Fr.snoc X251 N249 gz247
    have V251 : Arv Z h251 b247 k247 .long (3 : Int32) [(.long y0), (.long y1), (.long (0 : Int64))] (.long (0 : Int64)) := V251
    have O251 : Ext Z.heap h251 := own_Ext.wr O249 W251 gz247
    refine Go.st (S' := T251.setTop (mkF m 262 #[sJ q1, sS, sJ q2, sS, sJ q3, sS, sJ q4, sS, sJ q5, sS, sI p6, sI wi, sR wd, sJ mu, sS, sI 3, sI mo, sR sa, sR b247, sU, sU, sU, sU] [])) st251 ?_
    refine Go.st (fun _ k => XS.iload X251.here hx rfl (hb hby at_262) rfl k) ?_
    refine Go.st (S' := T251.setTop (mkF m 265 #[sJ q1, sS, sJ q2, sS, sJ q3, sS, sJ q4, sS, sJ q5, sS, sI p6, sI wi, sR wd, sJ mu, sS, sI 3, sI mo, sR sa, sR b247, sU, sU, sU, sU] [(.int (2 : Int32)), (.int (3 : Int32))])) (fun _ k => XS.iconst X251.here hx rfl (hb hby at_264) k) ?_
    refine Go.st (fun _ k => XS.icmpNo X251.here hx rfl (hb hby at_265) rfl (tlt (by decide)).2.2.2 k) ?_
    refine Go.st (fun _ k => XS.aload X251.here hx rfl (hb hby at_268) rfl rfl k) ?_
    refine Go.st (fun _ k => XS.iconst X251.here hx rfl (hb hby at_270) k) ?_
    refine Go.st (fun _ k => XS.aload X251.here hx rfl (hb hby at_271) rfl rfl k) ?_
    refine Go.st (S' := T251.setTop (mkF m 274 #[sJ q1, sS, sJ q2, sS, sJ q3, sS, sJ q4, sS, sJ q5, sS, sI p6, sI wi, sR wd, sJ mu, sS, sI 3, sI mo, sR sa, sR b247, sU, sU, sU, sU] [(.int (2 : Int32)), (.ref sa), (.int (2 : Int32)), (.ref b247)])) (fun _ k => XS.iconst X251.here hx rfl (hb hby at_273) k) ?_
    refine Go.st (S' := T251.setTop (mkF m 275 #[sJ q1, sS, sJ q2, sS, sJ q3, sS, sJ q4, sS, sJ q5, sS, sI p6, sI wi, sR wd, sJ mu, sS, sI 3, sI mo, sR sa, sR b247, sU, sU, sU, sU] [(.long y2), (.int (2 : Int32)), (.ref b247)])) (own_ldJ X251 hx hZ e251 (((Vsa.ext E247).other W249 ne_sa_b247).other W251 ne_sa_b247) ⟨by decide, by decide⟩ rfl (g := (mkF m 274 #[sJ q1, sS, sJ q2, sS, sJ q3, sS, sJ q4, sS, sJ q5, sS, sI p6, sI wi, sR wd, sJ mu, sS, sI 3, sI mo, sR sa, sR b247, sU, sU, sU, sU] [(.int (2 : Int32)), (.ref sa), (.int (2 : Int32)), (.ref b247)])) rfl rfl (hb hby at_274)) ?_
    obtain ⟨T253, h253, X253, e253, W253, V253, st253⟩ := own_stJ X251 hx hZ e251 V251 (j := (2 : Int32)) ⟨by decide, by decide⟩ 2 rfl (Nat.le_of_ble_eq_true rfl) (g := (mkF m 275 #[sJ q1, sS, sJ q2, sS, sJ q3, sS, sJ q4, sS, sJ q5, sS, sI p6, sI wi, sR wd, sJ mu, sS, sI 3, sI mo, sR sa, sR b247, sU, sU, sU, sU] [(.long y2), (.int (2 : Int32)), (.ref b247)])) rfl rfl (hb hby at_275)
    have N253 := Fr.snoc X253 N251 gz247
    have V253 : Arv Z h253 b247 k247 .long (3 : Int32) [(.long y0), (.long y1), (.long y2)] (.long (0 : Int64)) := V253
    have O253 : Ext Z.heap h253 := own_Ext.wr O251 W253 gz247
    refine Go.st (S' := T253.setTop (mkF m 276 #[sJ q1, sS, sJ q2, sS, sJ q3, sS, sJ q4, sS, sJ q5, sS, sI p6, sI wi, sR wd, sJ mu, sS, sI 3, sI mo, sR sa, sR b247, sU, sU, sU, sU] [])) st253 ?_
    refine Go.st (fun _ k => XS.iload X253.here hx rfl (hb hby at_276) rfl k) ?_
    refine Go.st (S' := T253.setTop (mkF m 279 #[sJ q1, sS, sJ q2, sS, sJ q3, sS, sJ q4, sS, sJ q5, sS, sI p6, sI wi, sR wd, sJ mu, sS, sI 3, sI mo, sR sa, sR b247, sU, sU, sU, sU] [(.int (3 : Int32)), (.int (3 : Int32))])) (fun _ k => XS.iconst X253.here hx rfl (hb hby at_278) k) ?_
    refine Go.st (fun _ k => XS.icmpYes X253.here hx rfl (pc0 := 279) (pc' := 290) rfl (hb hby at_279) rfl (flt (by decide)).2.2.2 (by decide) (by decide) k) ?_
    refine Go.st (fun _ k => XS.iload X253.here hx rfl (hb hby at_290) rfl k) ?_
    refine Go.st (S' := T253.setTop (mkF m 293 #[sJ q1, sS, sJ q2, sS, sJ q3, sS, sJ q4, sS, sJ q5, sS, sI p6, sI wi, sR wd, sJ mu, sS, sI 3, sI mo, sR sa, sR b247, sU, sU, sU, sU] [(.int (4 : Int32)), (.int (3 : Int32))])) (fun _ k => XS.iconst X253.here hx rfl (hb hby at_292) k) ?_
    refine Go.st (fun _ k => XS.icmpYes X253.here hx rfl (pc0 := 293) (pc' := 304) rfl (hb hby at_293) rfl (flt (by decide)).2.2.2 (by decide) (by decide) k) ?_
    refine Go.st (fun _ k => XS.iload X253.here hx rfl (hb hby at_304) rfl k) ?_
    refine Go.st (S' := T253.setTop (mkF m 307 #[sJ q1, sS, sJ q2, sS, sJ q3, sS, sJ q4, sS, sJ q5, sS, sI p6, sI wi, sR wd, sJ mu, sS, sI 3, sI mo, sR sa, sR b247, sU, sU, sU, sU] [(.int (5 : Int32)), (.int (3 : Int32))])) (fun _ k => XS.iconst X253.here hx rfl (hb hby at_306) k) ?_
    refine Go.st (S' := T253.setTop (mkF m 318 #[sJ q1, sS, sJ q2, sS, sJ q3, sS, sJ q4, sS, sJ q5, sS, sI p6, sI wi, sR wd, sJ mu, sS, sI 3, sI mo, sR sa, sR b247, sU, sU, sU, sU] [])) (fun _ k => XS.icmpYes X253.here hx rfl (pc0 := 307) (pc' := 318) rfl (hb hby at_307) rfl (flt (by decide)).2.2.2 (by decide) (by decide) k) ?_
    have hall : ∀ x ∈ ([y0, y1, y2] : List Int64), U x < DD := by
      intro x hx_
      simp only [List.mem_cons, List.not_mem_nil, or_false] at hx_
      rcases hx_ with rfl | rfl | rfl
      · exact bd0
      · exact bd1
      · exact bd2
    have hso : Srt [y0, y1, y2] := by unfold Srt; simp <;> omega
    exact rC l Z a0 hw w_BITS_32 w_BITS_64 hS q1 q2 q3 q4 q5 p6 p e s m below meth c ⟨hx, hby, hml, hown, hnm, hret, hlk, hZ⟩ _ _ _ (X253.mono (by decide) (by decide)) e253 N253 O253 _ _ _ _ _ _ (3 : Int32) (30 : Int32) (1 : Int32) (Wd - 1) (2 : Int32) 2 [y0, y1, y2] _ _ _ ((((Ewd.ext E247).wr W249).wr W251).wr W253) ((((Fwd.ext E247).other W249 (Or.inl ne_wd_b247)).other W251 (Or.inl ne_wd_b247)).other W253 (Or.inl ne_wd_b247)) V253 hM hmu rfl (Nat.le_of_ble_eq_true rfl) (by decide) (by decide) rfl (by decide) (own_sf hM).1 (by decide) (by decide) hso hall (own_BM hM).1
  · obtain ⟨T254, h254, k254, X254, e254, E254, A254, Ea254, st254⟩ := newPE Xj hx hZ (ww hw 4 rfl) ej (g := (mkF m 231 #[sJ q1, sS, sJ q2, sS, sJ q3, sS, sJ q4, sS, sJ q5, sS, sI p6, sI wi, sR wd, sJ mu, sS, sI 4, sI mo, sR sa, sU, sU, sU, sU, sU] [(.int (4 : Int32))])) rfl (hb hby at_231) rfl (by decide) (cap := 4) (by decide) (by decide) (by decide) (by decide) (ad := "[J") (by decide)
    obtain ⟨b254, g254⟩ : ∃ z, z = hj.size := ⟨_, rfl⟩
    rw [← g254] at A254 Ea254 st254
    have gz254 : Z.heap.size ≤ b254 := Nat.le_trans Oj.1 (Nat.le_of_eq g254.symm)
    have ne_wd_b254 : wd ≠ b254 := own_lt_ne Ewd.lt g254
    have ne_sa_b254 : sa ≠ b254 := own_lt_ne Vsa.lt g254
    have O254 : Ext Z.heap h254 := own_Ext.trans Oj E254
    have V254 : Arv Z h254 b254 k254 .long (4 : Int32) [(.long (0 : Int64)), (.long (0 : Int64)), (.long (0 : Int64)), (.long (0 : Int64))] (.long (0 : Int64)) := (Arv.new A254 (by decide)).pad (pad_rep [] (.long (0 : Int64)) 4)
    refine Go.st (S' := T254.setTop (mkF m 233 #[sJ q1, sS, sJ q2, sS, sJ q3, sS, sJ q4, sS, sJ q5, sS, sI p6, sI wi, sR wd, sJ mu, sS, sI 4, sI mo, sR sa, sU, sU, sU, sU, sU] [(.ref b254)])) st254 ?_
    refine Go.st (fun _ k => XS.astore X254.here hx rfl (hb hby at_233) rfl rfl (l' := #[sJ q1, sS, sJ q2, sS, sJ q3, sS, sJ q4, sS, sJ q5, sS, sI p6, sI wi, sR wd, sJ mu, sS, sI 4, sI mo, sR sa, sR b254, sU, sU, sU, sU]) rfl k) ?_
    refine Go.st (S' := T254.setTop (mkF m 237 #[sJ q1, sS, sJ q2, sS, sJ q3, sS, sJ q4, sS, sJ q5, sS, sI p6, sI wi, sR wd, sJ mu, sS, sI 4, sI mo, sR sa, sR b254, sU, sU, sU, sU] [(.int (4 : Int32))])) (fun _ k => XS.iload X254.here hx rfl (hb hby at_235) rfl k) ?_
    refine Go.st (fun _ k => XS.ifNo X254.here hx rfl (hb hby at_237) rfl ((if0 _ _).trans (tlt (by decide)).2.2.2) k) ?_
    refine Go.st (fun _ k => XS.aload X254.here hx rfl (hb hby at_240) rfl rfl k) ?_
    refine Go.st (fun _ k => XS.iconst X254.here hx rfl (hb hby at_242) k) ?_
    refine Go.st (fun _ k => XS.aload X254.here hx rfl (hb hby at_243) rfl rfl k) ?_
    refine Go.st (S' := T254.setTop (mkF m 246 #[sJ q1, sS, sJ q2, sS, sJ q3, sS, sJ q4, sS, sJ q5, sS, sI p6, sI wi, sR wd, sJ mu, sS, sI 4, sI mo, sR sa, sR b254, sU, sU, sU, sU] [(.int (0 : Int32)), (.ref sa), (.int (0 : Int32)), (.ref b254)])) (fun _ k => XS.iconst X254.here hx rfl (hb hby at_245) k) ?_
    refine Go.st (S' := T254.setTop (mkF m 247 #[sJ q1, sS, sJ q2, sS, sJ q3, sS, sJ q4, sS, sJ q5, sS, sI p6, sI wi, sR wd, sJ mu, sS, sI 4, sI mo, sR sa, sR b254, sU, sU, sU, sU] [(.long y0), (.int (0 : Int32)), (.ref b254)])) (own_ldJ X254 hx hZ e254 (Vsa.ext E254) ⟨by decide, by decide⟩ rfl (g := (mkF m 246 #[sJ q1, sS, sJ q2, sS, sJ q3, sS, sJ q4, sS, sJ q5, sS, sI p6, sI wi, sR wd, sJ mu, sS, sI 4, sI mo, sR sa, sR b254, sU, sU, sU, sU] [(.int (0 : Int32)), (.ref sa), (.int (0 : Int32)), (.ref b254)])) rfl rfl (hb hby at_246)) ?_
    obtain ⟨T256, h256, X256, e256, W256, V256, st256⟩ := own_stJ X254 hx hZ e254 V254 (j := (0 : Int32)) ⟨by decide, by decide⟩ 0 rfl (Nat.le_of_ble_eq_true rfl) (g := (mkF m 247 #[sJ q1, sS, sJ q2, sS, sJ q3, sS, sJ q4, sS, sJ q5, sS, sI p6, sI wi, sR wd, sJ mu, sS, sI 4, sI mo, sR sa, sR b254, sU, sU, sU, sU] [(.long y0), (.int (0 : Int32)), (.ref b254)])) rfl rfl (hb hby at_247)
    have N256 := Fr.snoc X256 Nj gz254
    have V256 : Arv Z h256 b254 k254 .long (4 : Int32) [(.long y0), (.long (0 : Int64)), (.long (0 : Int64)), (.long (0 : Int64))] (.long (0 : Int64)) := V256
    have O256 : Ext Z.heap h256 := own_Ext.wr O254 W256 gz254
    refine Go.st (S' := T256.setTop (mkF m 248 #[sJ q1, sS, sJ q2, sS, sJ q3, sS, sJ q4, sS, sJ q5, sS, sI p6, sI wi, sR wd, sJ mu, sS, sI 4, sI mo, sR sa, sR b254, sU, sU, sU, sU] [])) st256 ?_
    refine Go.st (fun _ k => XS.iload X256.here hx rfl (hb hby at_248) rfl k) ?_
    refine Go.st (S' := T256.setTop (mkF m 251 #[sJ q1, sS, sJ q2, sS, sJ q3, sS, sJ q4, sS, sJ q5, sS, sI p6, sI wi, sR wd, sJ mu, sS, sI 4, sI mo, sR sa, sR b254, sU, sU, sU, sU] [(.int (1 : Int32)), (.int (4 : Int32))])) (fun _ k => XS.iconst X256.here hx rfl (hb hby at_250) k) ?_
    refine Go.st (fun _ k => XS.icmpNo X256.here hx rfl (hb hby at_251) rfl (tlt (by decide)).2.2.2 k) ?_
    refine Go.st (fun _ k => XS.aload X256.here hx rfl (hb hby at_254) rfl rfl k) ?_
    refine Go.st (fun _ k => XS.iconst X256.here hx rfl (hb hby at_256) k) ?_
    refine Go.st (fun _ k => XS.aload X256.here hx rfl (hb hby at_257) rfl rfl k) ?_
    refine Go.st (S' := T256.setTop (mkF m 260 #[sJ q1, sS, sJ q2, sS, sJ q3, sS, sJ q4, sS, sJ q5, sS, sI p6, sI wi, sR wd, sJ mu, sS, sI 4, sI mo, sR sa, sR b254, sU, sU, sU, sU] [(.int (1 : Int32)), (.ref sa), (.int (1 : Int32)), (.ref b254)])) (fun _ k => XS.iconst X256.here hx rfl (hb hby at_259) k) ?_
    refine Go.st (S' := T256.setTop (mkF m 261 #[sJ q1, sS, sJ q2, sS, sJ q3, sS, sJ q4, sS, sJ q5, sS, sI p6, sI wi, sR wd, sJ mu, sS, sI 4, sI mo, sR sa, sR b254, sU, sU, sU, sU] [(.long y1), (.int (1 : Int32)), (.ref b254)])) (own_ldJ X256 hx hZ e256 ((Vsa.ext E254).other W256 ne_sa_b254) ⟨by decide, by decide⟩ rfl (g := (mkF m 260 #[sJ q1, sS, sJ q2, sS, sJ q3, sS, sJ q4, sS, sJ q5, sS, sI p6, sI wi, sR wd, sJ mu, sS, sI 4, sI mo, sR sa, sR b254, sU, sU, sU, sU] [(.int (1 : Int32)), (.ref sa), (.int (1 : Int32)), (.ref b254)])) rfl rfl (hb hby at_260)) ?_
    obtain ⟨T258, h258, X258, e258, W258, V258, st258⟩ := own_stJ X256 hx hZ e256 V256 (j := (1 : Int32)) ⟨by decide, by decide⟩ 1 rfl (Nat.le_of_ble_eq_true rfl) (g := (mkF m 261 #[sJ q1, sS, sJ q2, sS, sJ q3, sS, sJ q4, sS, sJ q5, sS, sI p6, sI wi, sR wd, sJ mu, sS, sI 4, sI mo, sR sa, sR b254, sU, sU, sU, sU] [(.long y1), (.int (1 : Int32)), (.ref b254)])) rfl rfl (hb hby at_261)
    have N258 := Fr.snoc X258 N256 gz254
    have V258 : Arv Z h258 b254 k254 .long (4 : Int32) [(.long y0), (.long y1), (.long (0 : Int64)), (.long (0 : Int64))] (.long (0 : Int64)) := V258
    have O258 : Ext Z.heap h258 := own_Ext.wr O256 W258 gz254
    refine Go.st (S' := T258.setTop (mkF m 262 #[sJ q1, sS, sJ q2, sS, sJ q3, sS, sJ q4, sS, sJ q5, sS, sI p6, sI wi, sR wd, sJ mu, sS, sI 4, sI mo, sR sa, sR b254, sU, sU, sU, sU] [])) st258 ?_
    refine Go.st (fun _ k => XS.iload X258.here hx rfl (hb hby at_262) rfl k) ?_
    refine Go.st (S' := T258.setTop (mkF m 265 #[sJ q1, sS, sJ q2, sS, sJ q3, sS, sJ q4, sS, sJ q5, sS, sI p6, sI wi, sR wd, sJ mu, sS, sI 4, sI mo, sR sa, sR b254, sU, sU, sU, sU] [(.int (2 : Int32)), (.int (4 : Int32))])) (fun _ k => XS.iconst X258.here hx rfl (hb hby at_264) k) ?_
    refine Go.st (fun _ k => XS.icmpNo X258.here hx rfl (hb hby at_265) rfl (tlt (by decide)).2.2.2 k) ?_
    refine Go.st (fun _ k => XS.aload X258.here hx rfl (hb hby at_268) rfl rfl k) ?_
    refine Go.st (fun _ k => XS.iconst X258.here hx rfl (hb hby at_270) k) ?_
    refine Go.st (fun _ k => XS.aload X258.here hx rfl (hb hby at_271) rfl rfl k) ?_
    refine Go.st (S' := T258.setTop (mkF m 274 #[sJ q1, sS, sJ q2, sS, sJ q3, sS, sJ q4, sS, sJ q5, sS, sI p6, sI wi, sR wd, sJ mu, sS, sI 4, sI mo, sR sa, sR b254, sU, sU, sU, sU] [(.int (2 : Int32)), (.ref sa), (.int (2 : Int32)), (.ref b254)])) (fun _ k => XS.iconst X258.here hx rfl (hb hby at_273) k) ?_
    refine Go.st (S' := T258.setTop (mkF m 275 #[sJ q1, sS, sJ q2, sS, sJ q3, sS, sJ q4, sS, sJ q5, sS, sI p6, sI wi, sR wd, sJ mu, sS, sI 4, sI mo, sR sa, sR b254, sU, sU, sU, sU] [(.long y2), (.int (2 : Int32)), (.ref b254)])) (own_ldJ X258 hx hZ e258 (((Vsa.ext E254).other W256 ne_sa_b254).other W258 ne_sa_b254) ⟨by decide, by decide⟩ rfl (g := (mkF m 274 #[sJ q1, sS, sJ q2, sS, sJ q3, sS, sJ q4, sS, sJ q5, sS, sI p6, sI wi, sR wd, sJ mu, sS, sI 4, sI mo, sR sa, sR b254, sU, sU, sU, sU] [(.int (2 : Int32)), (.ref sa), (.int (2 : Int32)), (.ref b254)])) rfl rfl (hb hby at_274)) ?_
    obtain ⟨T260, h260, X260, e260, W260, V260, st260⟩ := own_stJ X258 hx hZ e258 V258 (j := (2 : Int32)) ⟨by decide, by decide⟩ 2 rfl (Nat.le_of_ble_eq_true rfl) (g := (mkF m 275 #[sJ q1, sS, sJ q2, sS, sJ q3, sS, sJ q4, sS, sJ q5, sS, sI p6, sI wi, sR wd, sJ mu, sS, sI 4, sI mo, sR sa, sR b254, sU, sU, sU, sU] [(.long y2), (.int (2 : Int32)), (.ref b254)])) rfl rfl (hb hby at_275)
    have N260 := Fr.snoc X260 N258 gz254
    have V260 : Arv Z h260 b254 k254 .long (4 : Int32) [(.long y0), (.long y1), (.long y2), (.long (0 : Int64))] (.long (0 : Int64)) := V260
    have O260 : Ext Z.heap h260 := own_Ext.wr O258 W260 gz254
    refine Go.st (S' := T260.setTop (mkF m 276 #[sJ q1, sS, sJ q2, sS, sJ q3, sS, sJ q4, sS, sJ q5, sS, sI p6, sI wi, sR wd, sJ mu, sS, sI 4, sI mo, sR sa, sR b254, sU, sU, sU, sU] [])) st260 ?_
    refine Go.st (fun _ k => XS.iload X260.here hx rfl (hb hby at_276) rfl k) ?_
    refine Go.st (S' := T260.setTop (mkF m 279 #[sJ q1, sS, sJ q2, sS, sJ q3, sS, sJ q4, sS, sJ q5, sS, sI p6, sI wi, sR wd, sJ mu, sS, sI 4, sI mo, sR sa, sR b254, sU, sU, sU, sU] [(.int (3 : Int32)), (.int (4 : Int32))])) (fun _ k => XS.iconst X260.here hx rfl (hb hby at_278) k) ?_
    refine Go.st (fun _ k => XS.icmpNo X260.here hx rfl (hb hby at_279) rfl (tlt (by decide)).2.2.2 k) ?_
    refine Go.st (fun _ k => XS.aload X260.here hx rfl (hb hby at_282) rfl rfl k) ?_
    refine Go.st (fun _ k => XS.iconst X260.here hx rfl (hb hby at_284) k) ?_
    refine Go.st (fun _ k => XS.aload X260.here hx rfl (hb hby at_285) rfl rfl k) ?_
    refine Go.st (S' := T260.setTop (mkF m 288 #[sJ q1, sS, sJ q2, sS, sJ q3, sS, sJ q4, sS, sJ q5, sS, sI p6, sI wi, sR wd, sJ mu, sS, sI 4, sI mo, sR sa, sR b254, sU, sU, sU, sU] [(.int (3 : Int32)), (.ref sa), (.int (3 : Int32)), (.ref b254)])) (fun _ k => XS.iconst X260.here hx rfl (hb hby at_287) k) ?_
    refine Go.st (S' := T260.setTop (mkF m 289 #[sJ q1, sS, sJ q2, sS, sJ q3, sS, sJ q4, sS, sJ q5, sS, sI p6, sI wi, sR wd, sJ mu, sS, sI 4, sI mo, sR sa, sR b254, sU, sU, sU, sU] [(.long y3), (.int (3 : Int32)), (.ref b254)])) (own_ldJ X260 hx hZ e260 ((((Vsa.ext E254).other W256 ne_sa_b254).other W258 ne_sa_b254).other W260 ne_sa_b254) ⟨by decide, by decide⟩ rfl (g := (mkF m 288 #[sJ q1, sS, sJ q2, sS, sJ q3, sS, sJ q4, sS, sJ q5, sS, sI p6, sI wi, sR wd, sJ mu, sS, sI 4, sI mo, sR sa, sR b254, sU, sU, sU, sU] [(.int (3 : Int32)), (.ref sa), (.int (3 : Int32)), (.ref b254)])) rfl rfl (hb hby at_288)) ?_
    obtain ⟨T262, h262, X262, e262, W262, V262, st262⟩ := own_stJ X260 hx hZ e260 V260 (j := (3 : Int32)) ⟨by decide, by decide⟩ 3 rfl (Nat.le_of_ble_eq_true rfl) (g := (mkF m 289 #[sJ q1, sS, sJ q2, sS, sJ q3, sS, sJ q4, sS, sJ q5, sS, sI p6, sI wi, sR wd, sJ mu, sS, sI 4, sI mo, sR sa, sR b254, sU, sU, sU, sU] [(.long y3), (.int (3 : Int32)), (.ref b254)])) rfl rfl (hb hby at_289)
    have N262 := Fr.snoc X262 N260 gz254
    have V262 : Arv Z h262 b254 k254 .long (4 : Int32) [(.long y0), (.long y1), (.long y2), (.long y3)] (.long (0 : Int64)) := V262
    have O262 : Ext Z.heap h262 := own_Ext.wr O260 W262 gz254
    refine Go.st (S' := T262.setTop (mkF m 290 #[sJ q1, sS, sJ q2, sS, sJ q3, sS, sJ q4, sS, sJ q5, sS, sI p6, sI wi, sR wd, sJ mu, sS, sI 4, sI mo, sR sa, sR b254, sU, sU, sU, sU] [])) st262 ?_
    refine Go.st (fun _ k => XS.iload X262.here hx rfl (hb hby at_290) rfl k) ?_
    refine Go.st (S' := T262.setTop (mkF m 293 #[sJ q1, sS, sJ q2, sS, sJ q3, sS, sJ q4, sS, sJ q5, sS, sI p6, sI wi, sR wd, sJ mu, sS, sI 4, sI mo, sR sa, sR b254, sU, sU, sU, sU] [(.int (4 : Int32)), (.int (4 : Int32))])) (fun _ k => XS.iconst X262.here hx rfl (hb hby at_292) k) ?_
    refine Go.st (fun _ k => XS.icmpYes X262.here hx rfl (pc0 := 293) (pc' := 304) rfl (hb hby at_293) rfl (flt (by decide)).2.2.2 (by decide) (by decide) k) ?_
    refine Go.st (fun _ k => XS.iload X262.here hx rfl (hb hby at_304) rfl k) ?_
    refine Go.st (S' := T262.setTop (mkF m 307 #[sJ q1, sS, sJ q2, sS, sJ q3, sS, sJ q4, sS, sJ q5, sS, sI p6, sI wi, sR wd, sJ mu, sS, sI 4, sI mo, sR sa, sR b254, sU, sU, sU, sU] [(.int (5 : Int32)), (.int (4 : Int32))])) (fun _ k => XS.iconst X262.here hx rfl (hb hby at_306) k) ?_
    refine Go.st (S' := T262.setTop (mkF m 318 #[sJ q1, sS, sJ q2, sS, sJ q3, sS, sJ q4, sS, sJ q5, sS, sI p6, sI wi, sR wd, sJ mu, sS, sI 4, sI mo, sR sa, sR b254, sU, sU, sU, sU] [])) (fun _ k => XS.icmpYes X262.here hx rfl (pc0 := 307) (pc' := 318) rfl (hb hby at_307) rfl (flt (by decide)).2.2.2 (by decide) (by decide) k) ?_
    have hall : ∀ x ∈ ([y0, y1, y2, y3] : List Int64), U x < DD := by
      intro x hx_
      simp only [List.mem_cons, List.not_mem_nil, or_false] at hx_
      rcases hx_ with rfl | rfl | rfl | rfl
      · exact bd0
      · exact bd1
      · exact bd2
      · exact bd3
    have hso : Srt [y0, y1, y2, y3] := by unfold Srt; simp <;> omega
    exact rC l Z a0 hw w_BITS_32 w_BITS_64 hS q1 q2 q3 q4 q5 p6 p e s m below meth c ⟨hx, hby, hml, hown, hnm, hret, hlk, hZ⟩ _ _ _ (X262.mono (by decide) (by decide)) e262 N262 O262 _ _ _ _ _ _ (4 : Int32) (30 : Int32) (1 : Int32) (Wd - 1) (2 : Int32) 2 [y0, y1, y2, y3] _ _ _ (((((Ewd.ext E254).wr W256).wr W258).wr W260).wr W262) (((((Fwd.ext E254).other W256 (Or.inl ne_wd_b254)).other W258 (Or.inl ne_wd_b254)).other W260 (Or.inl ne_wd_b254)).other W262 (Or.inl ne_wd_b254)) V262 hM hmu rfl (Nat.le_of_ble_eq_true rfl) (by decide) (by decide) rfl (by decide) (own_sf hM).1 (by decide) (by decide) hso hall (own_BM hM).1
  · obtain ⟨T263, h263, k263, X263, e263, E263, A263, Ea263, st263⟩ := newPE Xj hx hZ (ww hw 4 rfl) ej (g := (mkF m 231 #[sJ q1, sS, sJ q2, sS, sJ q3, sS, sJ q4, sS, sJ q5, sS, sI p6, sI wi, sR wd, sJ mu, sS, sI 5, sI mo, sR sa, sU, sU, sU, sU, sU] [(.int (5 : Int32))])) rfl (hb hby at_231) rfl (by decide) (cap := 5) (by decide) (by decide) (by decide) (by decide) (ad := "[J") (by decide)
    obtain ⟨b263, g263⟩ : ∃ z, z = hj.size := ⟨_, rfl⟩
    rw [← g263] at A263 Ea263 st263
    have gz263 : Z.heap.size ≤ b263 := Nat.le_trans Oj.1 (Nat.le_of_eq g263.symm)
    have ne_wd_b263 : wd ≠ b263 := own_lt_ne Ewd.lt g263
    have ne_sa_b263 : sa ≠ b263 := own_lt_ne Vsa.lt g263
    have O263 : Ext Z.heap h263 := own_Ext.trans Oj E263
    have V263 : Arv Z h263 b263 k263 .long (5 : Int32) [(.long (0 : Int64)), (.long (0 : Int64)), (.long (0 : Int64)), (.long (0 : Int64)), (.long (0 : Int64))] (.long (0 : Int64)) := (Arv.new A263 (by decide)).pad (pad_rep [] (.long (0 : Int64)) 5)
    refine Go.st (S' := T263.setTop (mkF m 233 #[sJ q1, sS, sJ q2, sS, sJ q3, sS, sJ q4, sS, sJ q5, sS, sI p6, sI wi, sR wd, sJ mu, sS, sI 5, sI mo, sR sa, sU, sU, sU, sU, sU] [(.ref b263)])) st263 ?_
    refine Go.st (fun _ k => XS.astore X263.here hx rfl (hb hby at_233) rfl rfl (l' := #[sJ q1, sS, sJ q2, sS, sJ q3, sS, sJ q4, sS, sJ q5, sS, sI p6, sI wi, sR wd, sJ mu, sS, sI 5, sI mo, sR sa, sR b263, sU, sU, sU, sU]) rfl k) ?_
    refine Go.st (S' := T263.setTop (mkF m 237 #[sJ q1, sS, sJ q2, sS, sJ q3, sS, sJ q4, sS, sJ q5, sS, sI p6, sI wi, sR wd, sJ mu, sS, sI 5, sI mo, sR sa, sR b263, sU, sU, sU, sU] [(.int (5 : Int32))])) (fun _ k => XS.iload X263.here hx rfl (hb hby at_235) rfl k) ?_
    refine Go.st (fun _ k => XS.ifNo X263.here hx rfl (hb hby at_237) rfl ((if0 _ _).trans (tlt (by decide)).2.2.2) k) ?_
    refine Go.st (fun _ k => XS.aload X263.here hx rfl (hb hby at_240) rfl rfl k) ?_
    refine Go.st (fun _ k => XS.iconst X263.here hx rfl (hb hby at_242) k) ?_
    refine Go.st (fun _ k => XS.aload X263.here hx rfl (hb hby at_243) rfl rfl k) ?_
    refine Go.st (S' := T263.setTop (mkF m 246 #[sJ q1, sS, sJ q2, sS, sJ q3, sS, sJ q4, sS, sJ q5, sS, sI p6, sI wi, sR wd, sJ mu, sS, sI 5, sI mo, sR sa, sR b263, sU, sU, sU, sU] [(.int (0 : Int32)), (.ref sa), (.int (0 : Int32)), (.ref b263)])) (fun _ k => XS.iconst X263.here hx rfl (hb hby at_245) k) ?_
    refine Go.st (S' := T263.setTop (mkF m 247 #[sJ q1, sS, sJ q2, sS, sJ q3, sS, sJ q4, sS, sJ q5, sS, sI p6, sI wi, sR wd, sJ mu, sS, sI 5, sI mo, sR sa, sR b263, sU, sU, sU, sU] [(.long y0), (.int (0 : Int32)), (.ref b263)])) (own_ldJ X263 hx hZ e263 (Vsa.ext E263) ⟨by decide, by decide⟩ rfl (g := (mkF m 246 #[sJ q1, sS, sJ q2, sS, sJ q3, sS, sJ q4, sS, sJ q5, sS, sI p6, sI wi, sR wd, sJ mu, sS, sI 5, sI mo, sR sa, sR b263, sU, sU, sU, sU] [(.int (0 : Int32)), (.ref sa), (.int (0 : Int32)), (.ref b263)])) rfl rfl (hb hby at_246)) ?_
    obtain ⟨T265, h265, X265, e265, W265, V265, st265⟩ := own_stJ X263 hx hZ e263 V263 (j := (0 : Int32)) ⟨by decide, by decide⟩ 0 rfl (Nat.le_of_ble_eq_true rfl) (g := (mkF m 247 #[sJ q1, sS, sJ q2, sS, sJ q3, sS, sJ q4, sS, sJ q5, sS, sI p6, sI wi, sR wd, sJ mu, sS, sI 5, sI mo, sR sa, sR b263, sU, sU, sU, sU] [(.long y0), (.int (0 : Int32)), (.ref b263)])) rfl rfl (hb hby at_247)
    have N265 := Fr.snoc X265 Nj gz263
    have V265 : Arv Z h265 b263 k263 .long (5 : Int32) [(.long y0), (.long (0 : Int64)), (.long (0 : Int64)), (.long (0 : Int64)), (.long (0 : Int64))] (.long (0 : Int64)) := V265
    have O265 : Ext Z.heap h265 := own_Ext.wr O263 W265 gz263
    refine Go.st (S' := T265.setTop (mkF m 248 #[sJ q1, sS, sJ q2, sS, sJ q3, sS, sJ q4, sS, sJ q5, sS, sI p6, sI wi, sR wd, sJ mu, sS, sI 5, sI mo, sR sa, sR b263, sU, sU, sU, sU] [])) st265 ?_
    refine Go.st (fun _ k => XS.iload X265.here hx rfl (hb hby at_248) rfl k) ?_
    refine Go.st (S' := T265.setTop (mkF m 251 #[sJ q1, sS, sJ q2, sS, sJ q3, sS, sJ q4, sS, sJ q5, sS, sI p6, sI wi, sR wd, sJ mu, sS, sI 5, sI mo, sR sa, sR b263, sU, sU, sU, sU] [(.int (1 : Int32)), (.int (5 : Int32))])) (fun _ k => XS.iconst X265.here hx rfl (hb hby at_250) k) ?_
    refine Go.st (fun _ k => XS.icmpNo X265.here hx rfl (hb hby at_251) rfl (tlt (by decide)).2.2.2 k) ?_
    refine Go.st (fun _ k => XS.aload X265.here hx rfl (hb hby at_254) rfl rfl k) ?_
    refine Go.st (fun _ k => XS.iconst X265.here hx rfl (hb hby at_256) k) ?_
    refine Go.st (fun _ k => XS.aload X265.here hx rfl (hb hby at_257) rfl rfl k) ?_
    refine Go.st (S' := T265.setTop (mkF m 260 #[sJ q1, sS, sJ q2, sS, sJ q3, sS, sJ q4, sS, sJ q5, sS, sI p6, sI wi, sR wd, sJ mu, sS, sI 5, sI mo, sR sa, sR b263, sU, sU, sU, sU] [(.int (1 : Int32)), (.ref sa), (.int (1 : Int32)), (.ref b263)])) (fun _ k => XS.iconst X265.here hx rfl (hb hby at_259) k) ?_
    refine Go.st (S' := T265.setTop (mkF m 261 #[sJ q1, sS, sJ q2, sS, sJ q3, sS, sJ q4, sS, sJ q5, sS, sI p6, sI wi, sR wd, sJ mu, sS, sI 5, sI mo, sR sa, sR b263, sU, sU, sU, sU] [(.long y1), (.int (1 : Int32)), (.ref b263)])) (own_ldJ X265 hx hZ e265 ((Vsa.ext E263).other W265 ne_sa_b263) ⟨by decide, by decide⟩ rfl (g := (mkF m 260 #[sJ q1, sS, sJ q2, sS, sJ q3, sS, sJ q4, sS, sJ q5, sS, sI p6, sI wi, sR wd, sJ mu, sS, sI 5, sI mo, sR sa, sR b263, sU, sU, sU, sU] [(.int (1 : Int32)), (.ref sa), (.int (1 : Int32)), (.ref b263)])) rfl rfl (hb hby at_260)) ?_
    obtain ⟨T267, h267, X267, e267, W267, V267, st267⟩ := own_stJ X265 hx hZ e265 V265 (j := (1 : Int32)) ⟨by decide, by decide⟩ 1 rfl (Nat.le_of_ble_eq_true rfl) (g := (mkF m 261 #[sJ q1, sS, sJ q2, sS, sJ q3, sS, sJ q4, sS, sJ q5, sS, sI p6, sI wi, sR wd, sJ mu, sS, sI 5, sI mo, sR sa, sR b263, sU, sU, sU, sU] [(.long y1), (.int (1 : Int32)), (.ref b263)])) rfl rfl (hb hby at_261)
    have N267 := Fr.snoc X267 N265 gz263
    have V267 : Arv Z h267 b263 k263 .long (5 : Int32) [(.long y0), (.long y1), (.long (0 : Int64)), (.long (0 : Int64)), (.long (0 : Int64))] (.long (0 : Int64)) := V267
    have O267 : Ext Z.heap h267 := own_Ext.wr O265 W267 gz263
    refine Go.st (S' := T267.setTop (mkF m 262 #[sJ q1, sS, sJ q2, sS, sJ q3, sS, sJ q4, sS, sJ q5, sS, sI p6, sI wi, sR wd, sJ mu, sS, sI 5, sI mo, sR sa, sR b263, sU, sU, sU, sU] [])) st267 ?_
    refine Go.st (fun _ k => XS.iload X267.here hx rfl (hb hby at_262) rfl k) ?_
    refine Go.st (S' := T267.setTop (mkF m 265 #[sJ q1, sS, sJ q2, sS, sJ q3, sS, sJ q4, sS, sJ q5, sS, sI p6, sI wi, sR wd, sJ mu, sS, sI 5, sI mo, sR sa, sR b263, sU, sU, sU, sU] [(.int (2 : Int32)), (.int (5 : Int32))])) (fun _ k => XS.iconst X267.here hx rfl (hb hby at_264) k) ?_
    refine Go.st (fun _ k => XS.icmpNo X267.here hx rfl (hb hby at_265) rfl (tlt (by decide)).2.2.2 k) ?_
    refine Go.st (fun _ k => XS.aload X267.here hx rfl (hb hby at_268) rfl rfl k) ?_
    refine Go.st (fun _ k => XS.iconst X267.here hx rfl (hb hby at_270) k) ?_
    refine Go.st (fun _ k => XS.aload X267.here hx rfl (hb hby at_271) rfl rfl k) ?_
    refine Go.st (S' := T267.setTop (mkF m 274 #[sJ q1, sS, sJ q2, sS, sJ q3, sS, sJ q4, sS, sJ q5, sS, sI p6, sI wi, sR wd, sJ mu, sS, sI 5, sI mo, sR sa, sR b263, sU, sU, sU, sU] [(.int (2 : Int32)), (.ref sa), (.int (2 : Int32)), (.ref b263)])) (fun _ k => XS.iconst X267.here hx rfl (hb hby at_273) k) ?_
    refine Go.st (S' := T267.setTop (mkF m 275 #[sJ q1, sS, sJ q2, sS, sJ q3, sS, sJ q4, sS, sJ q5, sS, sI p6, sI wi, sR wd, sJ mu, sS, sI 5, sI mo, sR sa, sR b263, sU, sU, sU, sU] [(.long y2), (.int (2 : Int32)), (.ref b263)])) (own_ldJ X267 hx hZ e267 (((Vsa.ext E263).other W265 ne_sa_b263).other W267 ne_sa_b263) ⟨by decide, by decide⟩ rfl (g := (mkF m 274 #[sJ q1, sS, sJ q2, sS, sJ q3, sS, sJ q4, sS, sJ q5, sS, sI p6, sI wi, sR wd, sJ mu, sS, sI 5, sI mo, sR sa, sR b263, sU, sU, sU, sU] [(.int (2 : Int32)), (.ref sa), (.int (2 : Int32)), (.ref b263)])) rfl rfl (hb hby at_274)) ?_
    obtain ⟨T269, h269, X269, e269, W269, V269, st269⟩ := own_stJ X267 hx hZ e267 V267 (j := (2 : Int32)) ⟨by decide, by decide⟩ 2 rfl (Nat.le_of_ble_eq_true rfl) (g := (mkF m 275 #[sJ q1, sS, sJ q2, sS, sJ q3, sS, sJ q4, sS, sJ q5, sS, sI p6, sI wi, sR wd, sJ mu, sS, sI 5, sI mo, sR sa, sR b263, sU, sU, sU, sU] [(.long y2), (.int (2 : Int32)), (.ref b263)])) rfl rfl (hb hby at_275)
    have N269 := Fr.snoc X269 N267 gz263
    have V269 : Arv Z h269 b263 k263 .long (5 : Int32) [(.long y0), (.long y1), (.long y2), (.long (0 : Int64)), (.long (0 : Int64))] (.long (0 : Int64)) := V269
    have O269 : Ext Z.heap h269 := own_Ext.wr O267 W269 gz263
    refine Go.st (S' := T269.setTop (mkF m 276 #[sJ q1, sS, sJ q2, sS, sJ q3, sS, sJ q4, sS, sJ q5, sS, sI p6, sI wi, sR wd, sJ mu, sS, sI 5, sI mo, sR sa, sR b263, sU, sU, sU, sU] [])) st269 ?_
    refine Go.st (fun _ k => XS.iload X269.here hx rfl (hb hby at_276) rfl k) ?_
    refine Go.st (S' := T269.setTop (mkF m 279 #[sJ q1, sS, sJ q2, sS, sJ q3, sS, sJ q4, sS, sJ q5, sS, sI p6, sI wi, sR wd, sJ mu, sS, sI 5, sI mo, sR sa, sR b263, sU, sU, sU, sU] [(.int (3 : Int32)), (.int (5 : Int32))])) (fun _ k => XS.iconst X269.here hx rfl (hb hby at_278) k) ?_
    refine Go.st (fun _ k => XS.icmpNo X269.here hx rfl (hb hby at_279) rfl (tlt (by decide)).2.2.2 k) ?_
    refine Go.st (fun _ k => XS.aload X269.here hx rfl (hb hby at_282) rfl rfl k) ?_
    refine Go.st (fun _ k => XS.iconst X269.here hx rfl (hb hby at_284) k) ?_
    refine Go.st (fun _ k => XS.aload X269.here hx rfl (hb hby at_285) rfl rfl k) ?_
    refine Go.st (S' := T269.setTop (mkF m 288 #[sJ q1, sS, sJ q2, sS, sJ q3, sS, sJ q4, sS, sJ q5, sS, sI p6, sI wi, sR wd, sJ mu, sS, sI 5, sI mo, sR sa, sR b263, sU, sU, sU, sU] [(.int (3 : Int32)), (.ref sa), (.int (3 : Int32)), (.ref b263)])) (fun _ k => XS.iconst X269.here hx rfl (hb hby at_287) k) ?_
    refine Go.st (S' := T269.setTop (mkF m 289 #[sJ q1, sS, sJ q2, sS, sJ q3, sS, sJ q4, sS, sJ q5, sS, sI p6, sI wi, sR wd, sJ mu, sS, sI 5, sI mo, sR sa, sR b263, sU, sU, sU, sU] [(.long y3), (.int (3 : Int32)), (.ref b263)])) (own_ldJ X269 hx hZ e269 ((((Vsa.ext E263).other W265 ne_sa_b263).other W267 ne_sa_b263).other W269 ne_sa_b263) ⟨by decide, by decide⟩ rfl (g := (mkF m 288 #[sJ q1, sS, sJ q2, sS, sJ q3, sS, sJ q4, sS, sJ q5, sS, sI p6, sI wi, sR wd, sJ mu, sS, sI 5, sI mo, sR sa, sR b263, sU, sU, sU, sU] [(.int (3 : Int32)), (.ref sa), (.int (3 : Int32)), (.ref b263)])) rfl rfl (hb hby at_288)) ?_
    obtain ⟨T271, h271, X271, e271, W271, V271, st271⟩ := own_stJ X269 hx hZ e269 V269 (j := (3 : Int32)) ⟨by decide, by decide⟩ 3 rfl (Nat.le_of_ble_eq_true rfl) (g := (mkF m 289 #[sJ q1, sS, sJ q2, sS, sJ q3, sS, sJ q4, sS, sJ q5, sS, sI p6, sI wi, sR wd, sJ mu, sS, sI 5, sI mo, sR sa, sR b263, sU, sU, sU, sU] [(.long y3), (.int (3 : Int32)), (.ref b263)])) rfl rfl (hb hby at_289)
    have N271 := Fr.snoc X271 N269 gz263
    have V271 : Arv Z h271 b263 k263 .long (5 : Int32) [(.long y0), (.long y1), (.long y2), (.long y3), (.long (0 : Int64))] (.long (0 : Int64)) := V271
    have O271 : Ext Z.heap h271 := own_Ext.wr O269 W271 gz263
    refine Go.st (S' := T271.setTop (mkF m 290 #[sJ q1, sS, sJ q2, sS, sJ q3, sS, sJ q4, sS, sJ q5, sS, sI p6, sI wi, sR wd, sJ mu, sS, sI 5, sI mo, sR sa, sR b263, sU, sU, sU, sU] [])) st271 ?_
    refine Go.st (fun _ k => XS.iload X271.here hx rfl (hb hby at_290) rfl k) ?_
    refine Go.st (S' := T271.setTop (mkF m 293 #[sJ q1, sS, sJ q2, sS, sJ q3, sS, sJ q4, sS, sJ q5, sS, sI p6, sI wi, sR wd, sJ mu, sS, sI 5, sI mo, sR sa, sR b263, sU, sU, sU, sU] [(.int (4 : Int32)), (.int (5 : Int32))])) (fun _ k => XS.iconst X271.here hx rfl (hb hby at_292) k) ?_
    refine Go.st (fun _ k => XS.icmpNo X271.here hx rfl (hb hby at_293) rfl (tlt (by decide)).2.2.2 k) ?_
    refine Go.st (fun _ k => XS.aload X271.here hx rfl (hb hby at_296) rfl rfl k) ?_
    refine Go.st (fun _ k => XS.iconst X271.here hx rfl (hb hby at_298) k) ?_
    refine Go.st (fun _ k => XS.aload X271.here hx rfl (hb hby at_299) rfl rfl k) ?_
    refine Go.st (S' := T271.setTop (mkF m 302 #[sJ q1, sS, sJ q2, sS, sJ q3, sS, sJ q4, sS, sJ q5, sS, sI p6, sI wi, sR wd, sJ mu, sS, sI 5, sI mo, sR sa, sR b263, sU, sU, sU, sU] [(.int (4 : Int32)), (.ref sa), (.int (4 : Int32)), (.ref b263)])) (fun _ k => XS.iconst X271.here hx rfl (hb hby at_301) k) ?_
    refine Go.st (S' := T271.setTop (mkF m 303 #[sJ q1, sS, sJ q2, sS, sJ q3, sS, sJ q4, sS, sJ q5, sS, sI p6, sI wi, sR wd, sJ mu, sS, sI 5, sI mo, sR sa, sR b263, sU, sU, sU, sU] [(.long y4), (.int (4 : Int32)), (.ref b263)])) (own_ldJ X271 hx hZ e271 (((((Vsa.ext E263).other W265 ne_sa_b263).other W267 ne_sa_b263).other W269 ne_sa_b263).other W271 ne_sa_b263) ⟨by decide, by decide⟩ rfl (g := (mkF m 302 #[sJ q1, sS, sJ q2, sS, sJ q3, sS, sJ q4, sS, sJ q5, sS, sI p6, sI wi, sR wd, sJ mu, sS, sI 5, sI mo, sR sa, sR b263, sU, sU, sU, sU] [(.int (4 : Int32)), (.ref sa), (.int (4 : Int32)), (.ref b263)])) rfl rfl (hb hby at_302)) ?_
    obtain ⟨T273, h273, X273, e273, W273, V273, st273⟩ := own_stJ X271 hx hZ e271 V271 (j := (4 : Int32)) ⟨by decide, by decide⟩ 4 rfl (Nat.le_of_ble_eq_true rfl) (g := (mkF m 303 #[sJ q1, sS, sJ q2, sS, sJ q3, sS, sJ q4, sS, sJ q5, sS, sI p6, sI wi, sR wd, sJ mu, sS, sI 5, sI mo, sR sa, sR b263, sU, sU, sU, sU] [(.long y4), (.int (4 : Int32)), (.ref b263)])) rfl rfl (hb hby at_303)
    have N273 := Fr.snoc X273 N271 gz263
    have V273 : Arv Z h273 b263 k263 .long (5 : Int32) [(.long y0), (.long y1), (.long y2), (.long y3), (.long y4)] (.long (0 : Int64)) := V273
    have O273 : Ext Z.heap h273 := own_Ext.wr O271 W273 gz263
    refine Go.st (S' := T273.setTop (mkF m 304 #[sJ q1, sS, sJ q2, sS, sJ q3, sS, sJ q4, sS, sJ q5, sS, sI p6, sI wi, sR wd, sJ mu, sS, sI 5, sI mo, sR sa, sR b263, sU, sU, sU, sU] [])) st273 ?_
    refine Go.st (fun _ k => XS.iload X273.here hx rfl (hb hby at_304) rfl k) ?_
    refine Go.st (S' := T273.setTop (mkF m 307 #[sJ q1, sS, sJ q2, sS, sJ q3, sS, sJ q4, sS, sJ q5, sS, sI p6, sI wi, sR wd, sJ mu, sS, sI 5, sI mo, sR sa, sR b263, sU, sU, sU, sU] [(.int (5 : Int32)), (.int (5 : Int32))])) (fun _ k => XS.iconst X273.here hx rfl (hb hby at_306) k) ?_
    refine Go.st (S' := T273.setTop (mkF m 318 #[sJ q1, sS, sJ q2, sS, sJ q3, sS, sJ q4, sS, sJ q5, sS, sI p6, sI wi, sR wd, sJ mu, sS, sI 5, sI mo, sR sa, sR b263, sU, sU, sU, sU] [])) (fun _ k => XS.icmpYes X273.here hx rfl (pc0 := 307) (pc' := 318) rfl (hb hby at_307) rfl (flt (by decide)).2.2.2 (by decide) (by decide) k) ?_
    have hall : ∀ x ∈ ([y0, y1, y2, y3, y4] : List Int64), U x < DD := by
      intro x hx_
      simp only [List.mem_cons, List.not_mem_nil, or_false] at hx_
      rcases hx_ with rfl | rfl | rfl | rfl | rfl
      · exact bd0
      · exact bd1
      · exact bd2
      · exact bd3
      · exact bd4
    have hso : Srt [y0, y1, y2, y3, y4] := by unfold Srt; simp <;> omega
    exact rC l Z a0 hw w_BITS_32 w_BITS_64 hS q1 q2 q3 q4 q5 p6 p e s m below meth c ⟨hx, hby, hml, hown, hnm, hret, hlk, hZ⟩ _ _ _ (X273.mono (by decide) (by decide)) e273 N273 O273 _ _ _ _ _ _ (5 : Int32) (30 : Int32) (1 : Int32) (Wd - 1) (2 : Int32) 2 [y0, y1, y2, y3, y4] _ _ _ ((((((Ewd.ext E263).wr W265).wr W267).wr W269).wr W271).wr W273) ((((((Fwd.ext E263).other W265 (Or.inl ne_wd_b263)).other W267 (Or.inl ne_wd_b263)).other W269 (Or.inl ne_wd_b263)).other W271 (Or.inl ne_wd_b263)).other W273 (Or.inl ne_wd_b263)) V273 hM hmu rfl (Nat.le_of_ble_eq_true rfl) (by decide) (by decide) rfl (by decide) (own_sf hM).1 (by decide) (by decide) hso hall (own_BM hM).1
  · obtain ⟨T274, h274, k274, X274, e274, E274, A274, Ea274, st274⟩ := newPE Xj hx hZ (ww hw 4 rfl) ej (g := (mkF m 231 #[sJ q1, sS, sJ q2, sS, sJ q3, sS, sJ q4, sS, sJ q5, sS, sI p6, sI wi, sR wd, sJ mu, sS, sI 6, sI mo, sR sa, sU, sU, sU, sU, sU] [(.int (6 : Int32))])) rfl (hb hby at_231) rfl (by decide) (cap := 6) (by decide) (by decide) (by decide) (by decide) (ad := "[J") (by decide)
    obtain ⟨b274, g274⟩ : ∃ z, z = hj.size := ⟨_, rfl⟩
    rw [← g274] at A274 Ea274 st274
    have gz274 : Z.heap.size ≤ b274 := Nat.le_trans Oj.1 (Nat.le_of_eq g274.symm)
    have ne_wd_b274 : wd ≠ b274 := own_lt_ne Ewd.lt g274
    have ne_sa_b274 : sa ≠ b274 := own_lt_ne Vsa.lt g274
    have O274 : Ext Z.heap h274 := own_Ext.trans Oj E274
    have V274 : Arv Z h274 b274 k274 .long (6 : Int32) [(.long (0 : Int64)), (.long (0 : Int64)), (.long (0 : Int64)), (.long (0 : Int64)), (.long (0 : Int64)), (.long (0 : Int64))] (.long (0 : Int64)) := (Arv.new A274 (by decide)).pad (pad_rep [] (.long (0 : Int64)) 6)
    refine Go.st (S' := T274.setTop (mkF m 233 #[sJ q1, sS, sJ q2, sS, sJ q3, sS, sJ q4, sS, sJ q5, sS, sI p6, sI wi, sR wd, sJ mu, sS, sI 6, sI mo, sR sa, sU, sU, sU, sU, sU] [(.ref b274)])) st274 ?_
    refine Go.st (fun _ k => XS.astore X274.here hx rfl (hb hby at_233) rfl rfl (l' := #[sJ q1, sS, sJ q2, sS, sJ q3, sS, sJ q4, sS, sJ q5, sS, sI p6, sI wi, sR wd, sJ mu, sS, sI 6, sI mo, sR sa, sR b274, sU, sU, sU, sU]) rfl k) ?_
    refine Go.st (S' := T274.setTop (mkF m 237 #[sJ q1, sS, sJ q2, sS, sJ q3, sS, sJ q4, sS, sJ q5, sS, sI p6, sI wi, sR wd, sJ mu, sS, sI 6, sI mo, sR sa, sR b274, sU, sU, sU, sU] [(.int (6 : Int32))])) (fun _ k => XS.iload X274.here hx rfl (hb hby at_235) rfl k) ?_
    refine Go.st (fun _ k => XS.ifNo X274.here hx rfl (hb hby at_237) rfl ((if0 _ _).trans (tlt (by decide)).2.2.2) k) ?_
    refine Go.st (fun _ k => XS.aload X274.here hx rfl (hb hby at_240) rfl rfl k) ?_
    refine Go.st (fun _ k => XS.iconst X274.here hx rfl (hb hby at_242) k) ?_
    refine Go.st (fun _ k => XS.aload X274.here hx rfl (hb hby at_243) rfl rfl k) ?_
    refine Go.st (S' := T274.setTop (mkF m 246 #[sJ q1, sS, sJ q2, sS, sJ q3, sS, sJ q4, sS, sJ q5, sS, sI p6, sI wi, sR wd, sJ mu, sS, sI 6, sI mo, sR sa, sR b274, sU, sU, sU, sU] [(.int (0 : Int32)), (.ref sa), (.int (0 : Int32)), (.ref b274)])) (fun _ k => XS.iconst X274.here hx rfl (hb hby at_245) k) ?_
    refine Go.st (S' := T274.setTop (mkF m 247 #[sJ q1, sS, sJ q2, sS, sJ q3, sS, sJ q4, sS, sJ q5, sS, sI p6, sI wi, sR wd, sJ mu, sS, sI 6, sI mo, sR sa, sR b274, sU, sU, sU, sU] [(.long y0), (.int (0 : Int32)), (.ref b274)])) (own_ldJ X274 hx hZ e274 (Vsa.ext E274) ⟨by decide, by decide⟩ rfl (g := (mkF m 246 #[sJ q1, sS, sJ q2, sS, sJ q3, sS, sJ q4, sS, sJ q5, sS, sI p6, sI wi, sR wd, sJ mu, sS, sI 6, sI mo, sR sa, sR b274, sU, sU, sU, sU] [(.int (0 : Int32)), (.ref sa), (.int (0 : Int32)), (.ref b274)])) rfl rfl (hb hby at_246)) ?_
    obtain ⟨T276, h276, X276, e276, W276, V276, st276⟩ := own_stJ X274 hx hZ e274 V274 (j := (0 : Int32)) ⟨by decide, by decide⟩ 0 rfl (Nat.le_of_ble_eq_true rfl) (g := (mkF m 247 #[sJ q1, sS, sJ q2, sS, sJ q3, sS, sJ q4, sS, sJ q5, sS, sI p6, sI wi, sR wd, sJ mu, sS, sI 6, sI mo, sR sa, sR b274, sU, sU, sU, sU] [(.long y0), (.int (0 : Int32)), (.ref b274)])) rfl rfl (hb hby at_247)
    have N276 := Fr.snoc X276 Nj gz274
    have V276 : Arv Z h276 b274 k274 .long (6 : Int32) [(.long y0), (.long (0 : Int64)), (.long (0 : Int64)), (.long (0 : Int64)), (.long (0 : Int64)), (.long (0 : Int64))] (.long (0 : Int64)) := V276
    have O276 : Ext Z.heap h276 := own_Ext.wr O274 W276 gz274
    refine Go.st (S' := T276.setTop (mkF m 248 #[sJ q1, sS, sJ q2, sS, sJ q3, sS, sJ q4, sS, sJ q5, sS, sI p6, sI wi, sR wd, sJ mu, sS, sI 6, sI mo, sR sa, sR b274, sU, sU, sU, sU] [])) st276 ?_
    refine Go.st (fun _ k => XS.iload X276.here hx rfl (hb hby at_248) rfl k) ?_
    refine Go.st (S' := T276.setTop (mkF m 251 #[sJ q1, sS, sJ q2, sS, sJ q3, sS, sJ q4, sS, sJ q5, sS, sI p6, sI wi, sR wd, sJ mu, sS, sI 6, sI mo, sR sa, sR b274, sU, sU, sU, sU] [(.int (1 : Int32)), (.int (6 : Int32))])) (fun _ k => XS.iconst X276.here hx rfl (hb hby at_250) k) ?_
    refine Go.st (fun _ k => XS.icmpNo X276.here hx rfl (hb hby at_251) rfl (tlt (by decide)).2.2.2 k) ?_
    refine Go.st (fun _ k => XS.aload X276.here hx rfl (hb hby at_254) rfl rfl k) ?_
    refine Go.st (fun _ k => XS.iconst X276.here hx rfl (hb hby at_256) k) ?_
    refine Go.st (fun _ k => XS.aload X276.here hx rfl (hb hby at_257) rfl rfl k) ?_
    refine Go.st (S' := T276.setTop (mkF m 260 #[sJ q1, sS, sJ q2, sS, sJ q3, sS, sJ q4, sS, sJ q5, sS, sI p6, sI wi, sR wd, sJ mu, sS, sI 6, sI mo, sR sa, sR b274, sU, sU, sU, sU] [(.int (1 : Int32)), (.ref sa), (.int (1 : Int32)), (.ref b274)])) (fun _ k => XS.iconst X276.here hx rfl (hb hby at_259) k) ?_
    refine Go.st (S' := T276.setTop (mkF m 261 #[sJ q1, sS, sJ q2, sS, sJ q3, sS, sJ q4, sS, sJ q5, sS, sI p6, sI wi, sR wd, sJ mu, sS, sI 6, sI mo, sR sa, sR b274, sU, sU, sU, sU] [(.long y1), (.int (1 : Int32)), (.ref b274)])) (own_ldJ X276 hx hZ e276 ((Vsa.ext E274).other W276 ne_sa_b274) ⟨by decide, by decide⟩ rfl (g := (mkF m 260 #[sJ q1, sS, sJ q2, sS, sJ q3, sS, sJ q4, sS, sJ q5, sS, sI p6, sI wi, sR wd, sJ mu, sS, sI 6, sI mo, sR sa, sR b274, sU, sU, sU, sU] [(.int (1 : Int32)), (.ref sa), (.int (1 : Int32)), (.ref b274)])) rfl rfl (hb hby at_260)) ?_
    obtain ⟨T278, h278, X278, e278, W278, V278, st278⟩ := own_stJ X276 hx hZ e276 V276 (j := (1 : Int32)) ⟨by decide, by decide⟩ 1 rfl (Nat.le_of_ble_eq_true rfl) (g := (mkF m 261 #[sJ q1, sS, sJ q2, sS, sJ q3, sS, sJ q4, sS, sJ q5, sS, sI p6, sI wi, sR wd, sJ mu, sS, sI 6, sI mo, sR sa, sR b274, sU, sU, sU, sU] [(.long y1), (.int (1 : Int32)), (.ref b274)])) rfl rfl (hb hby at_261)
    have N278 := Fr.snoc X278 N276 gz274
    have V278 : Arv Z h278 b274 k274 .long (6 : Int32) [(.long y0), (.long y1), (.long (0 : Int64)), (.long (0 : Int64)), (.long (0 : Int64)), (.long (0 : Int64))] (.long (0 : Int64)) := V278
    have O278 : Ext Z.heap h278 := own_Ext.wr O276 W278 gz274
    refine Go.st (S' := T278.setTop (mkF m 262 #[sJ q1, sS, sJ q2, sS, sJ q3, sS, sJ q4, sS, sJ q5, sS, sI p6, sI wi, sR wd, sJ mu, sS, sI 6, sI mo, sR sa, sR b274, sU, sU, sU, sU] [])) st278 ?_
    refine Go.st (fun _ k => XS.iload X278.here hx rfl (hb hby at_262) rfl k) ?_
    refine Go.st (S' := T278.setTop (mkF m 265 #[sJ q1, sS, sJ q2, sS, sJ q3, sS, sJ q4, sS, sJ q5, sS, sI p6, sI wi, sR wd, sJ mu, sS, sI 6, sI mo, sR sa, sR b274, sU, sU, sU, sU] [(.int (2 : Int32)), (.int (6 : Int32))])) (fun _ k => XS.iconst X278.here hx rfl (hb hby at_264) k) ?_
    refine Go.st (fun _ k => XS.icmpNo X278.here hx rfl (hb hby at_265) rfl (tlt (by decide)).2.2.2 k) ?_
    refine Go.st (fun _ k => XS.aload X278.here hx rfl (hb hby at_268) rfl rfl k) ?_
    refine Go.st (fun _ k => XS.iconst X278.here hx rfl (hb hby at_270) k) ?_
    refine Go.st (fun _ k => XS.aload X278.here hx rfl (hb hby at_271) rfl rfl k) ?_
    refine Go.st (S' := T278.setTop (mkF m 274 #[sJ q1, sS, sJ q2, sS, sJ q3, sS, sJ q4, sS, sJ q5, sS, sI p6, sI wi, sR wd, sJ mu, sS, sI 6, sI mo, sR sa, sR b274, sU, sU, sU, sU] [(.int (2 : Int32)), (.ref sa), (.int (2 : Int32)), (.ref b274)])) (fun _ k => XS.iconst X278.here hx rfl (hb hby at_273) k) ?_
    refine Go.st (S' := T278.setTop (mkF m 275 #[sJ q1, sS, sJ q2, sS, sJ q3, sS, sJ q4, sS, sJ q5, sS, sI p6, sI wi, sR wd, sJ mu, sS, sI 6, sI mo, sR sa, sR b274, sU, sU, sU, sU] [(.long y2), (.int (2 : Int32)), (.ref b274)])) (own_ldJ X278 hx hZ e278 (((Vsa.ext E274).other W276 ne_sa_b274).other W278 ne_sa_b274) ⟨by decide, by decide⟩ rfl (g := (mkF m 274 #[sJ q1, sS, sJ q2, sS, sJ q3, sS, sJ q4, sS, sJ q5, sS, sI p6, sI wi, sR wd, sJ mu, sS, sI 6, sI mo, sR sa, sR b274, sU, sU, sU, sU] [(.int (2 : Int32)), (.ref sa), (.int (2 : Int32)), (.ref b274)])) rfl rfl (hb hby at_274)) ?_
    obtain ⟨T280, h280, X280, e280, W280, V280, st280⟩ := own_stJ X278 hx hZ e278 V278 (j := (2 : Int32)) ⟨by decide, by decide⟩ 2 rfl (Nat.le_of_ble_eq_true rfl) (g := (mkF m 275 #[sJ q1, sS, sJ q2, sS, sJ q3, sS, sJ q4, sS, sJ q5, sS, sI p6, sI wi, sR wd, sJ mu, sS, sI 6, sI mo, sR sa, sR b274, sU, sU, sU, sU] [(.long y2), (.int (2 : Int32)), (.ref b274)])) rfl rfl (hb hby at_275)
    have N280 := Fr.snoc X280 N278 gz274
    have V280 : Arv Z h280 b274 k274 .long (6 : Int32) [(.long y0), (.long y1), (.long y2), (.long (0 : Int64)), (.long (0 : Int64)), (.long (0 : Int64))] (.long (0 : Int64)) := V280
    have O280 : Ext Z.heap h280 := own_Ext.wr O278 W280 gz274
    refine Go.st (S' := T280.setTop (mkF m 276 #[sJ q1, sS, sJ q2, sS, sJ q3, sS, sJ q4, sS, sJ q5, sS, sI p6, sI wi, sR wd, sJ mu, sS, sI 6, sI mo, sR sa, sR b274, sU, sU, sU, sU] [])) st280 ?_
    refine Go.st (fun _ k => XS.iload X280.here hx rfl (hb hby at_276) rfl k) ?_
    refine Go.st (S' := T280.setTop (mkF m 279 #[sJ q1, sS, sJ q2, sS, sJ q3, sS, sJ q4, sS, sJ q5, sS, sI p6, sI wi, sR wd, sJ mu, sS, sI 6, sI mo, sR sa, sR b274, sU, sU, sU, sU] [(.int (3 : Int32)), (.int (6 : Int32))])) (fun _ k => XS.iconst X280.here hx rfl (hb hby at_278) k) ?_
    refine Go.st (fun _ k => XS.icmpNo X280.here hx rfl (hb hby at_279) rfl (tlt (by decide)).2.2.2 k) ?_
    refine Go.st (fun _ k => XS.aload X280.here hx rfl (hb hby at_282) rfl rfl k) ?_
    refine Go.st (fun _ k => XS.iconst X280.here hx rfl (hb hby at_284) k) ?_
    refine Go.st (fun _ k => XS.aload X280.here hx rfl (hb hby at_285) rfl rfl k) ?_
    refine Go.st (S' := T280.setTop (mkF m 288 #[sJ q1, sS, sJ q2, sS, sJ q3, sS, sJ q4, sS, sJ q5, sS, sI p6, sI wi, sR wd, sJ mu, sS, sI 6, sI mo, sR sa, sR b274, sU, sU, sU, sU] [(.int (3 : Int32)), (.ref sa), (.int (3 : Int32)), (.ref b274)])) (fun _ k => XS.iconst X280.here hx rfl (hb hby at_287) k) ?_
    refine Go.st (S' := T280.setTop (mkF m 289 #[sJ q1, sS, sJ q2, sS, sJ q3, sS, sJ q4, sS, sJ q5, sS, sI p6, sI wi, sR wd, sJ mu, sS, sI 6, sI mo, sR sa, sR b274, sU, sU, sU, sU] [(.long y3), (.int (3 : Int32)), (.ref b274)])) (own_ldJ X280 hx hZ e280 ((((Vsa.ext E274).other W276 ne_sa_b274).other W278 ne_sa_b274).other W280 ne_sa_b274) ⟨by decide, by decide⟩ rfl (g := (mkF m 288 #[sJ q1, sS, sJ q2, sS, sJ q3, sS, sJ q4, sS, sJ q5, sS, sI p6, sI wi, sR wd, sJ mu, sS, sI 6, sI mo, sR sa, sR b274, sU, sU, sU, sU] [(.int (3 : Int32)), (.ref sa), (.int (3 : Int32)), (.ref b274)])) rfl rfl (hb hby at_288)) ?_
    obtain ⟨T282, h282, X282, e282, W282, V282, st282⟩ := own_stJ X280 hx hZ e280 V280 (j := (3 : Int32)) ⟨by decide, by decide⟩ 3 rfl (Nat.le_of_ble_eq_true rfl) (g := (mkF m 289 #[sJ q1, sS, sJ q2, sS, sJ q3, sS, sJ q4, sS, sJ q5, sS, sI p6, sI wi, sR wd, sJ mu, sS, sI 6, sI mo, sR sa, sR b274, sU, sU, sU, sU] [(.long y3), (.int (3 : Int32)), (.ref b274)])) rfl rfl (hb hby at_289)
    have N282 := Fr.snoc X282 N280 gz274
    have V282 : Arv Z h282 b274 k274 .long (6 : Int32) [(.long y0), (.long y1), (.long y2), (.long y3), (.long (0 : Int64)), (.long (0 : Int64))] (.long (0 : Int64)) := V282
    have O282 : Ext Z.heap h282 := own_Ext.wr O280 W282 gz274
    refine Go.st (S' := T282.setTop (mkF m 290 #[sJ q1, sS, sJ q2, sS, sJ q3, sS, sJ q4, sS, sJ q5, sS, sI p6, sI wi, sR wd, sJ mu, sS, sI 6, sI mo, sR sa, sR b274, sU, sU, sU, sU] [])) st282 ?_
    refine Go.st (fun _ k => XS.iload X282.here hx rfl (hb hby at_290) rfl k) ?_
    refine Go.st (S' := T282.setTop (mkF m 293 #[sJ q1, sS, sJ q2, sS, sJ q3, sS, sJ q4, sS, sJ q5, sS, sI p6, sI wi, sR wd, sJ mu, sS, sI 6, sI mo, sR sa, sR b274, sU, sU, sU, sU] [(.int (4 : Int32)), (.int (6 : Int32))])) (fun _ k => XS.iconst X282.here hx rfl (hb hby at_292) k) ?_
    refine Go.st (fun _ k => XS.icmpNo X282.here hx rfl (hb hby at_293) rfl (tlt (by decide)).2.2.2 k) ?_
    refine Go.st (fun _ k => XS.aload X282.here hx rfl (hb hby at_296) rfl rfl k) ?_
    refine Go.st (fun _ k => XS.iconst X282.here hx rfl (hb hby at_298) k) ?_
    refine Go.st (fun _ k => XS.aload X282.here hx rfl (hb hby at_299) rfl rfl k) ?_
    refine Go.st (S' := T282.setTop (mkF m 302 #[sJ q1, sS, sJ q2, sS, sJ q3, sS, sJ q4, sS, sJ q5, sS, sI p6, sI wi, sR wd, sJ mu, sS, sI 6, sI mo, sR sa, sR b274, sU, sU, sU, sU] [(.int (4 : Int32)), (.ref sa), (.int (4 : Int32)), (.ref b274)])) (fun _ k => XS.iconst X282.here hx rfl (hb hby at_301) k) ?_
    refine Go.st (S' := T282.setTop (mkF m 303 #[sJ q1, sS, sJ q2, sS, sJ q3, sS, sJ q4, sS, sJ q5, sS, sI p6, sI wi, sR wd, sJ mu, sS, sI 6, sI mo, sR sa, sR b274, sU, sU, sU, sU] [(.long y4), (.int (4 : Int32)), (.ref b274)])) (own_ldJ X282 hx hZ e282 (((((Vsa.ext E274).other W276 ne_sa_b274).other W278 ne_sa_b274).other W280 ne_sa_b274).other W282 ne_sa_b274) ⟨by decide, by decide⟩ rfl (g := (mkF m 302 #[sJ q1, sS, sJ q2, sS, sJ q3, sS, sJ q4, sS, sJ q5, sS, sI p6, sI wi, sR wd, sJ mu, sS, sI 6, sI mo, sR sa, sR b274, sU, sU, sU, sU] [(.int (4 : Int32)), (.ref sa), (.int (4 : Int32)), (.ref b274)])) rfl rfl (hb hby at_302)) ?_
    obtain ⟨T284, h284, X284, e284, W284, V284, st284⟩ := own_stJ X282 hx hZ e282 V282 (j := (4 : Int32)) ⟨by decide, by decide⟩ 4 rfl (Nat.le_of_ble_eq_true rfl) (g := (mkF m 303 #[sJ q1, sS, sJ q2, sS, sJ q3, sS, sJ q4, sS, sJ q5, sS, sI p6, sI wi, sR wd, sJ mu, sS, sI 6, sI mo, sR sa, sR b274, sU, sU, sU, sU] [(.long y4), (.int (4 : Int32)), (.ref b274)])) rfl rfl (hb hby at_303)
    have N284 := Fr.snoc X284 N282 gz274
    have V284 : Arv Z h284 b274 k274 .long (6 : Int32) [(.long y0), (.long y1), (.long y2), (.long y3), (.long y4), (.long (0 : Int64))] (.long (0 : Int64)) := V284
    have O284 : Ext Z.heap h284 := own_Ext.wr O282 W284 gz274
    refine Go.st (S' := T284.setTop (mkF m 304 #[sJ q1, sS, sJ q2, sS, sJ q3, sS, sJ q4, sS, sJ q5, sS, sI p6, sI wi, sR wd, sJ mu, sS, sI 6, sI mo, sR sa, sR b274, sU, sU, sU, sU] [])) st284 ?_
    refine Go.st (fun _ k => XS.iload X284.here hx rfl (hb hby at_304) rfl k) ?_
    refine Go.st (S' := T284.setTop (mkF m 307 #[sJ q1, sS, sJ q2, sS, sJ q3, sS, sJ q4, sS, sJ q5, sS, sI p6, sI wi, sR wd, sJ mu, sS, sI 6, sI mo, sR sa, sR b274, sU, sU, sU, sU] [(.int (5 : Int32)), (.int (6 : Int32))])) (fun _ k => XS.iconst X284.here hx rfl (hb hby at_306) k) ?_
    refine Go.st (fun _ k => XS.icmpNo X284.here hx rfl (hb hby at_307) rfl (tlt (by decide)).2.2.2 k) ?_
    refine Go.st (fun _ k => XS.aload X284.here hx rfl (hb hby at_310) rfl rfl k) ?_
    refine Go.st (fun _ k => XS.iconst X284.here hx rfl (hb hby at_312) k) ?_
    refine Go.st (fun _ k => XS.aload X284.here hx rfl (hb hby at_313) rfl rfl k) ?_
    refine Go.st (S' := T284.setTop (mkF m 316 #[sJ q1, sS, sJ q2, sS, sJ q3, sS, sJ q4, sS, sJ q5, sS, sI p6, sI wi, sR wd, sJ mu, sS, sI 6, sI mo, sR sa, sR b274, sU, sU, sU, sU] [(.int (5 : Int32)), (.ref sa), (.int (5 : Int32)), (.ref b274)])) (fun _ k => XS.iconst X284.here hx rfl (hb hby at_315) k) ?_
    refine Go.st (S' := T284.setTop (mkF m 317 #[sJ q1, sS, sJ q2, sS, sJ q3, sS, sJ q4, sS, sJ q5, sS, sI p6, sI wi, sR wd, sJ mu, sS, sI 6, sI mo, sR sa, sR b274, sU, sU, sU, sU] [(.long y5), (.int (5 : Int32)), (.ref b274)])) (own_ldJ X284 hx hZ e284 ((((((Vsa.ext E274).other W276 ne_sa_b274).other W278 ne_sa_b274).other W280 ne_sa_b274).other W282 ne_sa_b274).other W284 ne_sa_b274) ⟨by decide, by decide⟩ rfl (g := (mkF m 316 #[sJ q1, sS, sJ q2, sS, sJ q3, sS, sJ q4, sS, sJ q5, sS, sI p6, sI wi, sR wd, sJ mu, sS, sI 6, sI mo, sR sa, sR b274, sU, sU, sU, sU] [(.int (5 : Int32)), (.ref sa), (.int (5 : Int32)), (.ref b274)])) rfl rfl (hb hby at_316)) ?_
    obtain ⟨T286, h286, X286, e286, W286, V286, st286⟩ := own_stJ X284 hx hZ e284 V284 (j := (5 : Int32)) ⟨by decide, by decide⟩ 5 rfl (Nat.le_of_ble_eq_true rfl) (g := (mkF m 317 #[sJ q1, sS, sJ q2, sS, sJ q3, sS, sJ q4, sS, sJ q5, sS, sI p6, sI wi, sR wd, sJ mu, sS, sI 6, sI mo, sR sa, sR b274, sU, sU, sU, sU] [(.long y5), (.int (5 : Int32)), (.ref b274)])) rfl rfl (hb hby at_317)
    have N286 := Fr.snoc X286 N284 gz274
    have V286 : Arv Z h286 b274 k274 .long (6 : Int32) [(.long y0), (.long y1), (.long y2), (.long y3), (.long y4), (.long y5)] (.long (0 : Int64)) := V286
    have O286 : Ext Z.heap h286 := own_Ext.wr O284 W286 gz274
    refine Go.st (S' := T286.setTop (mkF m 318 #[sJ q1, sS, sJ q2, sS, sJ q3, sS, sJ q4, sS, sJ q5, sS, sI p6, sI wi, sR wd, sJ mu, sS, sI 6, sI mo, sR sa, sR b274, sU, sU, sU, sU] [])) st286 ?_
    have hall : ∀ x ∈ ([y0, y1, y2, y3, y4, y5] : List Int64), U x < DD := by
      intro x hx_
      simp only [List.mem_cons, List.not_mem_nil, or_false] at hx_
      rcases hx_ with rfl | rfl | rfl | rfl | rfl | rfl
      · exact bd0
      · exact bd1
      · exact bd2
      · exact bd3
      · exact bd4
      · exact bd5
    have hso : Srt [y0, y1, y2, y3, y4, y5] := by unfold Srt; simp <;> omega
    exact rC l Z a0 hw w_BITS_32 w_BITS_64 hS q1 q2 q3 q4 q5 p6 p e s m below meth c ⟨hx, hby, hml, hown, hnm, hret, hlk, hZ⟩ _ _ _ (X286.mono (by decide) (by decide)) e286 N286 O286 _ _ _ _ _ _ (6 : Int32) (29 : Int32) (2 : Int32) (Wd - 2) (4 : Int32) 4 [y0, y1, y2, y3, y4, y5] _ _ _ (((((((Ewd.ext E274).wr W276).wr W278).wr W280).wr W282).wr W284).wr W286) (((((((Fwd.ext E274).other W276 (Or.inl ne_wd_b274)).other W278 (Or.inl ne_wd_b274)).other W280 (Or.inl ne_wd_b274)).other W282 (Or.inl ne_wd_b274)).other W284 (Or.inl ne_wd_b274)).other W286 (Or.inl ne_wd_b274)) V286 hM hmu rfl (Nat.le_of_ble_eq_true rfl) (by decide) (by decide) rfl (by decide) (own_sf hM).2 (by decide) (by decide) hso hall (own_BM hM).2
set_option maxRecDepth 65536 in
set_option maxHeartbeats 400000000 in
theorem rA (l : Launch) (Z : State) (a0 : Array Value) (hw : ∀ d ∈ tables_1, d.before a0 Z = true) (w_BITS_32 : Addr) (w_BITS_64 : Addr) (hS : SF Z w_BITS_32 w_BITS_64) (q1 : Int64) (q2 : Int64) (q3 : Int64) (q4 : Int64) (q5 : Int64) (p6 : Int32) (p : Program) (e : Env) (s : State) (m : MethodId) (below : List Frame) (meth : Method) (c : Code) (hC : CX0 p s m meth c Z) (Tj : State) (lj : List Loc) (hj : Heap) (Xj : Stand p l e room_1 s m #[(.long q1), (.long q2), (.long q3), (.long q4), (.long q5), (.int p6)] below meth c Tj lj 0 0) (ej : Tj.heap = hj) (Nj : Fr Z.heap.size lj) (Oj : Ext Z.heap hj) (wi : Int32) (wd : Addr) (mu : Int64) (DD : Nat) (Wd : Int32) (Ewd : Exa Z hj wd "com/example/lenkki/lenkki/RingWidth") (Fwd : Fld Z hj wd "com/example/lenkki/lenkki/RingWidth" "bits" "I" (.int Wd)) (hM : (DD = 2 ^ 64 ∧ Wd = 64) ∨ (DD = 2 ^ 32 ∧ Wd = 32)) (hmu : ∀ x : Int64, U (x &&& mu) < DD) :
    Go p e below (Ret s (fun v h L => v = some (.int 1) ∧ Fr Z.heap.size L) room_1.cells room_1.slots) (Tj.setTop (mkF m 44 #[sJ q1, sS, sJ q2, sS, sJ q3, sS, sJ q4, sS, sJ q5, sS, sI p6, sI wi, sR wd, sU, sU, sU, sU, sU, sU, sU, sU, sU, sU] [(.long mu)])) := by
  obtain ⟨S_BITS_32, E_BITS_32, F_BITS_32_bits, S_BITS_64, E_BITS_64, F_BITS_64_bits⟩ := id hS
  obtain ⟨hx, hby, hml, hown, hnm, hret, hlk, hZ⟩ := id hC
  refine Go.st (fun _ k => XS.lstore Xj.here hx rfl (hb hby at_44) rfl (l' := #[sJ q1, sS, sJ q2, sS, sJ q3, sS, sJ q4, sS, sJ q5, sS, sI p6, sI wi, sR wd, sJ mu, sS, sU, sU, sU, sU, sU, sU, sU, sU]) rfl k) ?_
  refine Go.st (fun _ k => XS.iload Xj.here hx rfl (hb hby at_46) rfl k) ?_
  refine Go.st (S' := Tj.setTop (mkF m 49 #[sJ q1, sS, sJ q2, sS, sJ q3, sS, sJ q4, sS, sJ q5, sS, sI p6, sI wi, sR wd, sJ mu, sS, sU, sU, sU, sU, sU, sU, sU, sU] [(.int (1 : Int32)), (.int p6)])) (fun _ k => XS.iconst Xj.here hx rfl (hb hby at_48) k) ?_
  refine Go.st (fun _ k => XS.iushr Xj.here hx rfl (hb hby at_49) rfl k) ?_
  refine Go.st (S' := Tj.setTop (mkF m 52 #[sJ q1, sS, sJ q2, sS, sJ q3, sS, sJ q4, sS, sJ q5, sS, sI p6, sI wi, sR wd, sJ mu, sS, sU, sU, sU, sU, sU, sU, sU, sU] [(.int (7 : Int32)), (.int ((p6.toUInt32 >>> ((1 : Int32) &&& 31).toUInt32).toInt32))])) (fun _ k => XS.bipush Xj.here hx rfl (hb hby at_50) k) ?_
  refine Go.st (S' := Tj.setTop (mkF m 53 #[sJ q1, sS, sJ q2, sS, sJ q3, sS, sJ q4, sS, sJ q5, sS, sI p6, sI wi, sR wd, sJ mu, sS, sU, sU, sU, sU, sU, sU, sU, sU] [(.int (((p6.toUInt32 >>> ((1 : Int32) &&& 31).toUInt32).toInt32) % (7 : Int32)))])) (fun _ k => iremM Xj hx rfl (hb hby at_52) rfl (by decide) k) ?_
  obtain ⟨n, hn_, hqn⟩ := own_n7 p6
  refine Go.st (S' := Tj.setTop (mkF m 53 #[sJ q1, sS, sJ q2, sS, sJ q3, sS, sJ q4, sS, sJ q5, sS, sI p6, sI wi, sR wd, sJ mu, sS, sU, sU, sU, sU, sU, sU, sU, sU] [(.int n)])) (fun _ k => by rw [hn_] at k; exact k) ?_
  refine Go.st (fun _ k => XS.istore Xj.here hx rfl (hb hby at_53) rfl (l' := #[sJ q1, sS, sJ q2, sS, sJ q3, sS, sJ q4, sS, sJ q5, sS, sI p6, sI wi, sR wd, sJ mu, sS, sI n, sU, sU, sU, sU, sU, sU, sU]) rfl k) ?_
  refine Go.st (fun _ k => XS.iload Xj.here hx rfl (hb hby at_55) rfl k) ?_
  refine Go.st (S' := Tj.setTop (mkF m 58 #[sJ q1, sS, sJ q2, sS, sJ q3, sS, sJ q4, sS, sJ q5, sS, sI p6, sI wi, sR wd, sJ mu, sS, sI n, sU, sU, sU, sU, sU, sU, sU] [(.int (4 : Int32)), (.int p6)])) (fun _ k => XS.iconst Xj.here hx rfl (hb hby at_57) k) ?_
  refine Go.st (fun _ k => XS.iushr Xj.here hx rfl (hb hby at_58) rfl k) ?_
  refine Go.st (fun _ k => XS.iconst Xj.here hx rfl (hb hby at_59) k) ?_
  refine Go.st (S' := Tj.setTop (mkF m 61 #[sJ q1, sS, sJ q2, sS, sJ q3, sS, sJ q4, sS, sJ q5, sS, sI p6, sI wi, sR wd, sJ mu, sS, sI n, sU, sU, sU, sU, sU, sU, sU] [(.int (((p6.toUInt32 >>> ((4 : Int32) &&& 31).toUInt32).toInt32) &&& (3 : Int32)))])) (fun _ k => XS.iand Xj.here hx rfl (hb hby at_60) rfl k) ?_
  obtain ⟨mo, hmo⟩ : ∃ z : Int32, z = (((p6.toUInt32 >>> ((4 : Int32) &&& 31).toUInt32).toInt32) &&& (3 : Int32)) := ⟨_, rfl⟩
  refine Go.st (S' := Tj.setTop (mkF m 61 #[sJ q1, sS, sJ q2, sS, sJ q3, sS, sJ q4, sS, sJ q5, sS, sI p6, sI wi, sR wd, sJ mu, sS, sI n, sU, sU, sU, sU, sU, sU, sU] [(.int mo)])) (fun _ k => by rw [hmo] at k; exact k) ?_
  refine Go.st (fun _ k => XS.istore Xj.here hx rfl (hb hby at_61) rfl (l' := #[sJ q1, sS, sJ q2, sS, sJ q3, sS, sJ q4, sS, sJ q5, sS, sI p6, sI wi, sR wd, sJ mu, sS, sI n, sI mo, sU, sU, sU, sU, sU, sU]) rfl k) ?_
  refine Go.st (S' := Tj.setTop (mkF m 65 #[sJ q1, sS, sJ q2, sS, sJ q3, sS, sJ q4, sS, sJ q5, sS, sI p6, sI wi, sR wd, sJ mu, sS, sI n, sI mo, sU, sU, sU, sU, sU, sU] [(.int (6 : Int32))])) (fun _ k => XS.bipush Xj.here hx rfl (hb hby at_63) k) ?_
  obtain ⟨T121, h121, k121, X121, e121, E121, A121, Ea121, st121⟩ := newPE Xj hx hZ (ww hw 4 rfl) ej (g := (mkF m 65 #[sJ q1, sS, sJ q2, sS, sJ q3, sS, sJ q4, sS, sJ q5, sS, sI p6, sI wi, sR wd, sJ mu, sS, sI n, sI mo, sU, sU, sU, sU, sU, sU] [(.int (6 : Int32))])) rfl (hb hby at_65) rfl (by decide) (cap := 6) (by decide) (by decide) (by decide) (by decide) (ad := "[J") (by decide)
  obtain ⟨b121, g121⟩ : ∃ z, z = hj.size := ⟨_, rfl⟩
  rw [← g121] at A121 Ea121 st121
  have gz121 : Z.heap.size ≤ b121 := Nat.le_trans Oj.1 (Nat.le_of_eq g121.symm)
  have ne_wd_b121 : wd ≠ b121 := own_lt_ne Ewd.lt g121
  have O121 : Ext Z.heap h121 := own_Ext.trans Oj E121
  have V121 : Arv Z h121 b121 k121 .long (6 : Int32) [(.long (0 : Int64)), (.long (0 : Int64)), (.long (0 : Int64)), (.long (0 : Int64)), (.long (0 : Int64)), (.long (0 : Int64))] (.long (0 : Int64)) := (Arv.new A121 (by decide)).pad (pad_rep [] (.long (0 : Int64)) 6)
  refine Go.st (S' := T121.setTop (mkF m 67 #[sJ q1, sS, sJ q2, sS, sJ q3, sS, sJ q4, sS, sJ q5, sS, sI p6, sI wi, sR wd, sJ mu, sS, sI n, sI mo, sU, sU, sU, sU, sU, sU] [(.ref b121)])) st121 ?_
  refine Go.st (fun _ k => XS.astore X121.here hx rfl (hb hby at_67) rfl rfl (l' := #[sJ q1, sS, sJ q2, sS, sJ q3, sS, sJ q4, sS, sJ q5, sS, sI p6, sI wi, sR wd, sJ mu, sS, sI n, sI mo, sR b121, sU, sU, sU, sU, sU]) rfl k) ?_
  refine Go.st (fun _ k => XS.aload X121.here hx rfl (hb hby at_69) rfl rfl k) ?_
  refine Go.st (fun _ k => XS.iconst X121.here hx rfl (hb hby at_71) k) ?_
  refine Go.st (fun _ k => XS.lloadN X121.here hx rfl (hb hby at_72) rfl k) ?_
  refine Go.st (fun _ k => XS.lload X121.here hx rfl (hb hby at_73) rfl k) ?_
  refine Go.st (S' := T121.setTop (mkF m 76 #[sJ q1, sS, sJ q2, sS, sJ q3, sS, sJ q4, sS, sJ q5, sS, sI p6, sI wi, sR wd, sJ mu, sS, sI n, sI mo, sR b121, sU, sU, sU, sU, sU] [(.long (q1 &&& mu)), (.int (0 : Int32)), (.ref b121)])) (fun _ k => XS.land X121.here hx rfl (hb hby at_75) rfl k) ?_
  obtain ⟨x0, hx0⟩ : ∃ z : Int64, z = (q1 &&& mu) := ⟨_, rfl⟩
  refine Go.st (S' := T121.setTop (mkF m 76 #[sJ q1, sS, sJ q2, sS, sJ q3, sS, sJ q4, sS, sJ q5, sS, sI p6, sI wi, sR wd, sJ mu, sS, sI n, sI mo, sR b121, sU, sU, sU, sU, sU] [(.long x0), (.int (0 : Int32)), (.ref b121)])) (fun _ k => by rw [hx0] at k; exact k) ?_
  have hb0 : U x0 < DD := by rw [hx0]; exact hmu _
  obtain ⟨T122, h122, X122, e122, W122, V122, st122⟩ := own_stJ X121 hx hZ e121 V121 (j := (0 : Int32)) ⟨by decide, by decide⟩ 0 rfl (Nat.le_of_ble_eq_true rfl) (g := (mkF m 76 #[sJ q1, sS, sJ q2, sS, sJ q3, sS, sJ q4, sS, sJ q5, sS, sI p6, sI wi, sR wd, sJ mu, sS, sI n, sI mo, sR b121, sU, sU, sU, sU, sU] [(.long x0), (.int (0 : Int32)), (.ref b121)])) rfl rfl (hb hby at_76)
  have N122 := Fr.snoc X122 Nj gz121
  have V122 : Arv Z h122 b121 k121 .long (6 : Int32) [(.long x0), (.long (0 : Int64)), (.long (0 : Int64)), (.long (0 : Int64)), (.long (0 : Int64)), (.long (0 : Int64))] (.long (0 : Int64)) := V122
  have O122 : Ext Z.heap h122 := own_Ext.wr O121 W122 gz121
  refine Go.st (S' := T122.setTop (mkF m 77 #[sJ q1, sS, sJ q2, sS, sJ q3, sS, sJ q4, sS, sJ q5, sS, sI p6, sI wi, sR wd, sJ mu, sS, sI n, sI mo, sR b121, sU, sU, sU, sU, sU] [])) st122 ?_
  refine Go.st (fun _ k => XS.aload X122.here hx rfl (hb hby at_77) rfl rfl k) ?_
  refine Go.st (fun _ k => XS.iconst X122.here hx rfl (hb hby at_79) k) ?_
  refine Go.st (fun _ k => XS.lloadN X122.here hx rfl (hb hby at_80) rfl k) ?_
  refine Go.st (fun _ k => XS.lload X122.here hx rfl (hb hby at_81) rfl k) ?_
  refine Go.st (S' := T122.setTop (mkF m 84 #[sJ q1, sS, sJ q2, sS, sJ q3, sS, sJ q4, sS, sJ q5, sS, sI p6, sI wi, sR wd, sJ mu, sS, sI n, sI mo, sR b121, sU, sU, sU, sU, sU] [(.long (q2 &&& mu)), (.int (1 : Int32)), (.ref b121)])) (fun _ k => XS.land X122.here hx rfl (hb hby at_83) rfl k) ?_
  obtain ⟨x1, hx1⟩ : ∃ z : Int64, z = (q2 &&& mu) := ⟨_, rfl⟩
  refine Go.st (S' := T122.setTop (mkF m 84 #[sJ q1, sS, sJ q2, sS, sJ q3, sS, sJ q4, sS, sJ q5, sS, sI p6, sI wi, sR wd, sJ mu, sS, sI n, sI mo, sR b121, sU, sU, sU, sU, sU] [(.long x1), (.int (1 : Int32)), (.ref b121)])) (fun _ k => by rw [hx1] at k; exact k) ?_
  have hb1 : U x1 < DD := by rw [hx1]; exact hmu _
  obtain ⟨T123, h123, X123, e123, W123, V123, st123⟩ := own_stJ X122 hx hZ e122 V122 (j := (1 : Int32)) ⟨by decide, by decide⟩ 1 rfl (Nat.le_of_ble_eq_true rfl) (g := (mkF m 84 #[sJ q1, sS, sJ q2, sS, sJ q3, sS, sJ q4, sS, sJ q5, sS, sI p6, sI wi, sR wd, sJ mu, sS, sI n, sI mo, sR b121, sU, sU, sU, sU, sU] [(.long x1), (.int (1 : Int32)), (.ref b121)])) rfl rfl (hb hby at_84)
  have N123 := Fr.snoc X123 N122 gz121
  have V123 : Arv Z h123 b121 k121 .long (6 : Int32) [(.long x0), (.long x1), (.long (0 : Int64)), (.long (0 : Int64)), (.long (0 : Int64)), (.long (0 : Int64))] (.long (0 : Int64)) := V123
  have O123 : Ext Z.heap h123 := own_Ext.wr O122 W123 gz121
  refine Go.st (S' := T123.setTop (mkF m 85 #[sJ q1, sS, sJ q2, sS, sJ q3, sS, sJ q4, sS, sJ q5, sS, sI p6, sI wi, sR wd, sJ mu, sS, sI n, sI mo, sR b121, sU, sU, sU, sU, sU] [])) st123 ?_
  refine Go.st (fun _ k => XS.aload X123.here hx rfl (hb hby at_85) rfl rfl k) ?_
  refine Go.st (fun _ k => XS.iconst X123.here hx rfl (hb hby at_87) k) ?_
  refine Go.st (fun _ k => XS.lload X123.here hx rfl (hb hby at_88) rfl k) ?_
  refine Go.st (fun _ k => XS.lload X123.here hx rfl (hb hby at_90) rfl k) ?_
  refine Go.st (S' := T123.setTop (mkF m 93 #[sJ q1, sS, sJ q2, sS, sJ q3, sS, sJ q4, sS, sJ q5, sS, sI p6, sI wi, sR wd, sJ mu, sS, sI n, sI mo, sR b121, sU, sU, sU, sU, sU] [(.long (q3 &&& mu)), (.int (2 : Int32)), (.ref b121)])) (fun _ k => XS.land X123.here hx rfl (hb hby at_92) rfl k) ?_
  obtain ⟨x2, hx2⟩ : ∃ z : Int64, z = (q3 &&& mu) := ⟨_, rfl⟩
  refine Go.st (S' := T123.setTop (mkF m 93 #[sJ q1, sS, sJ q2, sS, sJ q3, sS, sJ q4, sS, sJ q5, sS, sI p6, sI wi, sR wd, sJ mu, sS, sI n, sI mo, sR b121, sU, sU, sU, sU, sU] [(.long x2), (.int (2 : Int32)), (.ref b121)])) (fun _ k => by rw [hx2] at k; exact k) ?_
  have hb2 : U x2 < DD := by rw [hx2]; exact hmu _
  obtain ⟨T124, h124, X124, e124, W124, V124, st124⟩ := own_stJ X123 hx hZ e123 V123 (j := (2 : Int32)) ⟨by decide, by decide⟩ 2 rfl (Nat.le_of_ble_eq_true rfl) (g := (mkF m 93 #[sJ q1, sS, sJ q2, sS, sJ q3, sS, sJ q4, sS, sJ q5, sS, sI p6, sI wi, sR wd, sJ mu, sS, sI n, sI mo, sR b121, sU, sU, sU, sU, sU] [(.long x2), (.int (2 : Int32)), (.ref b121)])) rfl rfl (hb hby at_93)
  have N124 := Fr.snoc X124 N123 gz121
  have V124 : Arv Z h124 b121 k121 .long (6 : Int32) [(.long x0), (.long x1), (.long x2), (.long (0 : Int64)), (.long (0 : Int64)), (.long (0 : Int64))] (.long (0 : Int64)) := V124
  have O124 : Ext Z.heap h124 := own_Ext.wr O123 W124 gz121
  refine Go.st (S' := T124.setTop (mkF m 94 #[sJ q1, sS, sJ q2, sS, sJ q3, sS, sJ q4, sS, sJ q5, sS, sI p6, sI wi, sR wd, sJ mu, sS, sI n, sI mo, sR b121, sU, sU, sU, sU, sU] [])) st124 ?_
  refine Go.st (fun _ k => XS.aload X124.here hx rfl (hb hby at_94) rfl rfl k) ?_
  refine Go.st (fun _ k => XS.iconst X124.here hx rfl (hb hby at_96) k) ?_
  refine Go.st (fun _ k => XS.lload X124.here hx rfl (hb hby at_97) rfl k) ?_
  refine Go.st (fun _ k => XS.lload X124.here hx rfl (hb hby at_99) rfl k) ?_
  refine Go.st (S' := T124.setTop (mkF m 102 #[sJ q1, sS, sJ q2, sS, sJ q3, sS, sJ q4, sS, sJ q5, sS, sI p6, sI wi, sR wd, sJ mu, sS, sI n, sI mo, sR b121, sU, sU, sU, sU, sU] [(.long (q4 &&& mu)), (.int (3 : Int32)), (.ref b121)])) (fun _ k => XS.land X124.here hx rfl (hb hby at_101) rfl k) ?_
  obtain ⟨x3, hx3⟩ : ∃ z : Int64, z = (q4 &&& mu) := ⟨_, rfl⟩
  refine Go.st (S' := T124.setTop (mkF m 102 #[sJ q1, sS, sJ q2, sS, sJ q3, sS, sJ q4, sS, sJ q5, sS, sI p6, sI wi, sR wd, sJ mu, sS, sI n, sI mo, sR b121, sU, sU, sU, sU, sU] [(.long x3), (.int (3 : Int32)), (.ref b121)])) (fun _ k => by rw [hx3] at k; exact k) ?_
  have hb3 : U x3 < DD := by rw [hx3]; exact hmu _
  obtain ⟨T125, h125, X125, e125, W125, V125, st125⟩ := own_stJ X124 hx hZ e124 V124 (j := (3 : Int32)) ⟨by decide, by decide⟩ 3 rfl (Nat.le_of_ble_eq_true rfl) (g := (mkF m 102 #[sJ q1, sS, sJ q2, sS, sJ q3, sS, sJ q4, sS, sJ q5, sS, sI p6, sI wi, sR wd, sJ mu, sS, sI n, sI mo, sR b121, sU, sU, sU, sU, sU] [(.long x3), (.int (3 : Int32)), (.ref b121)])) rfl rfl (hb hby at_102)
  have N125 := Fr.snoc X125 N124 gz121
  have V125 : Arv Z h125 b121 k121 .long (6 : Int32) [(.long x0), (.long x1), (.long x2), (.long x3), (.long (0 : Int64)), (.long (0 : Int64))] (.long (0 : Int64)) := V125
  have O125 : Ext Z.heap h125 := own_Ext.wr O124 W125 gz121
  refine Go.st (S' := T125.setTop (mkF m 103 #[sJ q1, sS, sJ q2, sS, sJ q3, sS, sJ q4, sS, sJ q5, sS, sI p6, sI wi, sR wd, sJ mu, sS, sI n, sI mo, sR b121, sU, sU, sU, sU, sU] [])) st125 ?_
  refine Go.st (fun _ k => XS.aload X125.here hx rfl (hb hby at_103) rfl rfl k) ?_
  refine Go.st (fun _ k => XS.iconst X125.here hx rfl (hb hby at_105) k) ?_
  refine Go.st (fun _ k => XS.lloadN X125.here hx rfl (hb hby at_106) rfl k) ?_
  refine Go.st (S' := T125.setTop (mkF m 109 #[sJ q1, sS, sJ q2, sS, sJ q3, sS, sJ q4, sS, sJ q5, sS, sI p6, sI wi, sR wd, sJ mu, sS, sI n, sI mo, sR b121, sU, sU, sU, sU, sU] [(.long q3), (.long q1), (.int (4 : Int32)), (.ref b121)])) (fun _ k => XS.lload X125.here hx rfl (hb hby at_107) rfl k) ?_
  refine Go.st (fun _ k => XS.lxor X125.here hx rfl (hb hby at_109) rfl k) ?_
  refine Go.st (fun _ k => XS.lload X125.here hx rfl (hb hby at_110) rfl k) ?_
  refine Go.st (S' := T125.setTop (mkF m 113 #[sJ q1, sS, sJ q2, sS, sJ q3, sS, sJ q4, sS, sJ q5, sS, sI p6, sI wi, sR wd, sJ mu, sS, sI n, sI mo, sR b121, sU, sU, sU, sU, sU] [(.long ((q1 ^^^ q3) &&& mu)), (.int (4 : Int32)), (.ref b121)])) (fun _ k => XS.land X125.here hx rfl (hb hby at_112) rfl k) ?_
  obtain ⟨x4, hx4⟩ : ∃ z : Int64, z = ((q1 ^^^ q3) &&& mu) := ⟨_, rfl⟩
  refine Go.st (S' := T125.setTop (mkF m 113 #[sJ q1, sS, sJ q2, sS, sJ q3, sS, sJ q4, sS, sJ q5, sS, sI p6, sI wi, sR wd, sJ mu, sS, sI n, sI mo, sR b121, sU, sU, sU, sU, sU] [(.long x4), (.int (4 : Int32)), (.ref b121)])) (fun _ k => by rw [hx4] at k; exact k) ?_
  have hb4 : U x4 < DD := by rw [hx4]; exact hmu _
  obtain ⟨T126, h126, X126, e126, W126, V126, st126⟩ := own_stJ X125 hx hZ e125 V125 (j := (4 : Int32)) ⟨by decide, by decide⟩ 4 rfl (Nat.le_of_ble_eq_true rfl) (g := (mkF m 113 #[sJ q1, sS, sJ q2, sS, sJ q3, sS, sJ q4, sS, sJ q5, sS, sI p6, sI wi, sR wd, sJ mu, sS, sI n, sI mo, sR b121, sU, sU, sU, sU, sU] [(.long x4), (.int (4 : Int32)), (.ref b121)])) rfl rfl (hb hby at_113)
  have N126 := Fr.snoc X126 N125 gz121
  have V126 : Arv Z h126 b121 k121 .long (6 : Int32) [(.long x0), (.long x1), (.long x2), (.long x3), (.long x4), (.long (0 : Int64))] (.long (0 : Int64)) := V126
  have O126 : Ext Z.heap h126 := own_Ext.wr O125 W126 gz121
  refine Go.st (S' := T126.setTop (mkF m 114 #[sJ q1, sS, sJ q2, sS, sJ q3, sS, sJ q4, sS, sJ q5, sS, sI p6, sI wi, sR wd, sJ mu, sS, sI n, sI mo, sR b121, sU, sU, sU, sU, sU] [])) st126 ?_
  refine Go.st (fun _ k => XS.aload X126.here hx rfl (hb hby at_114) rfl rfl k) ?_
  refine Go.st (fun _ k => XS.iconst X126.here hx rfl (hb hby at_116) k) ?_
  refine Go.st (fun _ k => XS.lloadN X126.here hx rfl (hb hby at_117) rfl k) ?_
  refine Go.st (fun _ k => XS.lconst X126.here hx rfl (hb hby at_118) k) ?_
  refine Go.st (fun _ k => XS.ladd X126.here hx rfl (hb hby at_119) rfl k) ?_
  refine Go.st (fun _ k => XS.lload X126.here hx rfl (hb hby at_120) rfl k) ?_
  refine Go.st (S' := T126.setTop (mkF m 123 #[sJ q1, sS, sJ q2, sS, sJ q3, sS, sJ q4, sS, sJ q5, sS, sI p6, sI wi, sR wd, sJ mu, sS, sI n, sI mo, sR b121, sU, sU, sU, sU, sU] [(.long ((q2 + (1 : Int64)) &&& mu)), (.int (5 : Int32)), (.ref b121)])) (fun _ k => XS.land X126.here hx rfl (hb hby at_122) rfl k) ?_
  obtain ⟨x5, hx5⟩ : ∃ z : Int64, z = ((q2 + (1 : Int64)) &&& mu) := ⟨_, rfl⟩
  refine Go.st (S' := T126.setTop (mkF m 123 #[sJ q1, sS, sJ q2, sS, sJ q3, sS, sJ q4, sS, sJ q5, sS, sI p6, sI wi, sR wd, sJ mu, sS, sI n, sI mo, sR b121, sU, sU, sU, sU, sU] [(.long x5), (.int (5 : Int32)), (.ref b121)])) (fun _ k => by rw [hx5] at k; exact k) ?_
  have hb5 : U x5 < DD := by rw [hx5]; exact hmu _
  obtain ⟨T127, h127, X127, e127, W127, V127, st127⟩ := own_stJ X126 hx hZ e126 V126 (j := (5 : Int32)) ⟨by decide, by decide⟩ 5 rfl (Nat.le_of_ble_eq_true rfl) (g := (mkF m 123 #[sJ q1, sS, sJ q2, sS, sJ q3, sS, sJ q4, sS, sJ q5, sS, sI p6, sI wi, sR wd, sJ mu, sS, sI n, sI mo, sR b121, sU, sU, sU, sU, sU] [(.long x5), (.int (5 : Int32)), (.ref b121)])) rfl rfl (hb hby at_123)
  have N127 := Fr.snoc X127 N126 gz121
  have V127 : Arv Z h127 b121 k121 .long (6 : Int32) [(.long x0), (.long x1), (.long x2), (.long x3), (.long x4), (.long x5)] (.long (0 : Int64)) := V127
  have O127 : Ext Z.heap h127 := own_Ext.wr O126 W127 gz121
  refine Go.st (S' := T127.setTop (mkF m 124 #[sJ q1, sS, sJ q2, sS, sJ q3, sS, sJ q4, sS, sJ q5, sS, sI p6, sI wi, sR wd, sJ mu, sS, sI n, sI mo, sR b121, sU, sU, sU, sU, sU] [])) st127 ?_
  refine Go.st (fun _ k => XS.aload X127.here hx rfl (hb hby at_124) rfl rfl k) ?_
  refine Go.st (fun _ k => XS.iconst X127.here hx rfl (hb hby at_126) k) ?_
  refine Go.st (S' := T127.setTop (mkF m 128 #[sJ q1, sS, sJ q2, sS, sJ q3, sS, sJ q4, sS, sJ q5, sS, sI p6, sI wi, sR wd, sJ mu, sS, sI n, sI mo, sR b121, sU, sU, sU, sU, sU] [(.int (1 : Int32)), (.int (0 : Int32)), (.ref b121)])) (fun _ k => XS.iconst X127.here hx rfl (hb hby at_127) k) ?_
  obtain ⟨_, T128, L128, X128, ⟨rfl, Nq128, kp128, y128, z128, va128, hle128, hor128⟩, st128⟩ := own_callS X127 hx hZ hown (ww hw 5 rfl) (ww hw 6 rfl) (ww hw 7 rfl) (ww hw 8 rfl) (by decide) e127 (rmCx0 l Z a0 hw [] w_BITS_32 w_BITS_64 hS b121 k121 x0 x1 x2 x3 x4 x5 h127 O127 gz121 V127) 0 (by decide) (by decide) (by decide) (by decide) (g := (mkF m 128 #[sJ q1, sS, sJ q2, sS, sJ q3, sS, sJ q4, sS, sJ q5, sS, sI p6, sI wi, sR wd, sJ mu, sS, sI n, sI mo, sR b121, sU, sU, sU, sU, sU] [(.int (1 : Int32)), (.int (0 : Int32)), (.ref b121)])) rfl (by rw [hml]; rfl) [(.ref b121), (.int (0 : Int32)), (.int (1 : Int32))] [] rfl (lenOf pd_659015 rfl) rfl (by show 2 * 0 + _ ≤ _; exact Nat.le_of_eq rfl) (hb hby at_128)
  have N128 := Fr.app N127 Nq128
  have O128 : Ext Z.heap T128.heap := own_Ext.keep O127 kp128 (allS gz121 all0)
  have r129 : U y128 < DD := by rcases hor128 with ⟨rfl, rfl⟩ | ⟨rfl, rfl⟩ <;> omega
  have r130 : U z128 < DD := by rcases hor128 with ⟨rfl, rfl⟩ | ⟨rfl, rfl⟩ <;> omega
  refine Go.st (S' := T128.setTop (mkF m 131 #[sJ q1, sS, sJ q2, sS, sJ q3, sS, sJ q4, sS, sJ q5, sS, sI p6, sI wi, sR wd, sJ mu, sS, sI n, sI mo, sR b121, sU, sU, sU, sU, sU] [])) st128 ?_
  refine Go.st (fun _ k => XS.aload X128.here hx rfl (hb hby at_131) rfl rfl k) ?_
  refine Go.st (fun _ k => XS.iconst X128.here hx rfl (hb hby at_133) k) ?_
  refine Go.st (S' := T128.setTop (mkF m 135 #[sJ q1, sS, sJ q2, sS, sJ q3, sS, sJ q4, sS, sJ q5, sS, sI p6, sI wi, sR wd, sJ mu, sS, sI n, sI mo, sR b121, sU, sU, sU, sU, sU] [(.int (2 : Int32)), (.int (1 : Int32)), (.ref b121)])) (fun _ k => XS.iconst X128.here hx rfl (hb hby at_134) k) ?_
  obtain ⟨_, T131, L131, X131, ⟨rfl, Nq131, kp131, y131, z131, va131, hle131, hor131⟩, st131⟩ := own_callS X128 hx hZ hown (ww hw 5 rfl) (ww hw 6 rfl) (ww hw 7 rfl) (ww hw 8 rfl) (by decide) rfl (rmCx1 l Z a0 hw [] w_BITS_32 w_BITS_64 hS b121 k121 y128 z128 x2 x3 x4 x5 T128.heap O128 gz121 va128) 0 (by decide) (by decide) (by decide) (by decide) (g := (mkF m 135 #[sJ q1, sS, sJ q2, sS, sJ q3, sS, sJ q4, sS, sJ q5, sS, sI p6, sI wi, sR wd, sJ mu, sS, sI n, sI mo, sR b121, sU, sU, sU, sU, sU] [(.int (2 : Int32)), (.int (1 : Int32)), (.ref b121)])) rfl (by rw [hml]; rfl) [(.ref b121), (.int (1 : Int32)), (.int (2 : Int32))] [] rfl (lenOf pd_659015 rfl) rfl (by show 2 * 0 + _ ≤ _; exact Nat.le_of_eq rfl) (hb hby at_135)
  have N131 := Fr.app N128 Nq131
  have O131 : Ext Z.heap T131.heap := own_Ext.keep O128 kp131 (allS gz121 all0)
  have r132 : U y131 < DD := by rcases hor131 with ⟨rfl, rfl⟩ | ⟨rfl, rfl⟩ <;> omega
  have r133 : U z131 < DD := by rcases hor131 with ⟨rfl, rfl⟩ | ⟨rfl, rfl⟩ <;> omega
  have r134 : U y128 ≤ U z131 := by rcases hor131 with ⟨rfl, rfl⟩ | ⟨rfl, rfl⟩ <;> omega
  refine Go.st (S' := T131.setTop (mkF m 138 #[sJ q1, sS, sJ q2, sS, sJ q3, sS, sJ q4, sS, sJ q5, sS, sI p6, sI wi, sR wd, sJ mu, sS, sI n, sI mo, sR b121, sU, sU, sU, sU, sU] [])) st131 ?_
  refine Go.st (fun _ k => XS.aload X131.here hx rfl (hb hby at_138) rfl rfl k) ?_
  refine Go.st (fun _ k => XS.iconst X131.here hx rfl (hb hby at_140) k) ?_
  refine Go.st (S' := T131.setTop (mkF m 142 #[sJ q1, sS, sJ q2, sS, sJ q3, sS, sJ q4, sS, sJ q5, sS, sI p6, sI wi, sR wd, sJ mu, sS, sI n, sI mo, sR b121, sU, sU, sU, sU, sU] [(.int (3 : Int32)), (.int (2 : Int32)), (.ref b121)])) (fun _ k => XS.iconst X131.here hx rfl (hb hby at_141) k) ?_
  obtain ⟨_, T135, L135, X135, ⟨rfl, Nq135, kp135, y135, z135, va135, hle135, hor135⟩, st135⟩ := own_callS X131 hx hZ hown (ww hw 5 rfl) (ww hw 6 rfl) (ww hw 7 rfl) (ww hw 8 rfl) (by decide) rfl (rmCx2 l Z a0 hw [] w_BITS_32 w_BITS_64 hS b121 k121 y128 y131 z131 x3 x4 x5 T131.heap O131 gz121 va131) 0 (by decide) (by decide) (by decide) (by decide) (g := (mkF m 142 #[sJ q1, sS, sJ q2, sS, sJ q3, sS, sJ q4, sS, sJ q5, sS, sI p6, sI wi, sR wd, sJ mu, sS, sI n, sI mo, sR b121, sU, sU, sU, sU, sU] [(.int (3 : Int32)), (.int (2 : Int32)), (.ref b121)])) rfl (by rw [hml]; rfl) [(.ref b121), (.int (2 : Int32)), (.int (3 : Int32))] [] rfl (lenOf pd_659015 rfl) rfl (by show 2 * 0 + _ ≤ _; exact Nat.le_of_eq rfl) (hb hby at_142)
  have N135 := Fr.app N131 Nq135
  have O135 : Ext Z.heap T135.heap := own_Ext.keep O131 kp135 (allS gz121 all0)
  have r136 : U y135 < DD := by rcases hor135 with ⟨rfl, rfl⟩ | ⟨rfl, rfl⟩ <;> omega
  have r137 : U z135 < DD := by rcases hor135 with ⟨rfl, rfl⟩ | ⟨rfl, rfl⟩ <;> omega
  have r138 : U y128 ≤ U z135 := by rcases hor135 with ⟨rfl, rfl⟩ | ⟨rfl, rfl⟩ <;> omega
  have r139 : U y131 ≤ U z135 := by rcases hor135 with ⟨rfl, rfl⟩ | ⟨rfl, rfl⟩ <;> omega
  refine Go.st (S' := T135.setTop (mkF m 145 #[sJ q1, sS, sJ q2, sS, sJ q3, sS, sJ q4, sS, sJ q5, sS, sI p6, sI wi, sR wd, sJ mu, sS, sI n, sI mo, sR b121, sU, sU, sU, sU, sU] [])) st135 ?_
  refine Go.st (fun _ k => XS.aload X135.here hx rfl (hb hby at_145) rfl rfl k) ?_
  refine Go.st (fun _ k => XS.iconst X135.here hx rfl (hb hby at_147) k) ?_
  refine Go.st (S' := T135.setTop (mkF m 149 #[sJ q1, sS, sJ q2, sS, sJ q3, sS, sJ q4, sS, sJ q5, sS, sI p6, sI wi, sR wd, sJ mu, sS, sI n, sI mo, sR b121, sU, sU, sU, sU, sU] [(.int (4 : Int32)), (.int (3 : Int32)), (.ref b121)])) (fun _ k => XS.iconst X135.here hx rfl (hb hby at_148) k) ?_
  obtain ⟨_, T140, L140, X140, ⟨rfl, Nq140, kp140, y140, z140, va140, hle140, hor140⟩, st140⟩ := own_callS X135 hx hZ hown (ww hw 5 rfl) (ww hw 6 rfl) (ww hw 7 rfl) (ww hw 8 rfl) (by decide) rfl (rmCx3 l Z a0 hw [] w_BITS_32 w_BITS_64 hS b121 k121 y128 y131 y135 z135 x4 x5 T135.heap O135 gz121 va135) 0 (by decide) (by decide) (by decide) (by decide) (g := (mkF m 149 #[sJ q1, sS, sJ q2, sS, sJ q3, sS, sJ q4, sS, sJ q5, sS, sI p6, sI wi, sR wd, sJ mu, sS, sI n, sI mo, sR b121, sU, sU, sU, sU, sU] [(.int (4 : Int32)), (.int (3 : Int32)), (.ref b121)])) rfl (by rw [hml]; rfl) [(.ref b121), (.int (3 : Int32)), (.int (4 : Int32))] [] rfl (lenOf pd_659015 rfl) rfl (by show 2 * 0 + _ ≤ _; exact Nat.le_of_eq rfl) (hb hby at_149)
  have N140 := Fr.app N135 Nq140
  have O140 : Ext Z.heap T140.heap := own_Ext.keep O135 kp140 (allS gz121 all0)
  have r141 : U y140 < DD := by rcases hor140 with ⟨rfl, rfl⟩ | ⟨rfl, rfl⟩ <;> omega
  have r142 : U z140 < DD := by rcases hor140 with ⟨rfl, rfl⟩ | ⟨rfl, rfl⟩ <;> omega
  have r143 : U y128 ≤ U z140 := by rcases hor140 with ⟨rfl, rfl⟩ | ⟨rfl, rfl⟩ <;> omega
  have r144 : U y131 ≤ U z140 := by rcases hor140 with ⟨rfl, rfl⟩ | ⟨rfl, rfl⟩ <;> omega
  have r145 : U y135 ≤ U z140 := by rcases hor140 with ⟨rfl, rfl⟩ | ⟨rfl, rfl⟩ <;> omega
  refine Go.st (S' := T140.setTop (mkF m 152 #[sJ q1, sS, sJ q2, sS, sJ q3, sS, sJ q4, sS, sJ q5, sS, sI p6, sI wi, sR wd, sJ mu, sS, sI n, sI mo, sR b121, sU, sU, sU, sU, sU] [])) st140 ?_
  refine Go.st (fun _ k => XS.aload X140.here hx rfl (hb hby at_152) rfl rfl k) ?_
  refine Go.st (fun _ k => XS.iconst X140.here hx rfl (hb hby at_154) k) ?_
  refine Go.st (S' := T140.setTop (mkF m 156 #[sJ q1, sS, sJ q2, sS, sJ q3, sS, sJ q4, sS, sJ q5, sS, sI p6, sI wi, sR wd, sJ mu, sS, sI n, sI mo, sR b121, sU, sU, sU, sU, sU] [(.int (5 : Int32)), (.int (4 : Int32)), (.ref b121)])) (fun _ k => XS.iconst X140.here hx rfl (hb hby at_155) k) ?_
  obtain ⟨_, T146, L146, X146, ⟨rfl, Nq146, kp146, y146, z146, va146, hle146, hor146⟩, st146⟩ := own_callS X140 hx hZ hown (ww hw 5 rfl) (ww hw 6 rfl) (ww hw 7 rfl) (ww hw 8 rfl) (by decide) rfl (rmCx4 l Z a0 hw [] w_BITS_32 w_BITS_64 hS b121 k121 y128 y131 y135 y140 z140 x5 T140.heap O140 gz121 va140) 0 (by decide) (by decide) (by decide) (by decide) (g := (mkF m 156 #[sJ q1, sS, sJ q2, sS, sJ q3, sS, sJ q4, sS, sJ q5, sS, sI p6, sI wi, sR wd, sJ mu, sS, sI n, sI mo, sR b121, sU, sU, sU, sU, sU] [(.int (5 : Int32)), (.int (4 : Int32)), (.ref b121)])) rfl (by rw [hml]; rfl) [(.ref b121), (.int (4 : Int32)), (.int (5 : Int32))] [] rfl (lenOf pd_659015 rfl) rfl (by show 2 * 0 + _ ≤ _; exact Nat.le_of_eq rfl) (hb hby at_156)
  have N146 := Fr.app N140 Nq146
  have O146 : Ext Z.heap T146.heap := own_Ext.keep O140 kp146 (allS gz121 all0)
  have r147 : U y146 < DD := by rcases hor146 with ⟨rfl, rfl⟩ | ⟨rfl, rfl⟩ <;> omega
  have r148 : U z146 < DD := by rcases hor146 with ⟨rfl, rfl⟩ | ⟨rfl, rfl⟩ <;> omega
  have r149 : U y128 ≤ U z146 := by rcases hor146 with ⟨rfl, rfl⟩ | ⟨rfl, rfl⟩ <;> omega
  have r150 : U y131 ≤ U z146 := by rcases hor146 with ⟨rfl, rfl⟩ | ⟨rfl, rfl⟩ <;> omega
  have r151 : U y135 ≤ U z146 := by rcases hor146 with ⟨rfl, rfl⟩ | ⟨rfl, rfl⟩ <;> omega
  have r152 : U y140 ≤ U z146 := by rcases hor146 with ⟨rfl, rfl⟩ | ⟨rfl, rfl⟩ <;> omega
  refine Go.st (S' := T146.setTop (mkF m 159 #[sJ q1, sS, sJ q2, sS, sJ q3, sS, sJ q4, sS, sJ q5, sS, sI p6, sI wi, sR wd, sJ mu, sS, sI n, sI mo, sR b121, sU, sU, sU, sU, sU] [])) st146 ?_
  refine Go.st (fun _ k => XS.aload X146.here hx rfl (hb hby at_159) rfl rfl k) ?_
  refine Go.st (fun _ k => XS.iconst X146.here hx rfl (hb hby at_161) k) ?_
  refine Go.st (S' := T146.setTop (mkF m 163 #[sJ q1, sS, sJ q2, sS, sJ q3, sS, sJ q4, sS, sJ q5, sS, sI p6, sI wi, sR wd, sJ mu, sS, sI n, sI mo, sR b121, sU, sU, sU, sU, sU] [(.int (1 : Int32)), (.int (0 : Int32)), (.ref b121)])) (fun _ k => XS.iconst X146.here hx rfl (hb hby at_162) k) ?_
  obtain ⟨_, T153, L153, X153, ⟨rfl, Nq153, kp153, y153, z153, va153, hle153, hor153⟩, st153⟩ := own_callS X146 hx hZ hown (ww hw 5 rfl) (ww hw 6 rfl) (ww hw 7 rfl) (ww hw 8 rfl) (by decide) rfl (rmCx0 l Z a0 hw [] w_BITS_32 w_BITS_64 hS b121 k121 y128 y131 y135 y140 y146 z146 T146.heap O146 gz121 va146) 0 (by decide) (by decide) (by decide) (by decide) (g := (mkF m 163 #[sJ q1, sS, sJ q2, sS, sJ q3, sS, sJ q4, sS, sJ q5, sS, sI p6, sI wi, sR wd, sJ mu, sS, sI n, sI mo, sR b121, sU, sU, sU, sU, sU] [(.int (1 : Int32)), (.int (0 : Int32)), (.ref b121)])) rfl (by rw [hml]; rfl) [(.ref b121), (.int (0 : Int32)), (.int (1 : Int32))] [] rfl (lenOf pd_659015 rfl) rfl (by show 2 * 0 + _ ≤ _; exact Nat.le_of_eq rfl) (hb hby at_163)
  have N153 := Fr.app N146 Nq153
  have O153 : Ext Z.heap T153.heap := own_Ext.keep O146 kp153 (allS gz121 all0)
  have r154 : U y153 < DD := by rcases hor153 with ⟨rfl, rfl⟩ | ⟨rfl, rfl⟩ <;> omega
  have r155 : U z153 < DD := by rcases hor153 with ⟨rfl, rfl⟩ | ⟨rfl, rfl⟩ <;> omega
  have r156 : U y153 ≤ U z146 := by rcases hor153 with ⟨rfl, rfl⟩ | ⟨rfl, rfl⟩ <;> omega
  have r157 : U z153 ≤ U z146 := by rcases hor153 with ⟨rfl, rfl⟩ | ⟨rfl, rfl⟩ <;> omega
  refine Go.st (S' := T153.setTop (mkF m 166 #[sJ q1, sS, sJ q2, sS, sJ q3, sS, sJ q4, sS, sJ q5, sS, sI p6, sI wi, sR wd, sJ mu, sS, sI n, sI mo, sR b121, sU, sU, sU, sU, sU] [])) st153 ?_
  refine Go.st (fun _ k => XS.aload X153.here hx rfl (hb hby at_166) rfl rfl k) ?_
  refine Go.st (fun _ k => XS.iconst X153.here hx rfl (hb hby at_168) k) ?_
  refine Go.st (S' := T153.setTop (mkF m 170 #[sJ q1, sS, sJ q2, sS, sJ q3, sS, sJ q4, sS, sJ q5, sS, sI p6, sI wi, sR wd, sJ mu, sS, sI n, sI mo, sR b121, sU, sU, sU, sU, sU] [(.int (2 : Int32)), (.int (1 : Int32)), (.ref b121)])) (fun _ k => XS.iconst X153.here hx rfl (hb hby at_169) k) ?_
  obtain ⟨_, T158, L158, X158, ⟨rfl, Nq158, kp158, y158, z158, va158, hle158, hor158⟩, st158⟩ := own_callS X153 hx hZ hown (ww hw 5 rfl) (ww hw 6 rfl) (ww hw 7 rfl) (ww hw 8 rfl) (by decide) rfl (rmCx1 l Z a0 hw [] w_BITS_32 w_BITS_64 hS b121 k121 y153 z153 y135 y140 y146 z146 T153.heap O153 gz121 va153) 0 (by decide) (by decide) (by decide) (by decide) (g := (mkF m 170 #[sJ q1, sS, sJ q2, sS, sJ q3, sS, sJ q4, sS, sJ q5, sS, sI p6, sI wi, sR wd, sJ mu, sS, sI n, sI mo, sR b121, sU, sU, sU, sU, sU] [(.int (2 : Int32)), (.int (1 : Int32)), (.ref b121)])) rfl (by rw [hml]; rfl) [(.ref b121), (.int (1 : Int32)), (.int (2 : Int32))] [] rfl (lenOf pd_659015 rfl) rfl (by show 2 * 0 + _ ≤ _; exact Nat.le_of_eq rfl) (hb hby at_170)
  have N158 := Fr.app N153 Nq158
  have O158 : Ext Z.heap T158.heap := own_Ext.keep O153 kp158 (allS gz121 all0)
  have r159 : U y158 < DD := by rcases hor158 with ⟨rfl, rfl⟩ | ⟨rfl, rfl⟩ <;> omega
  have r160 : U z158 < DD := by rcases hor158 with ⟨rfl, rfl⟩ | ⟨rfl, rfl⟩ <;> omega
  have r161 : U y153 ≤ U z158 := by rcases hor158 with ⟨rfl, rfl⟩ | ⟨rfl, rfl⟩ <;> omega
  have r162 : U y158 ≤ U z146 := by rcases hor158 with ⟨rfl, rfl⟩ | ⟨rfl, rfl⟩ <;> omega
  have r163 : U z158 ≤ U z146 := by rcases hor158 with ⟨rfl, rfl⟩ | ⟨rfl, rfl⟩ <;> omega
  refine Go.st (S' := T158.setTop (mkF m 173 #[sJ q1, sS, sJ q2, sS, sJ q3, sS, sJ q4, sS, sJ q5, sS, sI p6, sI wi, sR wd, sJ mu, sS, sI n, sI mo, sR b121, sU, sU, sU, sU, sU] [])) st158 ?_
  refine Go.st (fun _ k => XS.aload X158.here hx rfl (hb hby at_173) rfl rfl k) ?_
  refine Go.st (fun _ k => XS.iconst X158.here hx rfl (hb hby at_175) k) ?_
  refine Go.st (S' := T158.setTop (mkF m 177 #[sJ q1, sS, sJ q2, sS, sJ q3, sS, sJ q4, sS, sJ q5, sS, sI p6, sI wi, sR wd, sJ mu, sS, sI n, sI mo, sR b121, sU, sU, sU, sU, sU] [(.int (3 : Int32)), (.int (2 : Int32)), (.ref b121)])) (fun _ k => XS.iconst X158.here hx rfl (hb hby at_176) k) ?_
  obtain ⟨_, T164, L164, X164, ⟨rfl, Nq164, kp164, y164, z164, va164, hle164, hor164⟩, st164⟩ := own_callS X158 hx hZ hown (ww hw 5 rfl) (ww hw 6 rfl) (ww hw 7 rfl) (ww hw 8 rfl) (by decide) rfl (rmCx2 l Z a0 hw [] w_BITS_32 w_BITS_64 hS b121 k121 y153 y158 z158 y140 y146 z146 T158.heap O158 gz121 va158) 0 (by decide) (by decide) (by decide) (by decide) (g := (mkF m 177 #[sJ q1, sS, sJ q2, sS, sJ q3, sS, sJ q4, sS, sJ q5, sS, sI p6, sI wi, sR wd, sJ mu, sS, sI n, sI mo, sR b121, sU, sU, sU, sU, sU] [(.int (3 : Int32)), (.int (2 : Int32)), (.ref b121)])) rfl (by rw [hml]; rfl) [(.ref b121), (.int (2 : Int32)), (.int (3 : Int32))] [] rfl (lenOf pd_659015 rfl) rfl (by show 2 * 0 + _ ≤ _; exact Nat.le_of_eq rfl) (hb hby at_177)
  have N164 := Fr.app N158 Nq164
  have O164 : Ext Z.heap T164.heap := own_Ext.keep O158 kp164 (allS gz121 all0)
  have r165 : U y164 < DD := by rcases hor164 with ⟨rfl, rfl⟩ | ⟨rfl, rfl⟩ <;> omega
  have r166 : U z164 < DD := by rcases hor164 with ⟨rfl, rfl⟩ | ⟨rfl, rfl⟩ <;> omega
  have r167 : U y153 ≤ U z164 := by rcases hor164 with ⟨rfl, rfl⟩ | ⟨rfl, rfl⟩ <;> omega
  have r168 : U y158 ≤ U z164 := by rcases hor164 with ⟨rfl, rfl⟩ | ⟨rfl, rfl⟩ <;> omega
  have r169 : U y164 ≤ U z146 := by rcases hor164 with ⟨rfl, rfl⟩ | ⟨rfl, rfl⟩ <;> omega
  have r170 : U z164 ≤ U z146 := by rcases hor164 with ⟨rfl, rfl⟩ | ⟨rfl, rfl⟩ <;> omega
  refine Go.st (S' := T164.setTop (mkF m 180 #[sJ q1, sS, sJ q2, sS, sJ q3, sS, sJ q4, sS, sJ q5, sS, sI p6, sI wi, sR wd, sJ mu, sS, sI n, sI mo, sR b121, sU, sU, sU, sU, sU] [])) st164 ?_
  refine Go.st (fun _ k => XS.aload X164.here hx rfl (hb hby at_180) rfl rfl k) ?_
  refine Go.st (fun _ k => XS.iconst X164.here hx rfl (hb hby at_182) k) ?_
  refine Go.st (S' := T164.setTop (mkF m 184 #[sJ q1, sS, sJ q2, sS, sJ q3, sS, sJ q4, sS, sJ q5, sS, sI p6, sI wi, sR wd, sJ mu, sS, sI n, sI mo, sR b121, sU, sU, sU, sU, sU] [(.int (4 : Int32)), (.int (3 : Int32)), (.ref b121)])) (fun _ k => XS.iconst X164.here hx rfl (hb hby at_183) k) ?_
  obtain ⟨_, T171, L171, X171, ⟨rfl, Nq171, kp171, y171, z171, va171, hle171, hor171⟩, st171⟩ := own_callS X164 hx hZ hown (ww hw 5 rfl) (ww hw 6 rfl) (ww hw 7 rfl) (ww hw 8 rfl) (by decide) rfl (rmCx3 l Z a0 hw [] w_BITS_32 w_BITS_64 hS b121 k121 y153 y158 y164 z164 y146 z146 T164.heap O164 gz121 va164) 0 (by decide) (by decide) (by decide) (by decide) (g := (mkF m 184 #[sJ q1, sS, sJ q2, sS, sJ q3, sS, sJ q4, sS, sJ q5, sS, sI p6, sI wi, sR wd, sJ mu, sS, sI n, sI mo, sR b121, sU, sU, sU, sU, sU] [(.int (4 : Int32)), (.int (3 : Int32)), (.ref b121)])) rfl (by rw [hml]; rfl) [(.ref b121), (.int (3 : Int32)), (.int (4 : Int32))] [] rfl (lenOf pd_659015 rfl) rfl (by show 2 * 0 + _ ≤ _; exact Nat.le_of_eq rfl) (hb hby at_184)
  have N171 := Fr.app N164 Nq171
  have O171 : Ext Z.heap T171.heap := own_Ext.keep O164 kp171 (allS gz121 all0)
  have r172 : U y171 < DD := by rcases hor171 with ⟨rfl, rfl⟩ | ⟨rfl, rfl⟩ <;> omega
  have r173 : U z171 < DD := by rcases hor171 with ⟨rfl, rfl⟩ | ⟨rfl, rfl⟩ <;> omega
  have r174 : U y153 ≤ U z171 := by rcases hor171 with ⟨rfl, rfl⟩ | ⟨rfl, rfl⟩ <;> omega
  have r175 : U y158 ≤ U z171 := by rcases hor171 with ⟨rfl, rfl⟩ | ⟨rfl, rfl⟩ <;> omega
  have r176 : U y164 ≤ U z171 := by rcases hor171 with ⟨rfl, rfl⟩ | ⟨rfl, rfl⟩ <;> omega
  have r177 : U y171 ≤ U z146 := by rcases hor171 with ⟨rfl, rfl⟩ | ⟨rfl, rfl⟩ <;> omega
  have r178 : U z171 ≤ U z146 := by rcases hor171 with ⟨rfl, rfl⟩ | ⟨rfl, rfl⟩ <;> omega
  refine Go.st (S' := T171.setTop (mkF m 187 #[sJ q1, sS, sJ q2, sS, sJ q3, sS, sJ q4, sS, sJ q5, sS, sI p6, sI wi, sR wd, sJ mu, sS, sI n, sI mo, sR b121, sU, sU, sU, sU, sU] [])) st171 ?_
  refine Go.st (fun _ k => XS.aload X171.here hx rfl (hb hby at_187) rfl rfl k) ?_
  refine Go.st (fun _ k => XS.iconst X171.here hx rfl (hb hby at_189) k) ?_
  refine Go.st (S' := T171.setTop (mkF m 191 #[sJ q1, sS, sJ q2, sS, sJ q3, sS, sJ q4, sS, sJ q5, sS, sI p6, sI wi, sR wd, sJ mu, sS, sI n, sI mo, sR b121, sU, sU, sU, sU, sU] [(.int (1 : Int32)), (.int (0 : Int32)), (.ref b121)])) (fun _ k => XS.iconst X171.here hx rfl (hb hby at_190) k) ?_
  obtain ⟨_, T179, L179, X179, ⟨rfl, Nq179, kp179, y179, z179, va179, hle179, hor179⟩, st179⟩ := own_callS X171 hx hZ hown (ww hw 5 rfl) (ww hw 6 rfl) (ww hw 7 rfl) (ww hw 8 rfl) (by decide) rfl (rmCx0 l Z a0 hw [] w_BITS_32 w_BITS_64 hS b121 k121 y153 y158 y164 y171 z171 z146 T171.heap O171 gz121 va171) 0 (by decide) (by decide) (by decide) (by decide) (g := (mkF m 191 #[sJ q1, sS, sJ q2, sS, sJ q3, sS, sJ q4, sS, sJ q5, sS, sI p6, sI wi, sR wd, sJ mu, sS, sI n, sI mo, sR b121, sU, sU, sU, sU, sU] [(.int (1 : Int32)), (.int (0 : Int32)), (.ref b121)])) rfl (by rw [hml]; rfl) [(.ref b121), (.int (0 : Int32)), (.int (1 : Int32))] [] rfl (lenOf pd_659015 rfl) rfl (by show 2 * 0 + _ ≤ _; exact Nat.le_of_eq rfl) (hb hby at_191)
  have N179 := Fr.app N171 Nq179
  have O179 : Ext Z.heap T179.heap := own_Ext.keep O171 kp179 (allS gz121 all0)
  have r180 : U y179 < DD := by rcases hor179 with ⟨rfl, rfl⟩ | ⟨rfl, rfl⟩ <;> omega
  have r181 : U z179 < DD := by rcases hor179 with ⟨rfl, rfl⟩ | ⟨rfl, rfl⟩ <;> omega
  have r182 : U y179 ≤ U z171 := by rcases hor179 with ⟨rfl, rfl⟩ | ⟨rfl, rfl⟩ <;> omega
  have r183 : U z179 ≤ U z171 := by rcases hor179 with ⟨rfl, rfl⟩ | ⟨rfl, rfl⟩ <;> omega
  have r184 : U y179 ≤ U z146 := by rcases hor179 with ⟨rfl, rfl⟩ | ⟨rfl, rfl⟩ <;> omega
  have r185 : U z179 ≤ U z146 := by rcases hor179 with ⟨rfl, rfl⟩ | ⟨rfl, rfl⟩ <;> omega
  refine Go.st (S' := T179.setTop (mkF m 194 #[sJ q1, sS, sJ q2, sS, sJ q3, sS, sJ q4, sS, sJ q5, sS, sI p6, sI wi, sR wd, sJ mu, sS, sI n, sI mo, sR b121, sU, sU, sU, sU, sU] [])) st179 ?_
  refine Go.st (fun _ k => XS.aload X179.here hx rfl (hb hby at_194) rfl rfl k) ?_
  refine Go.st (fun _ k => XS.iconst X179.here hx rfl (hb hby at_196) k) ?_
  refine Go.st (S' := T179.setTop (mkF m 198 #[sJ q1, sS, sJ q2, sS, sJ q3, sS, sJ q4, sS, sJ q5, sS, sI p6, sI wi, sR wd, sJ mu, sS, sI n, sI mo, sR b121, sU, sU, sU, sU, sU] [(.int (2 : Int32)), (.int (1 : Int32)), (.ref b121)])) (fun _ k => XS.iconst X179.here hx rfl (hb hby at_197) k) ?_
  obtain ⟨_, T186, L186, X186, ⟨rfl, Nq186, kp186, y186, z186, va186, hle186, hor186⟩, st186⟩ := own_callS X179 hx hZ hown (ww hw 5 rfl) (ww hw 6 rfl) (ww hw 7 rfl) (ww hw 8 rfl) (by decide) rfl (rmCx1 l Z a0 hw [] w_BITS_32 w_BITS_64 hS b121 k121 y179 z179 y164 y171 z171 z146 T179.heap O179 gz121 va179) 0 (by decide) (by decide) (by decide) (by decide) (g := (mkF m 198 #[sJ q1, sS, sJ q2, sS, sJ q3, sS, sJ q4, sS, sJ q5, sS, sI p6, sI wi, sR wd, sJ mu, sS, sI n, sI mo, sR b121, sU, sU, sU, sU, sU] [(.int (2 : Int32)), (.int (1 : Int32)), (.ref b121)])) rfl (by rw [hml]; rfl) [(.ref b121), (.int (1 : Int32)), (.int (2 : Int32))] [] rfl (lenOf pd_659015 rfl) rfl (by show 2 * 0 + _ ≤ _; exact Nat.le_of_eq rfl) (hb hby at_198)
  have N186 := Fr.app N179 Nq186
  have O186 : Ext Z.heap T186.heap := own_Ext.keep O179 kp186 (allS gz121 all0)
  have r187 : U y186 < DD := by rcases hor186 with ⟨rfl, rfl⟩ | ⟨rfl, rfl⟩ <;> omega
  have r188 : U z186 < DD := by rcases hor186 with ⟨rfl, rfl⟩ | ⟨rfl, rfl⟩ <;> omega
  have r189 : U y179 ≤ U z186 := by rcases hor186 with ⟨rfl, rfl⟩ | ⟨rfl, rfl⟩ <;> omega
  have r190 : U y186 ≤ U z171 := by rcases hor186 with ⟨rfl, rfl⟩ | ⟨rfl, rfl⟩ <;> omega
  have r191 : U z186 ≤ U z171 := by rcases hor186 with ⟨rfl, rfl⟩ | ⟨rfl, rfl⟩ <;> omega
  have r192 : U y186 ≤ U z146 := by rcases hor186 with ⟨rfl, rfl⟩ | ⟨rfl, rfl⟩ <;> omega
  have r193 : U z186 ≤ U z146 := by rcases hor186 with ⟨rfl, rfl⟩ | ⟨rfl, rfl⟩ <;> omega
  refine Go.st (S' := T186.setTop (mkF m 201 #[sJ q1, sS, sJ q2, sS, sJ q3, sS, sJ q4, sS, sJ q5, sS, sI p6, sI wi, sR wd, sJ mu, sS, sI n, sI mo, sR b121, sU, sU, sU, sU, sU] [])) st186 ?_
  refine Go.st (fun _ k => XS.aload X186.here hx rfl (hb hby at_201) rfl rfl k) ?_
  refine Go.st (fun _ k => XS.iconst X186.here hx rfl (hb hby at_203) k) ?_
  refine Go.st (S' := T186.setTop (mkF m 205 #[sJ q1, sS, sJ q2, sS, sJ q3, sS, sJ q4, sS, sJ q5, sS, sI p6, sI wi, sR wd, sJ mu, sS, sI n, sI mo, sR b121, sU, sU, sU, sU, sU] [(.int (3 : Int32)), (.int (2 : Int32)), (.ref b121)])) (fun _ k => XS.iconst X186.here hx rfl (hb hby at_204) k) ?_
  obtain ⟨_, T194, L194, X194, ⟨rfl, Nq194, kp194, y194, z194, va194, hle194, hor194⟩, st194⟩ := own_callS X186 hx hZ hown (ww hw 5 rfl) (ww hw 6 rfl) (ww hw 7 rfl) (ww hw 8 rfl) (by decide) rfl (rmCx2 l Z a0 hw [] w_BITS_32 w_BITS_64 hS b121 k121 y179 y186 z186 y171 z171 z146 T186.heap O186 gz121 va186) 0 (by decide) (by decide) (by decide) (by decide) (g := (mkF m 205 #[sJ q1, sS, sJ q2, sS, sJ q3, sS, sJ q4, sS, sJ q5, sS, sI p6, sI wi, sR wd, sJ mu, sS, sI n, sI mo, sR b121, sU, sU, sU, sU, sU] [(.int (3 : Int32)), (.int (2 : Int32)), (.ref b121)])) rfl (by rw [hml]; rfl) [(.ref b121), (.int (2 : Int32)), (.int (3 : Int32))] [] rfl (lenOf pd_659015 rfl) rfl (by show 2 * 0 + _ ≤ _; exact Nat.le_of_eq rfl) (hb hby at_205)
  have N194 := Fr.app N186 Nq194
  have O194 : Ext Z.heap T194.heap := own_Ext.keep O186 kp194 (allS gz121 all0)
  have r195 : U y194 < DD := by rcases hor194 with ⟨rfl, rfl⟩ | ⟨rfl, rfl⟩ <;> omega
  have r196 : U z194 < DD := by rcases hor194 with ⟨rfl, rfl⟩ | ⟨rfl, rfl⟩ <;> omega
  have r197 : U y179 ≤ U z194 := by rcases hor194 with ⟨rfl, rfl⟩ | ⟨rfl, rfl⟩ <;> omega
  have r198 : U y186 ≤ U z194 := by rcases hor194 with ⟨rfl, rfl⟩ | ⟨rfl, rfl⟩ <;> omega
  have r199 : U y194 ≤ U z171 := by rcases hor194 with ⟨rfl, rfl⟩ | ⟨rfl, rfl⟩ <;> omega
  have r200 : U z194 ≤ U z171 := by rcases hor194 with ⟨rfl, rfl⟩ | ⟨rfl, rfl⟩ <;> omega
  have r201 : U y194 ≤ U z146 := by rcases hor194 with ⟨rfl, rfl⟩ | ⟨rfl, rfl⟩ <;> omega
  have r202 : U z194 ≤ U z146 := by rcases hor194 with ⟨rfl, rfl⟩ | ⟨rfl, rfl⟩ <;> omega
  refine Go.st (S' := T194.setTop (mkF m 208 #[sJ q1, sS, sJ q2, sS, sJ q3, sS, sJ q4, sS, sJ q5, sS, sI p6, sI wi, sR wd, sJ mu, sS, sI n, sI mo, sR b121, sU, sU, sU, sU, sU] [])) st194 ?_
  refine Go.st (fun _ k => XS.aload X194.here hx rfl (hb hby at_208) rfl rfl k) ?_
  refine Go.st (fun _ k => XS.iconst X194.here hx rfl (hb hby at_210) k) ?_
  refine Go.st (S' := T194.setTop (mkF m 212 #[sJ q1, sS, sJ q2, sS, sJ q3, sS, sJ q4, sS, sJ q5, sS, sI p6, sI wi, sR wd, sJ mu, sS, sI n, sI mo, sR b121, sU, sU, sU, sU, sU] [(.int (1 : Int32)), (.int (0 : Int32)), (.ref b121)])) (fun _ k => XS.iconst X194.here hx rfl (hb hby at_211) k) ?_
  obtain ⟨_, T203, L203, X203, ⟨rfl, Nq203, kp203, y203, z203, va203, hle203, hor203⟩, st203⟩ := own_callS X194 hx hZ hown (ww hw 5 rfl) (ww hw 6 rfl) (ww hw 7 rfl) (ww hw 8 rfl) (by decide) rfl (rmCx0 l Z a0 hw [] w_BITS_32 w_BITS_64 hS b121 k121 y179 y186 y194 z194 z171 z146 T194.heap O194 gz121 va194) 0 (by decide) (by decide) (by decide) (by decide) (g := (mkF m 212 #[sJ q1, sS, sJ q2, sS, sJ q3, sS, sJ q4, sS, sJ q5, sS, sI p6, sI wi, sR wd, sJ mu, sS, sI n, sI mo, sR b121, sU, sU, sU, sU, sU] [(.int (1 : Int32)), (.int (0 : Int32)), (.ref b121)])) rfl (by rw [hml]; rfl) [(.ref b121), (.int (0 : Int32)), (.int (1 : Int32))] [] rfl (lenOf pd_659015 rfl) rfl (by show 2 * 0 + _ ≤ _; exact Nat.le_of_eq rfl) (hb hby at_212)
  have N203 := Fr.app N194 Nq203
  have O203 : Ext Z.heap T203.heap := own_Ext.keep O194 kp203 (allS gz121 all0)
  have r204 : U y203 < DD := by rcases hor203 with ⟨rfl, rfl⟩ | ⟨rfl, rfl⟩ <;> omega
  have r205 : U z203 < DD := by rcases hor203 with ⟨rfl, rfl⟩ | ⟨rfl, rfl⟩ <;> omega
  have r206 : U y203 ≤ U z194 := by rcases hor203 with ⟨rfl, rfl⟩ | ⟨rfl, rfl⟩ <;> omega
  have r207 : U z203 ≤ U z194 := by rcases hor203 with ⟨rfl, rfl⟩ | ⟨rfl, rfl⟩ <;> omega
  have r208 : U y203 ≤ U z171 := by rcases hor203 with ⟨rfl, rfl⟩ | ⟨rfl, rfl⟩ <;> omega
  have r209 : U z203 ≤ U z171 := by rcases hor203 with ⟨rfl, rfl⟩ | ⟨rfl, rfl⟩ <;> omega
  have r210 : U y203 ≤ U z146 := by rcases hor203 with ⟨rfl, rfl⟩ | ⟨rfl, rfl⟩ <;> omega
  have r211 : U z203 ≤ U z146 := by rcases hor203 with ⟨rfl, rfl⟩ | ⟨rfl, rfl⟩ <;> omega
  refine Go.st (S' := T203.setTop (mkF m 215 #[sJ q1, sS, sJ q2, sS, sJ q3, sS, sJ q4, sS, sJ q5, sS, sI p6, sI wi, sR wd, sJ mu, sS, sI n, sI mo, sR b121, sU, sU, sU, sU, sU] [])) st203 ?_
  refine Go.st (fun _ k => XS.aload X203.here hx rfl (hb hby at_215) rfl rfl k) ?_
  refine Go.st (fun _ k => XS.iconst X203.here hx rfl (hb hby at_217) k) ?_
  refine Go.st (S' := T203.setTop (mkF m 219 #[sJ q1, sS, sJ q2, sS, sJ q3, sS, sJ q4, sS, sJ q5, sS, sI p6, sI wi, sR wd, sJ mu, sS, sI n, sI mo, sR b121, sU, sU, sU, sU, sU] [(.int (2 : Int32)), (.int (1 : Int32)), (.ref b121)])) (fun _ k => XS.iconst X203.here hx rfl (hb hby at_218) k) ?_
  obtain ⟨_, T212, L212, X212, ⟨rfl, Nq212, kp212, y212, z212, va212, hle212, hor212⟩, st212⟩ := own_callS X203 hx hZ hown (ww hw 5 rfl) (ww hw 6 rfl) (ww hw 7 rfl) (ww hw 8 rfl) (by decide) rfl (rmCx1 l Z a0 hw [] w_BITS_32 w_BITS_64 hS b121 k121 y203 z203 y194 z194 z171 z146 T203.heap O203 gz121 va203) 0 (by decide) (by decide) (by decide) (by decide) (g := (mkF m 219 #[sJ q1, sS, sJ q2, sS, sJ q3, sS, sJ q4, sS, sJ q5, sS, sI p6, sI wi, sR wd, sJ mu, sS, sI n, sI mo, sR b121, sU, sU, sU, sU, sU] [(.int (2 : Int32)), (.int (1 : Int32)), (.ref b121)])) rfl (by rw [hml]; rfl) [(.ref b121), (.int (1 : Int32)), (.int (2 : Int32))] [] rfl (lenOf pd_659015 rfl) rfl (by show 2 * 0 + _ ≤ _; exact Nat.le_of_eq rfl) (hb hby at_219)
  have N212 := Fr.app N203 Nq212
  have O212 : Ext Z.heap T212.heap := own_Ext.keep O203 kp212 (allS gz121 all0)
  have r213 : U y212 < DD := by rcases hor212 with ⟨rfl, rfl⟩ | ⟨rfl, rfl⟩ <;> omega
  have r214 : U z212 < DD := by rcases hor212 with ⟨rfl, rfl⟩ | ⟨rfl, rfl⟩ <;> omega
  have r215 : U y203 ≤ U z212 := by rcases hor212 with ⟨rfl, rfl⟩ | ⟨rfl, rfl⟩ <;> omega
  have r216 : U y212 ≤ U z194 := by rcases hor212 with ⟨rfl, rfl⟩ | ⟨rfl, rfl⟩ <;> omega
  have r217 : U z212 ≤ U z194 := by rcases hor212 with ⟨rfl, rfl⟩ | ⟨rfl, rfl⟩ <;> omega
  have r218 : U y212 ≤ U z171 := by rcases hor212 with ⟨rfl, rfl⟩ | ⟨rfl, rfl⟩ <;> omega
  have r219 : U z212 ≤ U z171 := by rcases hor212 with ⟨rfl, rfl⟩ | ⟨rfl, rfl⟩ <;> omega
  have r220 : U y212 ≤ U z146 := by rcases hor212 with ⟨rfl, rfl⟩ | ⟨rfl, rfl⟩ <;> omega
  have r221 : U z212 ≤ U z146 := by rcases hor212 with ⟨rfl, rfl⟩ | ⟨rfl, rfl⟩ <;> omega
  refine Go.st (S' := T212.setTop (mkF m 222 #[sJ q1, sS, sJ q2, sS, sJ q3, sS, sJ q4, sS, sJ q5, sS, sI p6, sI wi, sR wd, sJ mu, sS, sI n, sI mo, sR b121, sU, sU, sU, sU, sU] [])) st212 ?_
  refine Go.st (fun _ k => XS.aload X212.here hx rfl (hb hby at_222) rfl rfl k) ?_
  refine Go.st (fun _ k => XS.iconst X212.here hx rfl (hb hby at_224) k) ?_
  refine Go.st (S' := T212.setTop (mkF m 226 #[sJ q1, sS, sJ q2, sS, sJ q3, sS, sJ q4, sS, sJ q5, sS, sI p6, sI wi, sR wd, sJ mu, sS, sI n, sI mo, sR b121, sU, sU, sU, sU, sU] [(.int (1 : Int32)), (.int (0 : Int32)), (.ref b121)])) (fun _ k => XS.iconst X212.here hx rfl (hb hby at_225) k) ?_
  obtain ⟨_, T222, L222, X222, ⟨rfl, Nq222, kp222, y222, z222, va222, hle222, hor222⟩, st222⟩ := own_callS X212 hx hZ hown (ww hw 5 rfl) (ww hw 6 rfl) (ww hw 7 rfl) (ww hw 8 rfl) (by decide) rfl (rmCx0 l Z a0 hw [] w_BITS_32 w_BITS_64 hS b121 k121 y203 y212 z212 z194 z171 z146 T212.heap O212 gz121 va212) 0 (by decide) (by decide) (by decide) (by decide) (g := (mkF m 226 #[sJ q1, sS, sJ q2, sS, sJ q3, sS, sJ q4, sS, sJ q5, sS, sI p6, sI wi, sR wd, sJ mu, sS, sI n, sI mo, sR b121, sU, sU, sU, sU, sU] [(.int (1 : Int32)), (.int (0 : Int32)), (.ref b121)])) rfl (by rw [hml]; rfl) [(.ref b121), (.int (0 : Int32)), (.int (1 : Int32))] [] rfl (lenOf pd_659015 rfl) rfl (by show 2 * 0 + _ ≤ _; exact Nat.le_of_eq rfl) (hb hby at_226)
  have N222 := Fr.app N212 Nq222
  have O222 : Ext Z.heap T222.heap := own_Ext.keep O212 kp222 (allS gz121 all0)
  have r223 : U y222 < DD := by rcases hor222 with ⟨rfl, rfl⟩ | ⟨rfl, rfl⟩ <;> omega
  have r224 : U z222 < DD := by rcases hor222 with ⟨rfl, rfl⟩ | ⟨rfl, rfl⟩ <;> omega
  have r225 : U y222 ≤ U z212 := by rcases hor222 with ⟨rfl, rfl⟩ | ⟨rfl, rfl⟩ <;> omega
  have r226 : U z222 ≤ U z212 := by rcases hor222 with ⟨rfl, rfl⟩ | ⟨rfl, rfl⟩ <;> omega
  have r227 : U y222 ≤ U z194 := by rcases hor222 with ⟨rfl, rfl⟩ | ⟨rfl, rfl⟩ <;> omega
  have r228 : U z222 ≤ U z194 := by rcases hor222 with ⟨rfl, rfl⟩ | ⟨rfl, rfl⟩ <;> omega
  have r229 : U y222 ≤ U z171 := by rcases hor222 with ⟨rfl, rfl⟩ | ⟨rfl, rfl⟩ <;> omega
  have r230 : U z222 ≤ U z171 := by rcases hor222 with ⟨rfl, rfl⟩ | ⟨rfl, rfl⟩ <;> omega
  have r231 : U y222 ≤ U z146 := by rcases hor222 with ⟨rfl, rfl⟩ | ⟨rfl, rfl⟩ <;> omega
  have r232 : U z222 ≤ U z146 := by rcases hor222 with ⟨rfl, rfl⟩ | ⟨rfl, rfl⟩ <;> omega
  refine Go.st (S' := T222.setTop (mkF m 229 #[sJ q1, sS, sJ q2, sS, sJ q3, sS, sJ q4, sS, sJ q5, sS, sI p6, sI wi, sR wd, sJ mu, sS, sI n, sI mo, sR b121, sU, sU, sU, sU, sU] [])) st222 ?_
  exact rB l Z a0 hw w_BITS_32 w_BITS_64 hS q1 q2 q3 q4 q5 p6 p e s m below meth c ⟨hx, hby, hml, hown, hnm, hret, hlk, hZ⟩ _ _ _ (X222.mono (by decide) (by decide)) rfl N222 O222 _ _ _ _ _ _ _ _ _ y222 z222 z212 z194 z171 z146 ((((((((((((((((((((((Ewd.ext E121).wr W122).wr W123).wr W124).wr W125).wr W126).wr W127).keep kp128).keep kp131).keep kp135).keep kp140).keep kp146).keep kp153).keep kp158).keep kp164).keep kp171).keep kp179).keep kp186).keep kp194).keep kp203).keep kp212).keep kp222) ((((((((((((((((((((((Fwd.ext E121).other W122 (Or.inl ne_wd_b121)).other W123 (Or.inl ne_wd_b121)).other W124 (Or.inl ne_wd_b121)).other W125 (Or.inl ne_wd_b121)).other W126 (Or.inl ne_wd_b121)).other W127 (Or.inl ne_wd_b121)).keep kp128 (ninS ne_wd_b121 nin0)).keep kp131 (ninS ne_wd_b121 nin0)).keep kp135 (ninS ne_wd_b121 nin0)).keep kp140 (ninS ne_wd_b121 nin0)).keep kp146 (ninS ne_wd_b121 nin0)).keep kp153 (ninS ne_wd_b121 nin0)).keep kp158 (ninS ne_wd_b121 nin0)).keep kp164 (ninS ne_wd_b121 nin0)).keep kp171 (ninS ne_wd_b121 nin0)).keep kp179 (ninS ne_wd_b121 nin0)).keep kp186 (ninS ne_wd_b121 nin0)).keep kp194 (ninS ne_wd_b121 nin0)).keep kp203 (ninS ne_wd_b121 nin0)).keep kp212 (ninS ne_wd_b121 nin0)).keep kp222 (ninS ne_wd_b121 nin0)) va222 gz121 hM hmu hqn hle222 r226 r217 r200 r178 r223 r224 r214 r196 r173 r148
set_option maxRecDepth 65536 in
set_option maxHeartbeats 400000000 in
theorem rm0 (l : Launch) (Z : State) (a0 : Array Value) (hw : ∀ d ∈ tables_1, d.before a0 Z = true) (ws : List Jvm.Cond) (w_BITS_32 : Addr) (w_BITS_64 : Addr) (hS : SF Z w_BITS_32 w_BITS_64) (q1 : Int64) (q2 : Int64) (q3 : Int64) (q4 : Int64) (q5 : Int64) (p6 : Int32) (h0 : Heap) (O0 : Ext Z.heap h0)  :
    Con l Z h0 x code maxLocals ret ws room_1 #[(.long q1), (.long q2), (.long q3), (.long q4), (.long q5), (.int p6)] (fun v h L => v = some (.int 1) ∧ Fr Z.heap.size L) := by
  obtain ⟨S_BITS_32, E_BITS_32, F_BITS_32_bits, S_BITS_64, E_BITS_64, F_BITS_64_bits⟩ := id hS
  refine own_con (plainFor_of_name pn_372981) ?_
  intro p e s m below meth c T0 X0 hx hby hml hown hnm hret hlk hZ e0
  have hown : s.vm.findClass "com/example/lenkki/lenkki/PositionIndexFirstAtOrAfterPinLaw" = some m.cls := hown
  have N0 := Fr.nil Z.heap.size
  refine Go.st (S' := T0.setTop (mkF m 0 #[sJ q1, sS, sJ q2, sS, sJ q3, sS, sJ q4, sS, sJ q5, sS, sI p6, sU, sU, sU, sU, sU, sU, sU, sU, sU, sU, sU, sU] [])) (fun _ k => castTop (ef_rm0 m q1 q2 q3 q4 q5 p6) k) ?_
  refine Go.st (fun _ k => XS.iload X0.here hx rfl (hb hby at_0) rfl k) ?_
  refine Go.st (fun _ k => XS.iconst X0.here hx rfl (hb hby at_2) k) ?_
  refine Go.st (S' := T0.setTop (mkF m 4 #[sJ q1, sS, sJ q2, sS, sJ q3, sS, sJ q4, sS, sJ q5, sS, sI p6, sU, sU, sU, sU, sU, sU, sU, sU, sU, sU, sU, sU] [(.int (p6 &&& (1 : Int32)))])) (fun _ k => XS.iand X0.here hx rfl (hb hby at_3) rfl k) ?_
  by_cases hc4 : (p6 &&& (1 : Int32)) = (0 : Int32)
  · refine Go.st (fun _ k => XS.ifYes X0.here hx rfl (pc0 := 4) (pc' := 11) rfl (hb hby at_4) rfl ((if0 _ _).trans (teq hc4).1) (by decide) (by decide) k) ?_
    refine Go.st (fun _ k => XS.iconst X0.here hx rfl (hb hby at_11) k) ?_
    refine Go.st (fun _ k => XS.istore X0.here hx rfl (hb hby at_12) rfl (l' := #[sJ q1, sS, sJ q2, sS, sJ q3, sS, sJ q4, sS, sJ q5, sS, sI p6, sI 0, sU, sU, sU, sU, sU, sU, sU, sU, sU, sU, sU]) rfl k) ?_
    refine Go.st (S' := T0.setTop (mkF m 16 #[sJ q1, sS, sJ q2, sS, sJ q3, sS, sJ q4, sS, sJ q5, sS, sI p6, sI 0, sU, sU, sU, sU, sU, sU, sU, sU, sU, sU, sU] [(.int (0 : Int32))])) (fun _ k => XS.iload X0.here hx rfl (hb hby at_14) rfl k) ?_
    refine Go.st (S' := T0.setTop (mkF m 25 #[sJ q1, sS, sJ q2, sS, sJ q3, sS, sJ q4, sS, sJ q5, sS, sI p6, sI 0, sU, sU, sU, sU, sU, sU, sU, sU, sU, sU, sU] [])) (fun _ k => XS.ifYes X0.here hx rfl (pc0 := 16) (pc' := 25) rfl (hb hby at_16) rfl ((if0 _ _).trans (teq (by decide)).1) (by decide) (by decide) k) ?_
    obtain ⟨T120, X120, e120, st120⟩ := getS2 X0 hx hZ hown (host := "") (Or.inl (ww hw 0 rfl)) Via.refl e0 (S_BITS_32.ext O0) (g := (mkF m 25 #[sJ q1, sS, sJ q2, sS, sJ q3, sS, sJ q4, sS, sJ q5, sS, sI p6, sI 0, sU, sU, sU, sU, sU, sU, sU, sU, sU, sU, sU] [])) rfl (hb hby at_25)
    refine Go.st (S' := T120.setTop (mkF m 28 #[sJ q1, sS, sJ q2, sS, sJ q3, sS, sJ q4, sS, sJ q5, sS, sI p6, sI 0, sU, sU, sU, sU, sU, sU, sU, sU, sU, sU, sU] [(.ref w_BITS_32)])) st120 ?_
    refine Go.st (fun _ k => XS.astore X120.here hx rfl (hb hby at_28) rfl rfl (l' := #[sJ q1, sS, sJ q2, sS, sJ q3, sS, sJ q4, sS, sJ q5, sS, sI p6, sI 0, sR w_BITS_32, sU, sU, sU, sU, sU, sU, sU, sU, sU, sU]) rfl k) ?_
    refine Go.st (S' := T120.setTop (mkF m 32 #[sJ q1, sS, sJ q2, sS, sJ q3, sS, sJ q4, sS, sJ q5, sS, sI p6, sI 0, sR w_BITS_32, sU, sU, sU, sU, sU, sU, sU, sU, sU, sU] [(.int (0 : Int32))])) (fun _ k => XS.iload X120.here hx rfl (hb hby at_30) rfl k) ?_
    refine Go.st (S' := T120.setTop (mkF m 41 #[sJ q1, sS, sJ q2, sS, sJ q3, sS, sJ q4, sS, sJ q5, sS, sI p6, sI 0, sR w_BITS_32, sU, sU, sU, sU, sU, sU, sU, sU, sU, sU] [])) (fun _ k => XS.ifYes X120.here hx rfl (pc0 := 32) (pc' := 41) rfl (hb hby at_32) rfl ((if0 _ _).trans (teq (by decide)).1) (by decide) (by decide) k) ?_
    refine Go.st (S' := T120.setTop (mkF m 44 #[sJ q1, sS, sJ q2, sS, sJ q3, sS, sJ q4, sS, sJ q5, sS, sI p6, sI 0, sR w_BITS_32, sU, sU, sU, sU, sU, sU, sU, sU, sU, sU] [(.long (4294967295 : Int64))])) (X120.ldc2Long hx hown (mvT hZ (ww hw 3 rfl)) (g := (mkF m 41 #[sJ q1, sS, sJ q2, sS, sJ q3, sS, sJ q4, sS, sJ q5, sS, sI p6, sI 0, sR w_BITS_32, sU, sU, sU, sU, sU, sU, sU, sU, sU, sU] [])) rfl (hb hby at_41)) ?_
    exact rA l Z a0 hw w_BITS_32 w_BITS_64 hS q1 q2 q3 q4 q5 p6 p e s m below meth c ⟨hx, hby, hml, hown, hnm, hret, hlk, hZ⟩ _ _ _ (X120.mono (by decide) (by decide)) e120 N0 O0 _ _ _ (2 ^ 32) _ (E_BITS_32.ext O0) (F_BITS_32_bits.ext O0) (Or.inr ⟨rfl, rfl⟩) (fun x => own_m32 _)
  · refine Go.st (fun _ k => XS.ifNo X0.here hx rfl (hb hby at_4) rfl ((if0 _ _).trans (feq hc4).1) k) ?_
    refine Go.st (fun _ k => XS.iconst X0.here hx rfl (hb hby at_7) k) ?_
    refine Go.st (fun _ k => XS.goto X0.here hx rfl (pc0 := 8) (pc' := 12) rfl (hb hby at_8) (by decide) (by decide) k) ?_
    refine Go.st (fun _ k => XS.istore X0.here hx rfl (hb hby at_12) rfl (l' := #[sJ q1, sS, sJ q2, sS, sJ q3, sS, sJ q4, sS, sJ q5, sS, sI p6, sI 1, sU, sU, sU, sU, sU, sU, sU, sU, sU, sU, sU]) rfl k) ?_
    refine Go.st (S' := T0.setTop (mkF m 16 #[sJ q1, sS, sJ q2, sS, sJ q3, sS, sJ q4, sS, sJ q5, sS, sI p6, sI 1, sU, sU, sU, sU, sU, sU, sU, sU, sU, sU, sU] [(.int (1 : Int32))])) (fun _ k => XS.iload X0.here hx rfl (hb hby at_14) rfl k) ?_
    refine Go.st (S' := T0.setTop (mkF m 19 #[sJ q1, sS, sJ q2, sS, sJ q3, sS, sJ q4, sS, sJ q5, sS, sI p6, sI 1, sU, sU, sU, sU, sU, sU, sU, sU, sU, sU, sU] [])) (fun _ k => XS.ifNo X0.here hx rfl (hb hby at_16) rfl ((if0 _ _).trans (feq (by decide)).1) k) ?_
    obtain ⟨T287, X287, e287, st287⟩ := getS2 X0 hx hZ hown (host := "") (Or.inl (ww hw 62 rfl)) Via.refl e0 (S_BITS_64.ext O0) (g := (mkF m 19 #[sJ q1, sS, sJ q2, sS, sJ q3, sS, sJ q4, sS, sJ q5, sS, sI p6, sI 1, sU, sU, sU, sU, sU, sU, sU, sU, sU, sU, sU] [])) rfl (hb hby at_19)
    refine Go.st (S' := T287.setTop (mkF m 22 #[sJ q1, sS, sJ q2, sS, sJ q3, sS, sJ q4, sS, sJ q5, sS, sI p6, sI 1, sU, sU, sU, sU, sU, sU, sU, sU, sU, sU, sU] [(.ref w_BITS_64)])) st287 ?_
    refine Go.st (fun _ k => XS.goto X287.here hx rfl (pc0 := 22) (pc' := 28) rfl (hb hby at_22) (by decide) (by decide) k) ?_
    refine Go.st (fun _ k => XS.astore X287.here hx rfl (hb hby at_28) rfl rfl (l' := #[sJ q1, sS, sJ q2, sS, sJ q3, sS, sJ q4, sS, sJ q5, sS, sI p6, sI 1, sR w_BITS_64, sU, sU, sU, sU, sU, sU, sU, sU, sU, sU]) rfl k) ?_
    refine Go.st (S' := T287.setTop (mkF m 32 #[sJ q1, sS, sJ q2, sS, sJ q3, sS, sJ q4, sS, sJ q5, sS, sI p6, sI 1, sR w_BITS_64, sU, sU, sU, sU, sU, sU, sU, sU, sU, sU] [(.int (1 : Int32))])) (fun _ k => XS.iload X287.here hx rfl (hb hby at_30) rfl k) ?_
    refine Go.st (S' := T287.setTop (mkF m 35 #[sJ q1, sS, sJ q2, sS, sJ q3, sS, sJ q4, sS, sJ q5, sS, sI p6, sI 1, sR w_BITS_64, sU, sU, sU, sU, sU, sU, sU, sU, sU, sU] [])) (fun _ k => XS.ifNo X287.here hx rfl (hb hby at_32) rfl ((if0 _ _).trans (feq (by decide)).1) k) ?_
    refine Go.st (S' := T287.setTop (mkF m 38 #[sJ q1, sS, sJ q2, sS, sJ q3, sS, sJ q4, sS, sJ q5, sS, sI p6, sI 1, sR w_BITS_64, sU, sU, sU, sU, sU, sU, sU, sU, sU, sU] [(.long (-1 : Int64))])) (X287.ldc2Long hx hown (mvT hZ (ww hw 64 rfl)) (g := (mkF m 35 #[sJ q1, sS, sJ q2, sS, sJ q3, sS, sJ q4, sS, sJ q5, sS, sI p6, sI 1, sR w_BITS_64, sU, sU, sU, sU, sU, sU, sU, sU, sU, sU] [])) rfl (hb hby at_35)) ?_
    refine Go.st (S' := T287.setTop (mkF m 44 #[sJ q1, sS, sJ q2, sS, sJ q3, sS, sJ q4, sS, sJ q5, sS, sI p6, sI 1, sR w_BITS_64, sU, sU, sU, sU, sU, sU, sU, sU, sU, sU] [(.long (-1 : Int64))])) (fun _ k => XS.goto X287.here hx rfl (pc0 := 38) (pc' := 44) rfl (hb hby at_38) (by decide) (by decide) k) ?_
    exact rA l Z a0 hw w_BITS_32 w_BITS_64 hS q1 q2 q3 q4 q5 p6 p e s m below meth c ⟨hx, hby, hml, hown, hnm, hret, hlk, hZ⟩ _ _ _ (X287.mono (by decide) (by decide)) e287 N0 O0 _ _ _ (2 ^ 64) _ (E_BITS_64.ext O0) (F_BITS_64_bits.ext O0) (Or.inl ⟨rfl, rfl⟩) (fun x => own_m64 _)
set_option maxRecDepth 65536 in
set_option maxHeartbeats 400000000 in
theorem comes_1 {Post : Tables → Env → Array Value → State → Outcome → State → Prop} (hpost : ∀ tb e args s v u, (limb_1_1.after args s (.returned v) u = true ∧ limb_1_2.after args s (.returned v) u = true ∧ True) → FrameEnd s (.returned v) u (Jvm.fieldLocs frame_1_writes args s ++ Jvm.arrayLocs frame_1_arrays args s ++ Jvm.staticLocs frame_1_statics s) 16 128 → Post tb e args s (.returned v) u) :
    ArmFor flags0 classFile x code maxLocals ret World_1 tables_1 room_1 Calls_1 rest_1 Pre_1 Post := by
  intro l hfl _ _ p e ha hc hk s m args below hf hA hF happ hP
  obtain ⟨hcalls, hrest, hpre⟩ := hP
  obtain ⟨-, -, -, hnamed, -, -, -, hat⟩ := (Spec.applies_iff hf).mp happ
  obtain ⟨hg, hn⟩ := and_e (Cond.before_iff.mp (show (Jvm.Cond.and given_1 narrow_1).before args s = true from hpre))
  obtain ⟨hg1, hg2⟩ := and_e hg
  obtain ⟨hg3, hg4⟩ := and_e hg2
  obtain ⟨hg5, hg6⟩ := and_e hg4
  obtain ⟨hg7, hg8⟩ := and_e hg6
  obtain ⟨hg9, hg10⟩ := and_e hg8
  obtain ⟨hg11, hg12⟩ := and_e hg10
  obtain ⟨v0, v1, v2, v3, v4, v5, rfl⟩ : ∃ v0 v1 v2 v3 v4 v5 : Value, args = #[v0, v1, v2, v3, v4, v5] := by
    have hs : args.size = 6 := by simpa [Cond.value, given_1] using hg1
    obtain ⟨L⟩ := args
    match L, hs with
    | [v0, v1, v2, v3, v4, v5], _ => exact ⟨v0, v1, v2, v3, v4, v5, rfl⟩
  have hw := fun d (hd : d ∈ tables_1) => atoms_spec (ws := Jvm.Cond.code x code maxLocals ret :: tables_1) hat d (List.mem_cons_of_mem _ hd)
  have hfit : Fit s := fun {y c} hc i hi => by
    obtain ⟨ha, rfl⟩ := Array.getElem?_eq_some_iff.mp hc
    have q := List.all_eq_true.mp ((Array.all_eq_true_iff_forall_mem.mp hF) _ (Array.getElem_mem ha)) i (List.mem_range.mpr hi)
    simpa [Array.getElem?_eq_getElem hi] using q
  obtain ⟨i0, ei0⟩ := isL_v hg3
  obtain rfl : v0 = (.long i0) := Option.some.inj ei0
  obtain ⟨i1, ei1⟩ := isL_v hg5
  obtain rfl : v1 = (.long i1) := Option.some.inj ei1
  obtain ⟨i2, ei2⟩ := isL_v hg7
  obtain rfl : v2 = (.long i2) := Option.some.inj ei2
  obtain ⟨i3, ei3⟩ := isL_v hg9
  obtain rfl : v3 = (.long i3) := Option.some.inj ei3
  obtain ⟨i4, ei4⟩ := isL_v hg11
  obtain rfl : v4 = (.long i4) := Option.some.inj ei4
  obtain ⟨i5, ei5⟩ := is_v hg12
  obtain rfl : v5 = (.int i5) := Option.some.inj ei5
  obtain ⟨hn1, hn2⟩ := and_e hn
  obtain ⟨hn3, hn4⟩ := and_e hn2
  obtain ⟨hn5, hn6⟩ := and_e hn4
  obtain ⟨w_BITS_32, ev_BITS_32⟩ := exa_v hn1
  have S_BITS_32 : Sta s s.heap "com/example/lenkki/lenkki/RingWidth" "BITS_32" "Lcom/example/lenkki/lenkki/RingWidth;" (.ref w_BITS_32) := Sta.start ev_BITS_32 (Or.inr ⟨(ww hw 1 rfl), (ww hw 2 rfl)⟩)
  have E_BITS_32 : Exa s s.heap w_BITS_32 "com/example/lenkki/lenkki/RingWidth" := Exa.start ev_BITS_32 hn1
  have F_BITS_32_bits : Fld s s.heap w_BITS_32 "com/example/lenkki/lenkki/RingWidth" "bits" "I" (.int (32 : Int32)) := own_fldI ev_BITS_32 hn3
  obtain ⟨w_BITS_64, ev_BITS_64⟩ := exa_v hn5
  have S_BITS_64 : Sta s s.heap "com/example/lenkki/lenkki/RingWidth" "BITS_64" "Lcom/example/lenkki/lenkki/RingWidth;" (.ref w_BITS_64) := Sta.start ev_BITS_64 (Or.inr ⟨(ww hw 1 rfl), (ww hw 63 rfl)⟩)
  have E_BITS_64 : Exa s s.heap w_BITS_64 "com/example/lenkki/lenkki/RingWidth" := Exa.start ev_BITS_64 hn5
  have F_BITS_64_bits : Fld s s.heap w_BITS_64 "com/example/lenkki/lenkki/RingWidth" "bits" "I" (.int (64 : Int32)) := own_fldI ev_BITS_64 hn6
  obtain ⟨n, o, h1, h2, h3, _, L, rfl, ⟨rfl, N⟩, hq⟩ := rm0 l s _ hw tables_1 w_BITS_32 w_BITS_64 ⟨S_BITS_32, E_BITS_32, F_BITS_32_bits, S_BITS_64, E_BITS_64, F_BITS_64_bits⟩ i0 i1 i2 i3 i4 i5 s.heap (own_Ext.refl _)  p e ha hc hk s m _ below hf ((Spec.applies_iff_loose hf).mp happ).1 ⟨rfl, State.Warmed39.refl s, rfl⟩ trivial
  refine ⟨n, _, h1, h2, h3, hpost _ _ _ _ _ _ ⟨Cond.after_iff.mpr rfl, Cond.after_iff.mpr (eq_i res_at (Term.int_eval (1)) rfl), trivial⟩ ⟨hq.1, hq.2.1, (hq.2.2.sift fun y hy => Or.inr (N y hy)).mono (by decide) (by decide)⟩⟩
theorem main_1_1 : Claimed_1_1 := comes_1 fun _ _ _ _ _ _ h hF => ⟨h.1, hF⟩
theorem main_1_2 : Claimed_1_2 := comes_1 fun _ _ _ _ _ _ h hF => ⟨h.2.1, hF⟩
end Jvm.Pilot.@@N@@
namespace Jvm.Pilot.@@N@@
open Jvm Jvm.ClassFile Sem Op Lib Jvm.Free Jvm.Stand Jvm.Pilot.@@N@@.Jvm.D
/-! MADE BY PROGRAM (witnessworld.py) out of the Statement's table words and the real class files: 20 classes; the members and pool entries that the words name. The judged class is class 1, her method 1. -/
namespace start1
open Jvm.ClassFile
def u (s : String) : CpInfo := .utf8 (stringToUtf16 s)
/-- a pool by its gaps: so many unusable entries, then the entry; so many at the end -/
def gap : Nat → List CpInfo → List CpInfo
  | 0, r => r
  | n + 1, r => .unusable :: gap n r
def poolList (es : List (Nat × CpInfo)) (last : Nat) : List CpInfo := es.foldr (fun e r => gap e.1 (e.2 :: r)) (gap last [])
def pool (es : List (Nat × CpInfo)) (last : Nat) : Array CpInfo := ⟨poolList es last⟩
def fileOf (pool : Array CpInfo) (this : Nat) (attrs : Array Attribute := #[]) (ms : Array MethodInfo := #[]) (fl : Nat := 33) (sup : Nat := 0) (ifs : Array Nat := #[]) (fds : Array FieldInfo := #[]) : ClassFile where
  minorVersion := 0
  majorVersion := 65
  constantPool := pool
  accessFlags := fl
  thisClass := this
  superClass := sup
  interfaces := ifs
  fields := fds
  methods := ms
  attributes := attrs
def plain (name : String) (sup : Option ClassId) : Class where
  name := name
  kind := .ordinary
  loader := none
  accessFlags := 33
  super := sup
  interfaces := #[]
  cf := none
  fields := #[]
  methods := #[]
  instanceTypes := #[]
  staticTypes := #[]
  resolved := #[]
  callSites := []
  init := .initialized
  statics := none
  mirror := none

def pool0 : Array CpInfo := pool [(5, u "<init>"), (0, u "()V"), (1, .class_ 10), (1, u "java/lang/Object")] 113

def k0c0 : Code := { maxStack := 0, maxLocals := 1, code := object_method_1_code, exceptionTable := #[], attributes := #[] }
def k0m0 : Method := { name := "<init>", desc := "()V", sig := { parameters := [], returnType := none }, accessFlags := 1, code := some k0c0 }
/-- java/lang/Object -/
def k0 : Class := { plain "java/lang/Object" none with
  accessFlags := 33
  interfaces := #[]
  cf := some (fileOf pool0 8 #[] #[{ accessFlags := 1, nameIndex := 5, descriptorIndex := 6, attributes := #[] }] 33 0 #[] #[])
  fields := #[]
  methods := #[k0m0]
  instanceTypes := #[]
  staticTypes := #[]
  resolved := Array.replicate 124 none
  statics := none }

def pool1 : Array CpInfo := pool [(2, .class_ 4), (1, u "java/lang/Object"), (0, u "<init>"), (0, u "()V"), (0, .fieldref 8 9), (0, .class_ 10), (0, .nameAndType 11 12), (0, u "com/example/lenkki/lenkki/RingWidth"), (0, u "BITS_64"), (0, u "Lcom/example/lenkki/lenkki/RingWidth;"), (0, .fieldref 8 14), (0, .nameAndType 15 12), (0, u "BITS_32"), (0, .long 18446744073709551615), (1, .long 4294967295), (1, .methodref 21 22), (0, .class_ 23), (0, .nameAndType 24 25), (0, u "com/example/lenkki/lenkki/PositionIndexFirstAtOrAfterPinLaw"), (0, u "cx"), (0, u "([JII)V"), (0, .long 2147483647), (1, .class_ 29), (0, u "com/example/lenkki/lenkki/PositionIndex"), (0, .methodref 28 31), (0, .nameAndType 5 32), (0, u "([JLcom/example/lenkki/lenkki/RingWidth;)V"), (0, .methodref 28 34), (0, .nameAndType 35 36), (0, u "firstAtOrAfter"), (0, u "(J)I"), (0, .methodref 21 38), (0, .nameAndType 39 40), (0, u "below"), (0, u "([JIJ)I"), (2, .long 9223372036854775808), (1, .methodref 21 46), (0, .nameAndType 47 48), (0, u "ult"), (0, u "(JJ)Z"), (2, u "law"), (0, u "(JJJJJI)Z")] 5

def k1m0 : Method := { name := "<init>", desc := "()V", sig := { parameters := [], returnType := none }, accessFlags := 1, code := none }
def k1c1 : Code := { maxStack := 6, maxLocals := 23, code := code, exceptionTable := #[], attributes := #[] }
def k1m1 : Method := { name := "law", desc := "(JJJJJI)Z", sig := { parameters := [.long, .long, .long, .long, .long, .int], returnType := some .boolean }, accessFlags := 9, code := some k1c1 }
def k1c2 : Code := { maxStack := 6, maxLocals := 4, code := method_3_code, exceptionTable := #[], attributes := #[] }
def k1m2 : Method := { name := "ult", desc := "(JJ)Z", sig := { parameters := [.long, .long], returnType := some .boolean }, accessFlags := 10, code := some k1c2 }
def k1c3 : Code := { maxStack := 4, maxLocals := 5, code := method_4_code, exceptionTable := #[], attributes := #[] }
def k1m3 : Method := { name := "cx", desc := "([JII)V", sig := { parameters := [(.array .long), .int, .int], returnType := none }, accessFlags := 10, code := some k1c3 }
def k1c4 : Code := { maxStack := 4, maxLocals := 5, code := method_5_code, exceptionTable := #[], attributes := #[] }
def k1m4 : Method := { name := "below", desc := "([JIJ)I", sig := { parameters := [(.array .long), .int, .long], returnType := some .int }, accessFlags := 10, code := some k1c4 }
/-- com/example/lenkki/lenkki/PositionIndexFirstAtOrAfterPinLaw -/
def k1 : Class := { plain "com/example/lenkki/lenkki/PositionIndexFirstAtOrAfterPinLaw" (some 0) with
  accessFlags := 49
  interfaces := #[]
  cf := some (fileOf pool1 21 #[] #[{ accessFlags := 1, nameIndex := 5, descriptorIndex := 6, attributes := #[] }, { accessFlags := 9, nameIndex := 51, descriptorIndex := 52, attributes := #[] }, { accessFlags := 10, nameIndex := 47, descriptorIndex := 48, attributes := #[] }, { accessFlags := 10, nameIndex := 24, descriptorIndex := 25, attributes := #[] }, { accessFlags := 10, nameIndex := 39, descriptorIndex := 40, attributes := #[] }] 49 2 #[] #[])
  fields := #[]
  methods := #[k1m0, k1m1, k1m2, k1m3, k1m4]
  instanceTypes := #[]
  staticTypes := #[]
  resolved := Array.replicate 58 none
  statics := none }

def pool2 : Array CpInfo := pool [(1, .class_ 2), (0, u "java/lang/constant/Constable"), (0, .class_ 4), (0, u "java/lang/Object")] 6

/-- java/lang/constant/Constable -/
def k2 : Class := { plain "java/lang/constant/Constable" (some 0) with
  accessFlags := 1537
  interfaces := #[]
  cf := some (fileOf pool2 1 #[] #[] 1537 3 #[] #[])
  fields := #[]
  methods := #[]
  instanceTypes := #[]
  staticTypes := #[]
  resolved := Array.replicate 11 none
  statics := none }

def pool3 : Array CpInfo := pool [(1, .class_ 2), (0, u "java/lang/Comparable"), (0, .class_ 4), (0, u "java/lang/Object")] 7

/-- java/lang/Comparable -/
def k3 : Class := { plain "java/lang/Comparable" (some 0) with
  accessFlags := 1537
  interfaces := #[]
  cf := some (fileOf pool3 1 #[] #[] 1537 3 #[] #[])
  fields := #[]
  methods := #[]
  instanceTypes := #[]
  staticTypes := #[]
  resolved := Array.replicate 12 none
  statics := none }

def pool4 : Array CpInfo := pool [(1, .class_ 2), (0, u "java/io/Serializable"), (0, .class_ 4), (0, u "java/lang/Object")] 2

/-- java/io/Serializable -/
def k4 : Class := { plain "java/io/Serializable" (some 0) with
  accessFlags := 1537
  interfaces := #[]
  cf := some (fileOf pool4 1 #[] #[] 1537 3 #[] #[])
  fields := #[]
  methods := #[]
  instanceTypes := #[]
  staticTypes := #[]
  resolved := Array.replicate 7 none
  statics := none }

def pool5 : Array CpInfo := pool [(2, .class_ 4), (1, u "java/lang/Enum"), (0, u "name"), (0, u "Ljava/lang/String;"), (2, u "ordinal"), (0, u "I"), (1, .class_ 14), (1, u "java/lang/Object"), (4, u "hash"), (86, .class_ 108), (1, u "java/lang/Enum$EnumDesc"), (2, .class_ 112), (0, u "java/lang/constant/Constable"), (0, .class_ 114), (0, u "java/lang/Comparable"), (0, .class_ 116), (0, u "java/io/Serializable")] 87

/-- java/lang/Enum -/
def k5 : Class := { plain "java/lang/Enum" (some 0) with
  accessFlags := 1057
  interfaces := #[2, 3, 4]
  cf := some (fileOf pool5 2 #[.nestMembers #[106]] #[] 1057 12 #[111, 113, 115] #[{ accessFlags := 18, nameIndex := 5, descriptorIndex := 6, attributes := #[] }, { accessFlags := 18, nameIndex := 9, descriptorIndex := 10, attributes := #[] }, { accessFlags := 2, nameIndex := 19, descriptorIndex := 10, attributes := #[] }])
  fields := #[{ name := "name", type := (.object "java/lang/String"), accessFlags := 18, slot := 0, constantValue := 0 }, { name := "ordinal", type := .int, accessFlags := 18, slot := 1, constantValue := 0 }, { name := "hash", type := .int, accessFlags := 2, slot := 2, constantValue := 0 }]
  methods := #[]
  instanceTypes := #[(.object "java/lang/String"), .int, .int]
  staticTypes := #[]
  resolved := Array.replicate 204 none
  statics := none }

def pool6 : Array CpInfo := pool [(1, .class_ 2), (0, u "com/example/lenkki/lenkki/RingWidth"), (2, u "BITS_32"), (0, u "Lcom/example/lenkki/lenkki/RingWidth;"), (2, u "BITS_64"), (2, u "$VALUES"), (0, u "[Lcom/example/lenkki/lenkki/RingWidth;"), (6, .class_ 22), (1, u "java/lang/Enum"), (6, .fieldref 1 30), (0, .nameAndType 31 32), (0, u "bits"), (0, u "I"), (4, u "maxPosition"), (0, u "J"), (5, u "Ljava/math/BigInteger;"), (6, u "size"), (44, u "()I")] 28

def k6c0 : Code := { maxStack := 1, maxLocals := 1, code := prog_17_method_4_code, exceptionTable := #[], attributes := #[] }
def k6m0 : Method := { name := "bits", desc := "()I", sig := { parameters := [], returnType := some .int }, accessFlags := 1, code := some k6c0 }
/-- com/example/lenkki/lenkki/RingWidth -/
def k6 : Class := { plain "com/example/lenkki/lenkki/RingWidth" (some 5) with
  accessFlags := 16433
  interfaces := #[]
  cf := some (fileOf pool6 1 #[] #[{ accessFlags := 1, nameIndex := 31, descriptorIndex := 96, attributes := #[] }] 16433 20 #[] #[{ accessFlags := 16409, nameIndex := 5, descriptorIndex := 6, attributes := #[] }, { accessFlags := 16409, nameIndex := 9, descriptorIndex := 6, attributes := #[] }, { accessFlags := 18, nameIndex := 31, descriptorIndex := 32, attributes := #[] }, { accessFlags := 18, nameIndex := 37, descriptorIndex := 38, attributes := #[] }, { accessFlags := 18, nameIndex := 51, descriptorIndex := 44, attributes := #[] }, { accessFlags := 4122, nameIndex := 12, descriptorIndex := 13, attributes := #[] }])
  fields := #[{ name := "BITS_32", type := (.object "com/example/lenkki/lenkki/RingWidth"), accessFlags := 16409, slot := 0, constantValue := 0 }, { name := "BITS_64", type := (.object "com/example/lenkki/lenkki/RingWidth"), accessFlags := 16409, slot := 1, constantValue := 0 }, { name := "bits", type := .int, accessFlags := 18, slot := 3, constantValue := 0 }, { name := "maxPosition", type := .long, accessFlags := 18, slot := 4, constantValue := 0 }, { name := "size", type := (.object "java/math/BigInteger"), accessFlags := 18, slot := 5, constantValue := 0 }, { name := "$VALUES", type := (.array (.object "com/example/lenkki/lenkki/RingWidth")), accessFlags := 4122, slot := 2, constantValue := 0 }]
  methods := #[k6m0]
  instanceTypes := #[(.object "java/lang/String"), .int, .int, .int, .long, (.object "java/math/BigInteger")]
  staticTypes := #[(.object "com/example/lenkki/lenkki/RingWidth"), (.object "com/example/lenkki/lenkki/RingWidth"), (.array (.object "com/example/lenkki/lenkki/RingWidth"))]
  resolved := Array.replicate 125 none
  statics := some 0 }

def pool7 : Array CpInfo := pool [(1, .methodref 2 3), (0, .class_ 4), (0, .nameAndType 5 6), (0, u "java/lang/Object"), (0, u "<init>"), (0, u "()V"), (0, .fieldref 8 9), (0, .class_ 10), (0, .nameAndType 11 12), (0, u "com/example/lenkki/lenkki/PositionIndex"), (0, u "positions"), (0, u "[J"), (0, .methodref 14 15), (0, .class_ 16), (0, .nameAndType 17 18), (0, u "java/lang/Math"), (0, u "max"), (0, u "(II)I"), (0, .methodref 20 21), (0, .class_ 22), (0, .nameAndType 23 24), (0, u "java/lang/Integer"), (0, u "numberOfLeadingZeros"), (0, u "(I)I"), (0, .methodref 26 27), (0, .class_ 28), (0, .nameAndType 29 30), (0, u "com/example/lenkki/lenkki/RingWidth"), (0, u "bits"), (0, u "()I"), (0, .fieldref 8 32), (0, .nameAndType 33 34), (0, u "shift"), (0, u "I"), (0, .fieldref 8 36), (0, .nameAndType 37 38), (0, u "bucketStarts"), (0, u "[I"), (0, .methodref 40 41), (0, .class_ 42), (0, .nameAndType 43 44), (0, u "java/lang/Long"), (0, u "compareUnsigned"), (0, u "(JJ)I"), (0, u "([JLcom/example/lenkki/lenkki/RingWidth;)V"), (4, u "firstAtOrAfter"), (0, u "(J)I")] 2

def k7c0 : Code := { maxStack := 5, maxLocals := 10, code := prog_9_method_1_code, exceptionTable := #[], attributes := #[] }
def k7m0 : Method := { name := "<init>", desc := "([JLcom/example/lenkki/lenkki/RingWidth;)V", sig := { parameters := [(.array .long), (.object "com/example/lenkki/lenkki/RingWidth")], returnType := none }, accessFlags := 0, code := some k7c0 }
def k7c1 : Code := { maxStack := 4, maxLocals := 7, code := prog_9_method_2_code, exceptionTable := #[], attributes := #[] }
def k7m1 : Method := { name := "firstAtOrAfter", desc := "(J)I", sig := { parameters := [.long], returnType := some .int }, accessFlags := 0, code := some k7c1 }
/-- com/example/lenkki/lenkki/PositionIndex -/
def k7 : Class := { plain "com/example/lenkki/lenkki/PositionIndex" (some 0) with
  accessFlags := 48
  interfaces := #[]
  cf := some (fileOf pool7 8 #[] #[{ accessFlags := 0, nameIndex := 5, descriptorIndex := 45, attributes := #[] }, { accessFlags := 0, nameIndex := 50, descriptorIndex := 51, attributes := #[] }] 48 2 #[] #[{ accessFlags := 18, nameIndex := 11, descriptorIndex := 12, attributes := #[] }, { accessFlags := 18, nameIndex := 37, descriptorIndex := 38, attributes := #[] }, { accessFlags := 18, nameIndex := 33, descriptorIndex := 34, attributes := #[] }])
  fields := #[{ name := "positions", type := (.array .long), accessFlags := 18, slot := 0, constantValue := 0 }, { name := "bucketStarts", type := (.array .int), accessFlags := 18, slot := 1, constantValue := 0 }, { name := "shift", type := .int, accessFlags := 18, slot := 2, constantValue := 0 }]
  methods := #[k7m0, k7m1]
  instanceTypes := #[(.array .long), (.array .int), .int]
  staticTypes := #[]
  resolved := Array.replicate 54 none
  statics := none }

def pool8 : Array CpInfo := pool [(1, .class_ 2), (0, u "java/lang/Math"), (1, .class_ 6), (1, u "java/lang/Object"), (0, u "<init>"), (0, u "()V"), (89, .class_ 100), (1, u "java/lang/Math$RandomNumberGeneratorHolder"), (71, u "negativeZeroFloatBits"), (0, u "J"), (2, u "negativeZeroDoubleBits"), (21, u "max"), (46, u "$assertionsDisabled"), (0, u "Z"), (88, u "(II)I"), (2, u "twoToTheDoubleScaleDown"), (0, u "D"), (4, u "twoToTheDoubleScaleUp"), (9, u "E"), (3, u "PI"), (2, u "TAU"), (2, u "DEGREES_TO_RADIANS"), (0, u "RADIANS_TO_DEGREES")] 94

def k8m0 : Method := { name := "<init>", desc := "()V", sig := { parameters := [], returnType := none }, accessFlags := 2, code := none }
def k8c1 : Code := { maxStack := 2, maxLocals := 2, code := jdk_29_method_65_code, exceptionTable := #[], attributes := #[] }
def k8m1 : Method := { name := "max", desc := "(II)I", sig := { parameters := [.int, .int], returnType := some .int }, accessFlags := 9, code := some k8c1 }
/-- java/lang/Math -/
def k8 : Class := { plain "java/lang/Math" (some 0) with
  accessFlags := 49
  interfaces := #[]
  cf := some (fileOf pool8 1 #[.nestMembers #[98]] #[{ accessFlags := 2, nameIndex := 7, descriptorIndex := 8, attributes := #[] }, { accessFlags := 9, nameIndex := 198, descriptorIndex := 335, attributes := #[] }] 49 4 #[] #[{ accessFlags := 25, nameIndex := 354, descriptorIndex := 339, attributes := #[] }, { accessFlags := 25, nameIndex := 358, descriptorIndex := 339, attributes := #[] }, { accessFlags := 25, nameIndex := 361, descriptorIndex := 339, attributes := #[] }, { accessFlags := 26, nameIndex := 364, descriptorIndex := 339, attributes := #[] }, { accessFlags := 26, nameIndex := 365, descriptorIndex := 339, attributes := #[] }, { accessFlags := 26, nameIndex := 172, descriptorIndex := 173, attributes := #[] }, { accessFlags := 26, nameIndex := 176, descriptorIndex := 173, attributes := #[] }, { accessFlags := 8, nameIndex := 344, descriptorIndex := 339, attributes := #[] }, { accessFlags := 8, nameIndex := 338, descriptorIndex := 339, attributes := #[] }, { accessFlags := 4120, nameIndex := 245, descriptorIndex := 246, attributes := #[] }])
  fields := #[{ name := "E", type := .double, accessFlags := 25, slot := 0, constantValue := 0 }, { name := "PI", type := .double, accessFlags := 25, slot := 1, constantValue := 0 }, { name := "TAU", type := .double, accessFlags := 25, slot := 2, constantValue := 0 }, { name := "DEGREES_TO_RADIANS", type := .double, accessFlags := 26, slot := 3, constantValue := 0 }, { name := "RADIANS_TO_DEGREES", type := .double, accessFlags := 26, slot := 4, constantValue := 0 }, { name := "negativeZeroFloatBits", type := .long, accessFlags := 26, slot := 5, constantValue := 0 }, { name := "negativeZeroDoubleBits", type := .long, accessFlags := 26, slot := 6, constantValue := 0 }, { name := "twoToTheDoubleScaleUp", type := .double, accessFlags := 8, slot := 7, constantValue := 0 }, { name := "twoToTheDoubleScaleDown", type := .double, accessFlags := 8, slot := 8, constantValue := 0 }, { name := "$assertionsDisabled", type := .boolean, accessFlags := 4120, slot := 9, constantValue := 0 }]
  methods := #[k8m0, k8m1]
  instanceTypes := #[]
  staticTypes := #[.double, .double, .double, .double, .double, .long, .long, .double, .double, .boolean]
  resolved := Array.replicate 460 none
  statics := none }

def pool9 : Array CpInfo := pool [(2, .class_ 4), (1, u "java/lang/Object"), (0, u "<init>"), (0, u "()V"), (1, .class_ 10), (1, u "java/lang/Number"), (2, .class_ 14), (0, u "java/io/Serializable"), (0, u "serialVersionUID"), (0, u "J")] 20

def k9m0 : Method := { name := "<init>", desc := "()V", sig := { parameters := [], returnType := none }, accessFlags := 1, code := none }
/-- java/lang/Number -/
def k9 : Class := { plain "java/lang/Number" (some 0) with
  accessFlags := 1057
  interfaces := #[4]
  cf := some (fileOf pool9 8 #[] #[{ accessFlags := 1, nameIndex := 5, descriptorIndex := 6, attributes := #[] }] 1057 2 #[13] #[{ accessFlags := 26, nameIndex := 15, descriptorIndex := 16, attributes := #[] }])
  fields := #[{ name := "serialVersionUID", type := .long, accessFlags := 26, slot := 0, constantValue := 0 }]
  methods := #[k9m0]
  instanceTypes := #[]
  staticTypes := #[.long]
  resolved := Array.replicate 37 none
  statics := none }

def pool10 : Array CpInfo := pool [(1, .class_ 2), (0, u "java/lang/constant/ConstantDesc"), (0, .class_ 4), (0, u "java/lang/Object")] 32

/-- java/lang/constant/ConstantDesc -/
def k10 : Class := { plain "java/lang/constant/ConstantDesc" (some 0) with
  accessFlags := 1537
  interfaces := #[]
  cf := some (fileOf pool10 1 #[] #[] 1537 3 #[] #[])
  fields := #[]
  methods := #[]
  instanceTypes := #[]
  staticTypes := #[]
  resolved := Array.replicate 37 none
  statics := none }

def pool11 : Array CpInfo := pool [(1, .class_ 2), (0, u "java/lang/Integer"), (16, u "digits"), (0, u "[C"), (32, u "numberOfLeadingZeros"), (0, u "(I)I"), (30, u "DigitOnes"), (0, u "[B"), (2, u "DigitTens"), (99, .class_ 190), (0, u "java/lang/Integer$IntegerCache"), (3, u "I"), (8, .class_ 204), (0, u "java/lang/Number"), (2, u "value"), (56, .integer 65536), (37, u "TYPE"), (0, u "Ljava/lang/Class;"), (0, .class_ 305), (0, u "java/lang/Comparable"), (0, .class_ 307), (0, u "java/lang/constant/Constable"), (0, .class_ 309), (0, u "java/lang/constant/ConstantDesc"), (0, u "MIN_VALUE"), (1, u "MAX_VALUE"), (3, u "SIZE"), (1, u "BYTES"), (1, u "serialVersionUID"), (0, u "J")] 131

def k11c0 : Code := { maxStack := 3, maxLocals := 2, code := jdk_33_method_47_code, exceptionTable := #[], attributes := #[] }
def k11m0 : Method := { name := "numberOfLeadingZeros", desc := "(I)I", sig := { parameters := [.int], returnType := some .int }, accessFlags := 9, code := some k11c0 }
/-- java/lang/Integer -/
def k11 : Class := { plain "java/lang/Integer" (some 9) with
  accessFlags := 49
  interfaces := #[3, 2, 10]
  cf := some (fileOf pool11 1 #[.nestMembers #[189]] #[{ accessFlags := 9, nameIndex := 53, descriptorIndex := 54, attributes := #[] }] 49 203 #[304, 306, 308] #[{ accessFlags := 25, nameIndex := 310, descriptorIndex := 194, attributes := #[] }, { accessFlags := 25, nameIndex := 312, descriptorIndex := 194, attributes := #[] }, { accessFlags := 25, nameIndex := 302, descriptorIndex := 303, attributes := #[] }, { accessFlags := 24, nameIndex := 19, descriptorIndex := 20, attributes := #[] }, { accessFlags := 24, nameIndex := 89, descriptorIndex := 86, attributes := #[] }, { accessFlags := 24, nameIndex := 85, descriptorIndex := 86, attributes := #[] }, { accessFlags := 18, nameIndex := 207, descriptorIndex := 194, attributes := #[] }, { accessFlags := 25, nameIndex := 316, descriptorIndex := 194, attributes := #[] }, { accessFlags := 25, nameIndex := 318, descriptorIndex := 194, attributes := #[] }, { accessFlags := 26, nameIndex := 320, descriptorIndex := 321, attributes := #[] }])
  fields := #[{ name := "MIN_VALUE", type := .int, accessFlags := 25, slot := 0, constantValue := 0 }, { name := "MAX_VALUE", type := .int, accessFlags := 25, slot := 1, constantValue := 0 }, { name := "TYPE", type := (.object "java/lang/Class"), accessFlags := 25, slot := 2, constantValue := 0 }, { name := "digits", type := (.array .char), accessFlags := 24, slot := 3, constantValue := 0 }, { name := "DigitTens", type := (.array .byte), accessFlags := 24, slot := 4, constantValue := 0 }, { name := "DigitOnes", type := (.array .byte), accessFlags := 24, slot := 5, constantValue := 0 }, { name := "value", type := .int, accessFlags := 18, slot := 0, constantValue := 0 }, { name := "SIZE", type := .int, accessFlags := 25, slot := 6, constantValue := 0 }, { name := "BYTES", type := .int, accessFlags := 25, slot := 7, constantValue := 0 }, { name := "serialVersionUID", type := .long, accessFlags := 26, slot := 8, constantValue := 0 }]
  methods := #[k11m0]
  instanceTypes := #[.int]
  staticTypes := #[.int, .int, (.object "java/lang/Class"), (.array .char), (.array .byte), (.array .byte), .int, .int, .long]
  resolved := Array.replicate 453 none
  statics := none }

def pool12 : Array CpInfo := pool [(1, .class_ 2), (0, u "java/lang/Long"), (165, .long 9223372036854775808), (66, .class_ 237), (1, u "java/lang/Long$LongCache"), (33, .class_ 272), (0, u "java/lang/Number"), (2, u "value"), (0, u "J"), (25, .methodref 1 303), (0, .nameAndType 304 305), (0, u "compare"), (0, u "(JJ)I"), (55, u "TYPE"), (0, u "Ljava/lang/Class;"), (0, .class_ 364), (0, u "java/lang/Comparable"), (0, .class_ 366), (0, u "java/lang/constant/Constable"), (0, .class_ 368), (0, u "java/lang/constant/ConstantDesc"), (0, u "MIN_VALUE"), (1, u "MAX_VALUE"), (4, u "SIZE"), (0, u "I"), (1, u "BYTES"), (1, u "serialVersionUID"), (87, u "compareUnsigned")] 54

def k12c0 : Code := { maxStack := 4, maxLocals := 4, code := jdk_35_method_42_code, exceptionTable := #[], attributes := #[] }
def k12m0 : Method := { name := "compare", desc := "(JJ)I", sig := { parameters := [.long, .long], returnType := some .int }, accessFlags := 9, code := some k12c0 }
def k12c1 : Code := { maxStack := 6, maxLocals := 4, code := jdk_35_method_43_code, exceptionTable := #[], attributes := #[] }
def k12m1 : Method := { name := "compareUnsigned", desc := "(JJ)I", sig := { parameters := [.long, .long], returnType := some .int }, accessFlags := 9, code := some k12c1 }
/-- java/lang/Long -/
def k12 : Class := { plain "java/lang/Long" (some 9) with
  accessFlags := 49
  interfaces := #[3, 2, 10]
  cf := some (fileOf pool12 1 #[.nestMembers #[235]] #[{ accessFlags := 9, nameIndex := 304, descriptorIndex := 305, attributes := #[] }, { accessFlags := 9, nameIndex := 469, descriptorIndex := 305, attributes := #[] }] 49 271 #[363, 365, 367] #[{ accessFlags := 25, nameIndex := 369, descriptorIndex := 276, attributes := #[] }, { accessFlags := 25, nameIndex := 371, descriptorIndex := 276, attributes := #[] }, { accessFlags := 25, nameIndex := 361, descriptorIndex := 362, attributes := #[] }, { accessFlags := 18, nameIndex := 275, descriptorIndex := 276, attributes := #[] }, { accessFlags := 25, nameIndex := 376, descriptorIndex := 377, attributes := #[] }, { accessFlags := 25, nameIndex := 379, descriptorIndex := 377, attributes := #[] }, { accessFlags := 26, nameIndex := 381, descriptorIndex := 276, attributes := #[] }])
  fields := #[{ name := "MIN_VALUE", type := .long, accessFlags := 25, slot := 0, constantValue := 0 }, { name := "MAX_VALUE", type := .long, accessFlags := 25, slot := 1, constantValue := 0 }, { name := "TYPE", type := (.object "java/lang/Class"), accessFlags := 25, slot := 2, constantValue := 0 }, { name := "value", type := .long, accessFlags := 18, slot := 0, constantValue := 0 }, { name := "SIZE", type := .int, accessFlags := 25, slot := 3, constantValue := 0 }, { name := "BYTES", type := .int, accessFlags := 25, slot := 4, constantValue := 0 }, { name := "serialVersionUID", type := .long, accessFlags := 26, slot := 5, constantValue := 0 }]
  methods := #[k12m0, k12m1]
  instanceTypes := #[.long]
  staticTypes := #[.long, .long, (.object "java/lang/Class"), .int, .int, .long]
  resolved := Array.replicate 524 none
  statics := none }

def pool13 : Array CpInfo := pool [(1, u "java/lang/Cloneable"), (0, .class_ 1), (0, u "java/lang/Object"), (0, .class_ 3)] 3

/-- java/lang/Cloneable -/
def k13 : Class := { plain "java/lang/Cloneable" (some 0) with
  accessFlags := 1537
  interfaces := #[]
  cf := some (fileOf pool13 2 #[] #[] 1537 4 #[] #[])
  fields := #[]
  methods := #[]
  instanceTypes := #[]
  staticTypes := #[]
  resolved := Array.replicate 8 none
  statics := none }

/-- the primitive byte -/
def k14 : Class := { plain "byte" none with kind := .primitive 'B', accessFlags := 0x411 }
/-- [B -/
def k15 : Class := { plain "[B" (some 0) with kind := .array 14 .byte, interfaces := #[13, 4], accessFlags := 1041 }

/-- the primitive int -/
def k16 : Class := { plain "int" none with kind := .primitive 'I', accessFlags := 0x411 }
/-- [I -/
def k17 : Class := { plain "[I" (some 0) with kind := .array 16 .int, interfaces := #[13, 4], accessFlags := 1041 }

/-- the primitive long -/
def k18 : Class := { plain "long" none with kind := .primitive 'J', accessFlags := 0x411 }
/-- [J -/
def k19 : Class := { plain "[J" (some 0) with kind := .array 18 .long, interfaces := #[13, 4], accessFlags := 1041 }

def heap : Heap := #[{ cls := 6, slots := #[.ref 1, .ref 2, .null], vm := .statics 6 },
  { cls := 6, slots := #[.null, .int 0, .int 0, .int (32), .long 0, .null], vm := .none },
  { cls := 6, slots := #[.null, .int 0, .int 0, .int (64), .long 0, .null], vm := .none }]
def classes : Array Class := #[k0, k1, k2, k3, k4, k5, k6, k7, k8, k9, k10, k11, k12, k13, k14, k15, k16, k17, k18, k19]
def interned : List (Array UInt16 × Addr) := []
def slotsUsed : Nat := 15
def theMethod : MethodId := ⟨1, 1⟩
def args0 : Array Value := #[.long 5, .long 3, .long 7, .long 2, .long 9, .int 4]
def aboutOver (below : List Frame) : State where
  vm := { classes := classes, interned := interned.toArray }
  heap := heap
  slotsUsed := slotsUsed
  threads := #[{ frames := .invoking theMethod args0 :: below }]
def below0 : List Frame := [.native { method := ⟨0, 0⟩, args := #[] }]
def about1 : State := aboutOver below0
def p0 : Program := .bare "" "" ""
def e0 : Env := launch0.env 0 0 0
theorem w_frames : about1.frames = Frame.invoking theMethod args0 :: below0 := rfl
set_option maxRecDepth 65536 in
theorem w_args : argsFit about1.vm theMethod args0 = true := by decide +kernel
set_option maxRecDepth 65536 in
theorem w_heap : heapFits about1 = true := by decide +kernel
set_option maxRecDepth 65536 in
theorem w_runnable : about1.curStatus? = some .runnable := by decide +kernel
set_option maxRecDepth 65536 in
theorem w_alone : about1.alone = true := by decide +kernel
set_option maxRecDepth 65536 in
theorem w_named : about1.methodNamed? x = some theMethod := by decide +kernel
set_option maxRecDepth 65536 in
theorem w_hears : about1.hears theMethod below0 = true := by decide +kernel
set_option maxRecDepth 65536 in
theorem w_ripe : about1.ripe theMethod args0 below0 = true := by decide +kernel
theorem w_running : about1.status = .running := rfl
set_option maxRecDepth 65536 in
theorem w_room : about1.hasRoom e0.platform room_1 = true :=
  launch0.hasRoom_least _ room_1 (by decide +kernel) (by decide +kernel) (by decide +kernel) (by decide +kernel) (by decide +kernel) (by decide +kernel)
theorem allAtoms_all (ts : List Jvm.Cond) (a : Array Jvm.Value) (st : Jvm.State) : (allAtoms ts).before a st = ts.all (fun c => c.before a st) := by
  induction ts with
  | nil => rfl
  | cons c t ih =>
    show (Jvm.Cond.and c (allAtoms t)).before a st = _
    rw [Jvm.Cond.before_and, ih, List.all_cons]
def words1 : List Jvm.Cond := Jvm.Cond.code x code maxLocals ret :: tables_1
/-- a 'code' word, met by the world's own term for the bytes: nothing is compared byte by byte -/
theorem code_word {y : MethodName} {bytes : ByteArray} {mx : Nat} {rt : Option FieldType} {a : Array Value} {s : State} {m : MethodId} {meth : Method} {c : Code} (h1 : s.methodNamed? y = some m) (h2 : s.vm.method? m = some meth) (h3 : meth.code = some c) (h4 : c.code = bytes)
    (h5 : (c.maxLocals == mx && c.exceptionTable.isEmpty && decide (c.maxStack ≤ mostOperands) && decide (meth.sig.returnType = rt) && !meth.locks && decide (parseMethodDescriptor y.desc = some meth.sig)) = true) : (Jvm.Cond.code y bytes mx rt).before a s = true := by
  simp only [Bool.and_eq_true, beq_iff_eq, Bool.not_eq_true', decide_eq_true_eq] at h5
  obtain ⟨⟨⟨⟨⟨g1, g2⟩, g3⟩, g4⟩, g5⟩, g6⟩ := h5
  simp [Cond.before, Cond.holds, Cond.value, h1, h2, h3, h4, g1, g2, g3, g4, g5, g6]
def isCode : Jvm.Cond → Bool
  | .code _ _ _ _ => true
  | _ => false
theorem all_split {L : List Jvm.Cond} {P : Jvm.Cond → Bool} (h1 : L.all (fun c => isCode c || P c) = true) (h2 : ∀ c ∈ L.filter isCode, P c = true) : L.all P = true := by
  refine List.all_eq_true.mpr fun c hc => ?_
  have h := List.all_eq_true.mp h1 c hc
  rcases Bool.eq_false_or_eq_true (isCode c) with hi | hi
  · exact h2 c (List.mem_filter.mpr ⟨hc, hi⟩)
  · simpa [hi] using h
set_option maxRecDepth 65536 in
theorem w_c0 : (Jvm.Cond.code x code maxLocals ret).before args0 about1 = true := code_word (m := ⟨1, 1⟩) (meth := k1m1) (c := k1c1) (by decide +kernel) rfl rfl rfl (by decide +kernel)
set_option maxRecDepth 65536 in
theorem w_c1 : (Jvm.Cond.code ({ cls := "com/example/lenkki/lenkki/PositionIndexFirstAtOrAfterPinLaw", name := "cx", desc := "([JII)V" } : Jvm.MethodName) method_4_code (5 : Nat) (Option.none : Option Jvm.ClassFile.FieldType)).before args0 about1 = true := code_word (m := ⟨1, 3⟩) (meth := k1m3) (c := k1c3) (by decide +kernel) rfl rfl rfl (by decide +kernel)
set_option maxRecDepth 65536 in
theorem w_c2 : (Jvm.Cond.code ({ cls := "com/example/lenkki/lenkki/PositionIndexFirstAtOrAfterPinLaw", name := "ult", desc := "(JJ)Z" } : Jvm.MethodName) method_3_code (4 : Nat) (Option.some Jvm.ClassFile.FieldType.boolean)).before args0 about1 = true := code_word (m := ⟨1, 2⟩) (meth := k1m2) (c := k1c2) (by decide +kernel) rfl rfl rfl (by decide +kernel)
set_option maxRecDepth 65536 in
theorem w_c3 : (Jvm.Cond.code ({ cls := "com/example/lenkki/lenkki/PositionIndex", name := "<init>", desc := "([JLcom/example/lenkki/lenkki/RingWidth;)V" } : Jvm.MethodName) prog_9_method_1_code (10 : Nat) (Option.none : Option Jvm.ClassFile.FieldType)).before args0 about1 = true := code_word (m := ⟨7, 0⟩) (meth := k7m0) (c := k7c0) (by decide +kernel) rfl rfl rfl (by decide +kernel)
set_option maxRecDepth 65536 in
theorem w_c4 : (Jvm.Cond.code ({ cls := "java/lang/Object", name := "<init>", desc := "()V" } : Jvm.MethodName) object_method_1_code (1 : Nat) (Option.none : Option Jvm.ClassFile.FieldType)).before args0 about1 = true := code_word (m := ⟨0, 0⟩) (meth := k0m0) (c := k0c0) (by decide +kernel) rfl rfl rfl (by decide +kernel)
set_option maxRecDepth 65536 in
theorem w_c5 : (Jvm.Cond.code ({ cls := "java/lang/Math", name := "max", desc := "(II)I" } : Jvm.MethodName) jdk_29_method_65_code (2 : Nat) (Option.some Jvm.ClassFile.FieldType.int)).before args0 about1 = true := code_word (m := ⟨8, 1⟩) (meth := k8m1) (c := k8c1) (by decide +kernel) rfl rfl rfl (by decide +kernel)
set_option maxRecDepth 65536 in
theorem w_c6 : (Jvm.Cond.code ({ cls := "java/lang/Integer", name := "numberOfLeadingZeros", desc := "(I)I" } : Jvm.MethodName) jdk_33_method_47_code (2 : Nat) (Option.some Jvm.ClassFile.FieldType.int)).before args0 about1 = true := code_word (m := ⟨11, 0⟩) (meth := k11m0) (c := k11c0) (by decide +kernel) rfl rfl rfl (by decide +kernel)
set_option maxRecDepth 65536 in
theorem w_c7 : (Jvm.Cond.code ({ cls := "com/example/lenkki/lenkki/RingWidth", name := "bits", desc := "()I" } : Jvm.MethodName) prog_17_method_4_code (1 : Nat) (Option.some Jvm.ClassFile.FieldType.int)).before args0 about1 = true := code_word (m := ⟨6, 0⟩) (meth := k6m0) (c := k6c0) (by decide +kernel) rfl rfl rfl (by decide +kernel)
set_option maxRecDepth 65536 in
theorem w_c8 : (Jvm.Cond.code ({ cls := "com/example/lenkki/lenkki/PositionIndex", name := "firstAtOrAfter", desc := "(J)I" } : Jvm.MethodName) prog_9_method_2_code (7 : Nat) (Option.some Jvm.ClassFile.FieldType.int)).before args0 about1 = true := code_word (m := ⟨7, 1⟩) (meth := k7m1) (c := k7c1) (by decide +kernel) rfl rfl rfl (by decide +kernel)
set_option maxRecDepth 65536 in
theorem w_c9 : (Jvm.Cond.code ({ cls := "java/lang/Long", name := "compareUnsigned", desc := "(JJ)I" } : Jvm.MethodName) jdk_35_method_43_code (4 : Nat) (Option.some Jvm.ClassFile.FieldType.int)).before args0 about1 = true := code_word (m := ⟨12, 1⟩) (meth := k12m1) (c := k12c1) (by decide +kernel) rfl rfl rfl (by decide +kernel)
set_option maxRecDepth 65536 in
theorem w_c10 : (Jvm.Cond.code ({ cls := "java/lang/Long", name := "compare", desc := "(JJ)I" } : Jvm.MethodName) jdk_35_method_42_code (4 : Nat) (Option.some Jvm.ClassFile.FieldType.int)).before args0 about1 = true := code_word (m := ⟨12, 0⟩) (meth := k12m0) (c := k12c0) (by decide +kernel) rfl rfl rfl (by decide +kernel)
set_option maxRecDepth 65536 in
theorem w_c11 : (Jvm.Cond.code ({ cls := "com/example/lenkki/lenkki/PositionIndexFirstAtOrAfterPinLaw", name := "below", desc := "([JIJ)I" } : Jvm.MethodName) method_5_code (5 : Nat) (Option.some Jvm.ClassFile.FieldType.int)).before args0 about1 = true := code_word (m := ⟨1, 4⟩) (meth := k1m4) (c := k1c4) (by decide +kernel) rfl rfl rfl (by decide +kernel)
def codes1 : List Jvm.Cond := [Jvm.Cond.code x code maxLocals ret, Jvm.Cond.code ({ cls := "com/example/lenkki/lenkki/PositionIndexFirstAtOrAfterPinLaw", name := "cx", desc := "([JII)V" } : Jvm.MethodName) method_4_code (5 : Nat) (Option.none : Option Jvm.ClassFile.FieldType), Jvm.Cond.code ({ cls := "com/example/lenkki/lenkki/PositionIndexFirstAtOrAfterPinLaw", name := "ult", desc := "(JJ)Z" } : Jvm.MethodName) method_3_code (4 : Nat) (Option.some Jvm.ClassFile.FieldType.boolean), Jvm.Cond.code ({ cls := "com/example/lenkki/lenkki/PositionIndex", name := "<init>", desc := "([JLcom/example/lenkki/lenkki/RingWidth;)V" } : Jvm.MethodName) prog_9_method_1_code (10 : Nat) (Option.none : Option Jvm.ClassFile.FieldType), Jvm.Cond.code ({ cls := "java/lang/Object", name := "<init>", desc := "()V" } : Jvm.MethodName) object_method_1_code (1 : Nat) (Option.none : Option Jvm.ClassFile.FieldType), Jvm.Cond.code ({ cls := "java/lang/Math", name := "max", desc := "(II)I" } : Jvm.MethodName) jdk_29_method_65_code (2 : Nat) (Option.some Jvm.ClassFile.FieldType.int), Jvm.Cond.code ({ cls := "java/lang/Integer", name := "numberOfLeadingZeros", desc := "(I)I" } : Jvm.MethodName) jdk_33_method_47_code (2 : Nat) (Option.some Jvm.ClassFile.FieldType.int), Jvm.Cond.code ({ cls := "com/example/lenkki/lenkki/RingWidth", name := "bits", desc := "()I" } : Jvm.MethodName) prog_17_method_4_code (1 : Nat) (Option.some Jvm.ClassFile.FieldType.int), Jvm.Cond.code ({ cls := "com/example/lenkki/lenkki/PositionIndex", name := "firstAtOrAfter", desc := "(J)I" } : Jvm.MethodName) prog_9_method_2_code (7 : Nat) (Option.some Jvm.ClassFile.FieldType.int), Jvm.Cond.code ({ cls := "java/lang/Long", name := "compareUnsigned", desc := "(JJ)I" } : Jvm.MethodName) jdk_35_method_43_code (4 : Nat) (Option.some Jvm.ClassFile.FieldType.int), Jvm.Cond.code ({ cls := "java/lang/Long", name := "compare", desc := "(JJ)I" } : Jvm.MethodName) jdk_35_method_42_code (4 : Nat) (Option.some Jvm.ClassFile.FieldType.int), Jvm.Cond.code ({ cls := "com/example/lenkki/lenkki/PositionIndexFirstAtOrAfterPinLaw", name := "below", desc := "([JIJ)I" } : Jvm.MethodName) method_5_code (5 : Nat) (Option.some Jvm.ClassFile.FieldType.int)]
set_option maxRecDepth 65536 in
theorem codes_eq : words1.filter isCode = codes1 := rfl
theorem w_codes : ∀ c ∈ words1.filter isCode, c.before args0 about1 = true := by
  rw [codes_eq]
  intro c hc
  simp only [codes1, List.mem_cons, List.not_mem_nil, or_false] at hc
  rcases hc with rfl | rfl | rfl | rfl | rfl | rfl | rfl | rfl | rfl | rfl | rfl | rfl
  · exact w_c0
  · exact w_c1
  · exact w_c2
  · exact w_c3
  · exact w_c4
  · exact w_c5
  · exact w_c6
  · exact w_c7
  · exact w_c8
  · exact w_c9
  · exact w_c10
  · exact w_c11
set_option maxRecDepth 65536 in
theorem w_t1 : (words1.take 24).all (fun c => isCode c || c.before args0 about1) = true := by decide +kernel
set_option maxRecDepth 65536 in
theorem w_t2 : ((words1.drop 24).take 24).all (fun c => isCode c || c.before args0 about1) = true := by decide +kernel
set_option maxRecDepth 65536 in
theorem w_t3 : ((words1.drop 24).drop 24).all (fun c => isCode c || c.before args0 about1) = true := by decide +kernel
theorem w_tables : (allAtoms (Jvm.Cond.code x code maxLocals ret :: tables_1)).before args0 about1 = true := by
  rw [allAtoms_all]
  show words1.all (fun c => c.before args0 about1) = true
  refine all_split ?_ w_codes
  rw [← List.take_append_drop 24 words1, List.all_append, w_t1, ← List.take_append_drop 24 (words1.drop 24), List.all_append, w_t2, w_t3]
  rfl
set_option maxRecDepth 65536 in
theorem w_case : (Jvm.Cond.and given_1 narrow_1).before args0 about1 = true := by decide +kernel
theorem w_applies : (headSpec (Jvm.Cond.code x code maxLocals ret :: tables_1) room_1).applies x e0.platform about1 = true :=
  (Spec.applies_iff w_frames).mpr ⟨w_running, w_runnable, w_alone, w_named, w_hears, w_ripe, w_room, w_tables⟩
theorem atStart : AtStart classFile x code maxLocals ret World_1 tables_1 room_1 Calls_1 rest_1 Pre_1 launch0 p0 e0 about1 theMethod args0 below0 :=
  ⟨lists_1, trivial, launch0.admits_env _ _ _, launch0.least_env, fairChoices_fair.cas, fairChoices_fair.clock, w_frames, w_args, w_heap, w_applies, trivial, trivial, w_case⟩
end start1
theorem witness_1 : WitnessClaimed_1 := ⟨start1.p0, start1.e0, start1.about1, start1.theMethod, start1.args0, start1.below0, start1.atStart⟩
end Jvm.Pilot.@@N@@
