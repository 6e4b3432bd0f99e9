import JvmDerived
import JvmDerived.Pilot.@@N@@Statement
import JvmDerived.Pilot.@@N@@Code
set_option linter.unusedVariables false
set_option linter.unusedSimpArgs false
namespace Jvm.RoadKit
open Sem ClassFile Op Lib Jvm.Stand Jvm.Free Jvm.LawKit
section Own
variable {p : Program} {l : Launch} {e : Env} {R : Room} {s s' : State} {m : MethodId} {args : Array Value} {below : List Frame} {meth : Method} {c : Code} {T : State} {locs : List Loc} {cells slots : Nat} {Z : State} {a0 : Array Value} {h : Heap} {K : Outcome → State → Prop} {Q : Option Value → Heap → List Loc → Prop}
/-- from the state A the run comes to an end that K allows -/
def OwnOk (p : Program) (e : Env) (below : List Frame) (K : Outcome → State → Prop) (A : State) : Prop :=
  ∃ s₂ o, Steps p.tables e below A s₂ ∧ s₂.status = .running ∧ Ended s₂ below o ∧ K o s₂
theorem own_up {A B : State} (h : ∀ t, Steps p.tables e below B t → Steps p.tables e below A t) (k : OwnOk p e below K B) : OwnOk p e below K A := by
  obtain ⟨s₂, o, h1, h2⟩ := k
  exact ⟨s₂, o, h _ h1, h2⟩
theorem own_to {A B : State} (h : Steps p.tables e below A B) (k : OwnOk p e below K B) : OwnOk p e below K A := own_up (fun _ q => h.trans q) k
theorem own_n0 {n0 : Nat} (X : Old Z n0 h) : n0 ≤ h.size := X.1 ▸ X.2.1
theorem own_ref_eq {a b : Addr} (q : a = b) : Value.ref a = Value.ref b := congrArg Value.ref q
theorem own_ref_ne {a b : Addr} (q : ¬ a = b) : ¬ Value.ref a = Value.ref b := fun r => q (Value.ref.inj r)
theorem own_jtlt {x y : Int64} (h : x < y) : ifCond.holds .lt (lcmpW x y) = true ∧ ifCond.holds .ge (lcmpW x y) = false ∧ ifCond.holds .gt (lcmpW y x) = true ∧ ifCond.holds .le (lcmpW y x) = false := by
  have q1 : lcmpW x y < 0 := by rw [lcW]; exact (lc_lt x y).mpr h
  have q2 : (0 : Int32) < lcmpW y x := by rw [lcW]; exact (lc_gt y x).mpr h
  exact ⟨(if0 _ _).trans (tlt q1).1, (if0 _ _).trans (tlt q1).2.1, (if0 _ _).trans (tlt q2).2.2.1, (if0 _ _).trans (tlt q2).2.2.2⟩
theorem own_jflt {x y : Int64} (h : ¬ x < y) : ifCond.holds .lt (lcmpW x y) = false ∧ ifCond.holds .ge (lcmpW x y) = true ∧ ifCond.holds .gt (lcmpW y x) = false ∧ ifCond.holds .le (lcmpW y x) = true := by
  have q1 : ¬ lcmpW x y < 0 := by rw [lcW]; exact fun q => h ((lc_lt x y).mp q)
  have q2 : ¬ (0 : Int32) < lcmpW y x := by rw [lcW]; exact fun q => h ((lc_gt y x).mp q)
  exact ⟨(if0 _ _).trans (flt q1).1, (if0 _ _).trans (flt q1).2.1, (if0 _ _).trans (flt q2).2.2.1, (if0 _ _).trans (flt q2).2.2.2⟩
theorem own_jteq {x y : Int64} (h : x = y) : ifCond.holds .eq (lcmpW x y) = true ∧ ifCond.holds .ne (lcmpW x y) = false := by
  have q1 : lcmpW x y = 0 := by rw [lcW]; exact (lc_eq x y).mpr h
  exact ⟨(if0 _ _).trans (teq q1).1, (if0 _ _).trans (teq q1).2⟩
theorem own_jfeq {x y : Int64} (h : ¬ x = y) : ifCond.holds .eq (lcmpW x y) = false ∧ ifCond.holds .ne (lcmpW x y) = true := by
  have q1 : ¬ lcmpW x y = 0 := by rw [lcW]; exact fun q => h ((lc_eq x y).mp q)
  exact ⟨(if0 _ _).trans (feq q1).1, (if0 _ _).trans (feq q1).2⟩
theorem own_fldEq {t : Term} {a : Addr} {C n d : String} {z : Int32} (ev : t.eval args Z none [] Z = some (.ref a)) (q : (Cond.eq (.field t C n d) (.int z)).value args Z none Z [] = some true) : Fld Z Z.heap a C n d (.int z) := by
  obtain ⟨x, y, h1, h2, h3, h4⟩ := cmp_v (Or.inl q)
  have e2 : y = .int z := by simpa [Term.eval] using h2.symm
  subst e2
  obtain ⟨w, rfl⟩ := h4
  have hw : w = z := by
    have q' := q
    rw [Cond.eq_ints h1 h2] at q'
    exact of_decide_eq_true (Option.some.inj q')
  subst hw
  rw [fld_at ev] at h1
  exact Fld.start h1
/-- the end of a body that interns nothing -/
def own_K (s : State) (Q : Option Value → Heap → List Loc → Prop) (k n : Nat) (o : Outcome) (u : State) : Prop := ∃ v L, o = .returned v ∧ Q v u.heap L ∧ FrameEnd s o u L k n
/-- a body's contract -/
def own_Met (l : Launch) (Z : State) (y : MethodName) (bytes : ByteArray) (maxL : Nat) (ret : Option FieldType) (rm : Room) (as' : Array Value) (h0 : Heap) (Q : Option Value → Heap → List Loc → Prop) : Prop :=
  ∀ ws, MetFree l y (head1 (Cond.code y bytes maxL ret :: ws) rm) (fun a U => a = as' ∧ Z.Warmed39 U.vm ∧ U.heap = h0) (fun _ _ _ _ _ => True) (fun _ U o U' => own_K U Q rm.cells rm.slots o U')
theorem own_body {y : MethodName} {bytes : ByteArray} {maxL : Nat} {ret : Option FieldType} {rm : Room} {as' : Array Value} {L0 : Array Slot}
    (hpl : plainFor y = true) (ef : ∀ m, entryFrame m as' maxL = mkF m 0 L0 [])
    (body : ∀ (p : Program) (e : Env) (s : State) (m : MethodId) (below : List Frame) (meth : Method) (c : Code) (s₁ : State), p.tables.exec = Jvm.exec → c.code = bytes → c.maxLocals = maxL → Z.Warmed39 s.vm → s.vm.findClass y.cls = some m.cls → meth.name = y.name → meth.sig.returnType = ret → meth.locks = false →
      Stand p l e rm s m as' below meth c s₁ [] 0 0 → s₁.heap = h → OwnOk p e below (own_K s Q rm.cells rm.slots) (s₁.setTop (mkF m 0 L0 []))) :
    own_Met l Z y bytes maxL ret rm as' h Q := by
  intro ws
  refine MetFree.of_bodySF hpl hisR ?_
  intro p e s m args below meth c s₁ Bd hml0 hP hK
  obtain ⟨rfl, hZ, hh⟩ := hP
  have q := body p e s m below meth c s₁ Bd.exec Bd.bytes hml0 hZ (findClass_of_methodNamed Bd.named) (name_of_methodNamed Bd.named Bd.method).1 Bd.returns Bd.notSynchronized (Stand.of_body Bd) (by rw [← hh, Bd.state]; rfl)
  rw [← ef] at q
  exact q
theorem own_ret (X : Stand p l e R s m args below meth c T locs cells slots) {F : JFrame} {v : Option Value} (hv : meth.sig.returnType = none → v = none) (hlk : meth.locks = false)
    (st : ∀ fs, (∀ (f : JFrame) (acts : List Action), f.method = m → f.locked = none → f.entered = [] → (doReturn e (T.setTop f) acts v).1 = T.setFrames fs) → Steps p.tables e below (T.setTop F) (T.setFrames fs))
    (eT : T.heap = h) (hQ : Q v h locs) {k n : Nat} (hk : cells ≤ k) (hn : slots ≤ n) : OwnOk p e below (own_K s Q k n) (T.setTop F) := by
  obtain ⟨fs, hr, hrun, hended, hW, hsame⟩ := X.leave hv hlk
  refine ⟨_, _, st fs hr, hrun, hended, v, locs, rfl, ?_, ⟨_, rfl⟩, hW, hsame.mono hk hn⟩
  show Q v T.heap locs
  rw [eT]; exact hQ
theorem own_retN (X : Stand p l e R s m args below meth c T locs cells slots) (hx : p.tables.exec = Jvm.exec) {t : FieldType} (hret : meth.sig.returnType = some t) (ht : t = .boolean ∨ t = .byte ∨ t = .char ∨ t = .short) (hlk : meth.locks = false)
    {pc : Nat} {Ls : Array Slot} {z z' : Int32} {rest : List Value} (hd : decode c.code pc = .ok (.ireturn, 1)) (hz : nar t z = z') (eT : T.heap = h) {k n : Nat} (hk : cells ≤ k) (hn : slots ≤ n) (hQ : Q (some (.int z')) h locs) :
    OwnOk p e below (own_K s Q k n) (T.setTop (mkF m pc Ls (.int z :: rest))) := by
  subst hz
  exact own_ret X (fun q => by rw [hret] at q; cases q) hlk (fun fs hr => retN X hx hret ht hd hr) eT hQ hk hn
theorem own_retI (X : Stand p l e R s m args below meth c T locs cells slots) (hx : p.tables.exec = Jvm.exec) (hret : meth.sig.returnType = some .int) (hlk : meth.locks = false)
    {pc : Nat} {Ls : Array Slot} {z : Int32} {rest : List Value} (hd : decode c.code pc = .ok (.ireturn, 1)) (eT : T.heap = h) {k n : Nat} (hk : cells ≤ k) (hn : slots ≤ n) (hQ : Q (some (.int z)) h locs) :
    OwnOk p e below (own_K s Q k n) (T.setTop (mkF m pc Ls (.int z :: rest))) :=
  own_ret X (fun q => by rw [hret] at q; cases q) hlk (fun fs hr => retOut X hx hret rfl (Or.inl ⟨rfl, Or.inl rfl, z, rfl⟩) hd hr) eT hQ hk hn
theorem own_retJ (X : Stand p l e R s m args below meth c T locs cells slots) (hx : p.tables.exec = Jvm.exec) (hret : meth.sig.returnType = some .long) (hlk : meth.locks = false)
    {pc : Nat} {Ls : Array Slot} {z : Int64} {rest : List Value} (hd : decode c.code pc = .ok (.lreturn, 1)) (eT : T.heap = h) {k n : Nat} (hk : cells ≤ k) (hn : slots ≤ n) (hQ : Q (some (.long z)) h locs) :
    OwnOk p e below (own_K s Q k n) (T.setTop (mkF m pc Ls (.long z :: rest))) :=
  own_ret X (fun q => by rw [hret] at q; cases q) hlk (fun fs hr => retOut X hx hret rfl (Or.inr (Or.inl ⟨rfl, rfl, z, rfl⟩)) hd hr) eT hQ hk hn
theorem own_retR (X : Stand p l e R s m args below meth c T locs cells slots) (hx : p.tables.exec = Jvm.exec) {t : FieldType} (hret : meth.sig.returnType = some t) (ht : t.isReference = true) (hlk : meth.locks = false)
    {pc : Nat} {Ls : Array Slot} {w : Value} {rest : List Value} (hw : w.isRef = true) (hd : decode c.code pc = .ok (.areturn, 1)) (eT : T.heap = h) {k n : Nat} (hk : cells ≤ k) (hn : slots ≤ n) (hQ : Q (some w) h locs) :
    OwnOk p e below (own_K s Q k n) (T.setTop (mkF m pc Ls (w :: rest))) :=
  own_ret X (fun q => by rw [hret] at q; cases q) hlk (fun fs hr => retOut X hx hret (by rcases ref_cases hw with rfl | ⟨a, rfl⟩ <;> cases t <;> rfl) (Or.inr (Or.inr (Or.inr (Or.inr ⟨rfl, ht, hw⟩)))) hd hr) eT hQ hk hn
theorem own_retV (X : Stand p l e R s m args below meth c T locs cells slots) (hx : p.tables.exec = Jvm.exec) (hret : meth.sig.returnType = none) (hlk : meth.locks = false)
    {pc : Nat} {Ls : Array Slot} (hd : decode c.code pc = .ok (.return_, 1)) (eT : T.heap = h) {k n : Nat} (hk : cells ≤ k) (hn : slots ≤ n) (hQ : Q none h locs) :
    OwnOk p e below (own_K s Q k n) (T.setTop (mkF m pc Ls [])) :=
  own_ret X (fun _ => rfl) hlk (fun fs hr => X.returnOut hx hret hd hr) eT hQ hk hn
/-- who pays a call: Back, in the form that backOf and the pasted String laws have -/
def own_Bk (l : Launch) (R : Room) (p : Program) (e : Env) (below : List Frame) (s : State) (args : Array Value) (y : MethodName) (len W : Nat) (as' : Array Value) (h : Heap) (kc ks : Nat) (Q : Option Value → Heap → List Loc → Prop) : Prop :=
  Back l R p e below s args y len W (fun A a => a = as' ∧ A.U.heap = h ∧ A.cells + kc ≤ R.cells ∧ A.slots + ks ≤ R.slots) (fun A _ v B => ∃ L, Q v B.U.heap L ∧ B.locs = A.locs ++ L ∧ B.cells = A.cells + kc ∧ B.slots = A.slots + ks)
theorem own_bk {y : MethodName} {bytes : ByteArray} {maxL : Nat} {ret : Option FieldType} {rm : Room} {len W : Nat} {as' : Array Value} (hM : own_Met l Z y bytes maxL ret rm as' h Q) (hZ : Z.Warmed39 s.vm) (w4 : (Cond.code y bytes maxL ret).before a0 Z = true) (w3 : (Cond.initialized y.cls).before a0 Z = true) (hf : rm.frames + 1 ≤ R.frames) (hl : W + (maxL + 11) + rm.locals ≤ R.locals) :
    own_Bk l R p e below s args y len W as' h rm.cells rm.slots Q := backOf (W := W) (hM []) hZ w4 w3 hf hl
/-- a static call -/
theorem own_callSB (X : Stand p l e R s m args below meth c T locs cells slots) (hx : p.tables.exec = Jvm.exec) (hZ : Z.Warmed39 s.vm) {own : String} {index : Nat} {y : MethodName} {bytes : ByteArray} {maxL : Nat} {ret : Option FieldType}
    (hown : s.vm.findClass own = some m.cls) (w1 : (Cond.methodLink own index y).before a0 Z = true) (w2 : (Cond.static y).before a0 Z = true) (w3 : (Cond.initialized y.cls).before a0 Z = true) (w4 : (Cond.code y bytes maxL ret).before a0 Z = true)
    (hy : y.cls ≠ "java/lang/invoke/MethodHandle" ∧ y.cls ≠ "java/lang/invoke/VarHandle") {W kc ks : Nat} {as' : Array Value} {Q' : Option Value → Heap → List Loc → Prop} (hB : own_Bk l R p e below s args y 3 W as' h kc ks Q') (eT : T.heap = h)
    {pc : Nat} {ls : Array Slot} {st argsL rest : List Value} (hsize : ls.size = c.maxLocals) (hlen : ∀ sig, parseMethodDescriptor y.desc = some sig → argsL.length = sig.parameters.length) (has : argsL.toArray = as') (hst : st = argsL.reverse ++ rest)
    (hW : (rest.map fun v => v.category).sum = W) (hd : decode c.code pc = .ok (.invokestatic index, 3)) (hc : cells + kc ≤ R.cells) (hs : slots + ks ≤ R.slots)
    (k : ∀ (T' : State) (v : Option Value) (L : List Loc), Stand p l e R s m args below meth c T' (locs ++ L) (cells + kc) (slots + ks) → Q' v T'.heap L → OwnOk p e below K (T'.setTop (mkF m (pc + 3) ls (v.toList ++ rest)))) :
    OwnOk p e below K (T.setTop (mkF m pc ls st)) := by
  obtain ⟨v, _, ⟨T2, L2, k2, n2⟩, -, X2, ⟨Lc, hQ, l2, y2, z2⟩, st2⟩ := Jvm.LawKit.callS X hx hown (mvT hZ w1) (mvT hZ w2) (mvT hZ w3) (mvT hZ w4) hy hB
    (g := mkF m pc ls st) rfl hsize (argsL := argsL) (rest := rest) hlen hst (by show 2 * 0 + _ ≤ _; rw [hW]; omega) hd (fun _ _ => ⟨has, eT, hc, hs⟩)
  dsimp only [Pt.U, Pt.locs, Pt.cells, Pt.slots] at X2 l2 y2 z2 st2 hQ
  subst l2 y2 z2
  exact own_up st2 (k _ _ _ X2 hQ)
theorem own_callS (X : Stand p l e R s m args below meth c T locs cells slots) (hx : p.tables.exec = Jvm.exec) (hZ : Z.Warmed39 s.vm) {own : String} {index : Nat} {y : MethodName} {bytes : ByteArray} {maxL : Nat} {ret : Option FieldType}
    (hown : s.vm.findClass own = some m.cls) (w1 : (Cond.methodLink own index y).before a0 Z = true) (w2 : (Cond.static y).before a0 Z = true) (w3 : (Cond.initialized y.cls).before a0 Z = true) (w4 : (Cond.code y bytes maxL ret).before a0 Z = true)
    (hy : y.cls ≠ "java/lang/invoke/MethodHandle" ∧ y.cls ≠ "java/lang/invoke/VarHandle") {rm : Room} {as' : Array Value} {Q' : Option Value → Heap → List Loc → Prop} (hM : own_Met l Z y bytes maxL ret rm as' h Q') (eT : T.heap = h)
    {pc W : Nat} {ls : Array Slot} {st argsL rest : List Value} (hsize : ls.size = c.maxLocals) (hlen : ∀ sig, parseMethodDescriptor y.desc = some sig → argsL.length = sig.parameters.length) (has : argsL.toArray = as') (hst : st = argsL.reverse ++ rest)
    (hW : (rest.map fun v => v.category).sum = W) (hd : decode c.code pc = .ok (.invokestatic index, 3)) (hf : rm.frames + 1 ≤ R.frames) (hl : W + (maxL + 11) + rm.locals ≤ R.locals) (hc : cells + rm.cells ≤ R.cells) (hs : slots + rm.slots ≤ R.slots)
    (k : ∀ (T' : State) (v : Option Value) (L : List Loc), Stand p l e R s m args below meth c T' (locs ++ L) (cells + rm.cells) (slots + rm.slots) → Q' v T'.heap L → OwnOk p e below K (T'.setTop (mkF m (pc + 3) ls (v.toList ++ rest)))) :
    OwnOk p e below K (T.setTop (mkF m pc ls st)) := own_callSB X hx hZ hown w1 w2 w3 w4 hy (own_bk hM hZ w4 w3 hf hl) eT hsize hlen has hst hW hd hc hs k
/-- a constructor -/
theorem own_callCB (X : Stand p l e R s m args below meth c T locs cells slots) (hx : p.tables.exec = Jvm.exec) (hZ : Z.Warmed39 s.vm) {own : String} {index : Nat} {y : MethodName} {bytes : ByteArray} {maxL : Nat} (hy1 : y.name = "<init>")
    (hown : s.vm.findClass own = some m.cls) (w1 : (Cond.methodLink own index y).before a0 Z = true) (w2 : (Cond.instanceMethod y).before a0 Z = true) (w4 : (Cond.code y bytes maxL none).before a0 Z = true)
    (hy : y.cls ≠ "java/lang/invoke/MethodHandle" ∧ y.cls ≠ "java/lang/invoke/VarHandle") {W kc ks : Nat} {as' : Array Value} {Q' : Option Value → Heap → List Loc → Prop} (hB : own_Bk l R p e below s args y 3 W as' h kc ks Q') (eT : T.heap = h)
    {pc : Nat} {ls : Array Slot} {a : Addr} {st argsL rest : List Value} (hsize : ls.size = c.maxLocals) (hlen : ∀ sig, parseMethodDescriptor y.desc = some sig → argsL.length = sig.parameters.length) (has : (Value.ref a :: argsL).toArray = as') (hst : st = argsL.reverse ++ .ref a :: rest)
    (hW : (rest.map fun v => v.category).sum = W) (hd : decode c.code pc = .ok (.invokespecial index, 3)) (hc : cells + kc ≤ R.cells) (hs : slots + ks ≤ R.slots)
    (k : ∀ (T' : State) (v : Option Value) (L : List Loc), Stand p l e R s m args below meth c T' (locs ++ L) (cells + kc) (slots + ks) → Q' v T'.heap L → OwnOk p e below K (T'.setTop (mkF m (pc + 3) ls (v.toList ++ rest)))) :
    OwnOk p e below K (T.setTop (mkF m pc ls st)) := by
  obtain ⟨v, _, ⟨T2, L2, k2, n2⟩, -, X2, ⟨Lc, hQ, l2, y2, z2⟩, st2⟩ := X.specialBack hx hy1 hown (mvT hZ w1) (mvT hZ w2) (mvT hZ w4) hy hB
    (g := mkF m pc ls st) rfl hsize (Steps.refl _) (a := a) (argsL := argsL) (rest := rest) hlen hst (by show 2 * 0 + _ ≤ _; rw [hW]; omega) hd (fun _ _ => ⟨has, eT, hc, hs⟩)
  dsimp only [Pt.U, Pt.locs, Pt.cells, Pt.slots] at X2 l2 y2 z2 st2 hQ
  subst l2 y2 z2
  exact own_to st2 (k _ _ _ X2 hQ)
theorem own_callC (X : Stand p l e R s m args below meth c T locs cells slots) (hx : p.tables.exec = Jvm.exec) (hZ : Z.Warmed39 s.vm) {own : String} {index : Nat} {y : MethodName} {bytes : ByteArray} {maxL : Nat} (hy1 : y.name = "<init>")
    (hown : s.vm.findClass own = some m.cls) (w1 : (Cond.methodLink own index y).before a0 Z = true) (w2 : (Cond.instanceMethod y).before a0 Z = true) (w3 : (Cond.initialized y.cls).before a0 Z = true) (w4 : (Cond.code y bytes maxL none).before a0 Z = true)
    (hy : y.cls ≠ "java/lang/invoke/MethodHandle" ∧ y.cls ≠ "java/lang/invoke/VarHandle") {rm : Room} {as' : Array Value} {Q' : Option Value → Heap → List Loc → Prop} (hM : own_Met l Z y bytes maxL none rm as' h Q') (eT : T.heap = h)
    {pc W : Nat} {ls : Array Slot} {a : Addr} {st argsL rest : List Value} (hsize : ls.size = c.maxLocals) (hlen : ∀ sig, parseMethodDescriptor y.desc = some sig → argsL.length = sig.parameters.length) (has : (Value.ref a :: argsL).toArray = as') (hst : st = argsL.reverse ++ .ref a :: rest)
    (hW : (rest.map fun v => v.category).sum = W) (hd : decode c.code pc = .ok (.invokespecial index, 3)) (hf : rm.frames + 1 ≤ R.frames) (hl : W + (maxL + 11) + rm.locals ≤ R.locals) (hc : cells + rm.cells ≤ R.cells) (hs : slots + rm.slots ≤ R.slots)
    (k : ∀ (T' : State) (v : Option Value) (L : List Loc), Stand p l e R s m args below meth c T' (locs ++ L) (cells + rm.cells) (slots + rm.slots) → Q' v T'.heap L → OwnOk p e below K (T'.setTop (mkF m (pc + 3) ls (v.toList ++ rest)))) :
    OwnOk p e below K (T.setTop (mkF m pc ls st)) := own_callCB X hx hZ hy1 hown w1 w2 w4 hy (own_bk hM hZ w4 w3 hf hl) eT hsize hlen has hst hW hd hc hs k
/-- an instance method: the body that the receiver's class selects -/
theorem own_callVB (X : Stand p l e R s m args below meth c T locs cells slots) (hx : p.tables.exec = Jvm.exec) (hZ : Z.Warmed39 s.vm) {own C : String} {index : Nat} {y z : MethodName}
    (hown : s.vm.findClass own = some m.cls) (w1 : (Cond.methodLink own index y).before a0 Z = true) (w2 : (Cond.declares y).before a0 Z = true) (hnf : NotFace s y) (w5 : (Cond.selects C y z).before a0 Z = true) (w6 : (Cond.instanceMethod z).before a0 Z = true)
    (hy : y.cls ≠ "java/lang/invoke/MethodHandle" ∧ y.cls ≠ "java/lang/invoke/VarHandle") {W kc ks : Nat} {as' : Array Value} {Q' : Option Value → Heap → List Loc → Prop} (hB : own_Bk l R p e below s args z 3 W as' h kc ks Q') (eT : T.heap = h)
    {pc : Nat} {ls : Array Slot} {a : Addr} {st argsL rest : List Value} (E : Exa Z h a C) (hsize : ls.size = c.maxLocals) (hlen : ∀ sig, parseMethodDescriptor y.desc = some sig → argsL.length = sig.parameters.length) (has : (Value.ref a :: argsL).toArray = as') (hst : st = argsL.reverse ++ .ref a :: rest)
    (hW : (rest.map fun v => v.category).sum = W) (hd : decode c.code pc = .ok (.invokevirtual index, 3)) (hc : cells + kc ≤ R.cells) (hs : slots + ks ≤ R.slots)
    (k : ∀ (T' : State) (v : Option Value) (L : List Loc), Stand p l e R s m args below meth c T' (locs ++ L) (cells + kc) (slots + ks) → Q' v T'.heap L → OwnOk p e below K (T'.setTop (mkF m (pc + 3) ls (v.toList ++ rest)))) :
    OwnOk p e below K (T.setTop (mkF m pc ls st)) := by
  obtain ⟨cq, kq, qa, qb, qc⟩ := isOf hZ eT E
  obtain ⟨v, _, ⟨T2, L2, k2, n2⟩, -, X2, ⟨Lc, hQ, l2, y2, z2⟩, st2⟩ := X.virtualBack hx (y := y) (z := z) hown (mvT hZ w1) (mvT hZ w2) hnf (mvT hZ w5) (mvT hZ w6) hy hB qa qc
    (g := mkF m pc ls st) rfl hsize (Steps.refl _) (argsL := argsL) (rest := rest) hlen hst (by show 2 * 0 + _ ≤ _; rw [hW]; omega) hd (fun _ _ => ⟨has, eT, hc, hs⟩)
  dsimp only [Pt.U, Pt.locs, Pt.cells, Pt.slots] at X2 l2 y2 z2 st2 hQ
  subst l2 y2 z2
  exact own_to st2 (k _ _ _ X2 hQ)
theorem own_callV (X : Stand p l e R s m args below meth c T locs cells slots) (hx : p.tables.exec = Jvm.exec) (hZ : Z.Warmed39 s.vm) {own C : String} {index : Nat} {y z : MethodName} {bytes : ByteArray} {maxL : Nat} {ret : Option FieldType}
    (hown : s.vm.findClass own = some m.cls) (w1 : (Cond.methodLink own index y).before a0 Z = true) (w2 : (Cond.declares y).before a0 Z = true) (hnf : NotFace s y) (w5 : (Cond.selects C y z).before a0 Z = true) (w6 : (Cond.instanceMethod z).before a0 Z = true) (w3 : (Cond.initialized z.cls).before a0 Z = true) (w4 : (Cond.code z bytes maxL ret).before a0 Z = true)
    (hy : y.cls ≠ "java/lang/invoke/MethodHandle" ∧ y.cls ≠ "java/lang/invoke/VarHandle") {rm : Room} {as' : Array Value} {Q' : Option Value → Heap → List Loc → Prop} (hM : own_Met l Z z bytes maxL ret rm as' h Q') (eT : T.heap = h)
    {pc W : Nat} {ls : Array Slot} {a : Addr} {st argsL rest : List Value} (E : Exa Z h a C) (hsize : ls.size = c.maxLocals) (hlen : ∀ sig, parseMethodDescriptor y.desc = some sig → argsL.length = sig.parameters.length) (has : (Value.ref a :: argsL).toArray = as') (hst : st = argsL.reverse ++ .ref a :: rest)
    (hW : (rest.map fun v => v.category).sum = W) (hd : decode c.code pc = .ok (.invokevirtual index, 3)) (hf : rm.frames + 1 ≤ R.frames) (hl : W + (maxL + 11) + rm.locals ≤ R.locals) (hc : cells + rm.cells ≤ R.cells) (hs : slots + rm.slots ≤ R.slots)
    (k : ∀ (T' : State) (v : Option Value) (L : List Loc), Stand p l e R s m args below meth c T' (locs ++ L) (cells + rm.cells) (slots + rm.slots) → Q' v T'.heap L → OwnOk p e below K (T'.setTop (mkF m (pc + 3) ls (v.toList ++ rest)))) :
    OwnOk p e below K (T.setTop (mkF m pc ls st)) := own_callVB X hx hZ hown w1 w2 hnf w5 w6 hy (own_bk hM hZ w4 w3 hf hl) eT E hsize hlen has hst hW hd hc hs k
end Own
end Jvm.RoadKit
namespace Jvm.Pilot.@@N@@
open Jvm Jvm.ClassFile Sem Op Lib Jvm.Free Jvm.Stand Jvm.LawKit Jvm.RoadKit Bundle Jvm.Pilot.@@N@@.Jvm.D
theorem d1_0 : decode method_3_code 0 = .ok (.iload_n 0, 1) := by decide +kernel
theorem d1_1 : decode method_3_code 1 = .ok (.ifCond .ne 7, 3) := by decide +kernel
theorem d1_4 : decode method_3_code 4 = .ok (.getstatic 23, 3) := by decide +kernel
theorem d1_7 : decode method_3_code 7 = .ok (.areturn, 1) := by decide +kernel
theorem d1_8 : decode method_3_code 8 = .ok (.iload_n 0, 1) := by decide +kernel
theorem d1_9 : decode method_3_code 9 = .ok (.iconst 1, 1) := by decide +kernel
theorem d1_10 : decode method_3_code 10 = .ok (.if_icmp .ne 7, 3) := by decide +kernel
theorem d1_13 : decode method_3_code 13 = .ok (.getstatic 27, 3) := by decide +kernel
theorem d1_16 : decode method_3_code 16 = .ok (.areturn, 1) := by decide +kernel
theorem d1_17 : decode method_3_code 17 = .ok (.iload_n 0, 1) := by decide +kernel
theorem d1_18 : decode method_3_code 18 = .ok (.iconst 2, 1) := by decide +kernel
theorem d1_19 : decode method_3_code 19 = .ok (.if_icmp .ne 7, 3) := by decide +kernel
theorem d1_22 : decode method_3_code 22 = .ok (.getstatic 30, 3) := by decide +kernel
theorem d1_25 : decode method_3_code 25 = .ok (.areturn, 1) := by decide +kernel
theorem d1_26 : decode method_3_code 26 = .ok (.iload_n 0, 1) := by decide +kernel
theorem d1_27 : decode method_3_code 27 = .ok (.iconst 3, 1) := by decide +kernel
theorem d1_28 : decode method_3_code 28 = .ok (.if_icmp .ne 7, 3) := by decide +kernel
theorem d1_31 : decode method_3_code 31 = .ok (.getstatic 33, 3) := by decide +kernel
theorem d1_34 : decode method_3_code 34 = .ok (.areturn, 1) := by decide +kernel
theorem d1_35 : decode method_3_code 35 = .ok (.iload_n 0, 1) := by decide +kernel
theorem d1_36 : decode method_3_code 36 = .ok (.iconst 4, 1) := by decide +kernel
theorem d1_37 : decode method_3_code 37 = .ok (.if_icmp .ne 7, 3) := by decide +kernel
theorem d1_40 : decode method_3_code 40 = .ok (.getstatic 36, 3) := by decide +kernel
theorem d1_43 : decode method_3_code 43 = .ok (.areturn, 1) := by decide +kernel
theorem d1_44 : decode method_3_code 44 = .ok (.iload_n 0, 1) := by decide +kernel
theorem d1_45 : decode method_3_code 45 = .ok (.iconst 5, 1) := by decide +kernel
theorem d1_46 : decode method_3_code 46 = .ok (.if_icmp .ne 7, 3) := by decide +kernel
theorem d1_49 : decode method_3_code 49 = .ok (.getstatic 39, 3) := by decide +kernel
theorem d1_52 : decode method_3_code 52 = .ok (.areturn, 1) := by decide +kernel
theorem d1_53 : decode method_3_code 53 = .ok (.iload_n 0, 1) := by decide +kernel
theorem d1_54 : decode method_3_code 54 = .ok (.bipush 6, 2) := by decide +kernel
theorem d1_56 : decode method_3_code 56 = .ok (.if_icmp .ne 7, 3) := by decide +kernel
theorem d1_59 : decode method_3_code 59 = .ok (.getstatic 42, 3) := by decide +kernel
theorem d1_62 : decode method_3_code 62 = .ok (.areturn, 1) := by decide +kernel
theorem d1_63 : decode method_3_code 63 = .ok (.getstatic 45, 3) := by decide +kernel
theorem d1_66 : decode method_3_code 66 = .ok (.areturn, 1) := by decide +kernel
theorem d2_0 : decode method_4_code 0 = .ok (.iload_n 0, 1) := by decide +kernel
theorem d2_1 : decode method_4_code 1 = .ok (.ifCond .ne 5, 3) := by decide +kernel
theorem d2_4 : decode method_4_code 4 = .ok (.iconst 0, 1) := by decide +kernel
theorem d2_5 : decode method_4_code 5 = .ok (.ireturn, 1) := by decide +kernel
theorem d2_6 : decode method_4_code 6 = .ok (.iconst 1, 1) := by decide +kernel
theorem d2_7 : decode method_4_code 7 = .ok (.ireturn, 1) := by decide +kernel
theorem d3_0 : decode prog_107_method_5_code 0 = .ok (.aload_n 0, 1) := by decide +kernel
theorem d3_1 : decode prog_107_method_5_code 1 = .ok (.getstatic 3, 3) := by decide +kernel
theorem d3_4 : decode prog_107_method_5_code 4 = .ok (.if_acmp .eq 7, 3) := by decide +kernel
theorem d3_7 : decode prog_107_method_5_code 7 = .ok (.iconst 1, 1) := by decide +kernel
theorem d3_8 : decode prog_107_method_5_code 8 = .ok (.goto 4, 3) := by decide +kernel
theorem d3_11 : decode prog_107_method_5_code 11 = .ok (.iconst 0, 1) := by decide +kernel
theorem d3_12 : decode prog_107_method_5_code 12 = .ok (.ireturn, 1) := by decide +kernel
theorem pd_0 : parseMethodDescriptor "(I)Lcom/example/kwery/kwery/DateType;" = some ⟨[.int], some (.object "com/example/kwery/kwery/DateType")⟩ := by decide +kernel
theorem pd_1 : parseMethodDescriptor "(I)Z" = some ⟨[.int], some .boolean⟩ := by decide +kernel
theorem pd_2 : parseMethodDescriptor "()Z" = some ⟨[], some .boolean⟩ := by decide +kernel
theorem wd_0 {a0 : Array Value} {Z : State} (hw : ∀ d ∈ tables_1, d.before a0 Z = true) : (Jvm.Cond.methodLink "com/example/kwery/kwery/DateTypeIsImmutableValuePinLaw" (7 : Nat) ({ cls := "com/example/kwery/kwery/DateTypeIsImmutableValuePinLaw", name := "pick", desc := "(I)Lcom/example/kwery/kwery/DateType;" } : Jvm.MethodName)).before a0 Z = true := hw _ (List.mem_of_getElem? (i := 0) rfl)
theorem wd_1 {a0 : Array Value} {Z : State} (hw : ∀ d ∈ tables_1, d.before a0 Z = true) : (Jvm.Cond.static ({ cls := "com/example/kwery/kwery/DateTypeIsImmutableValuePinLaw", name := "pick", desc := "(I)Lcom/example/kwery/kwery/DateType;" } : Jvm.MethodName)).before a0 Z = true := hw _ (List.mem_of_getElem? (i := 1) rfl)
theorem wd_2 {a0 : Array Value} {Z : State} (hw : ∀ d ∈ tables_1, d.before a0 Z = true) : (Jvm.Cond.initialized "com/example/kwery/kwery/DateTypeIsImmutableValuePinLaw").before a0 Z = true := hw _ (List.mem_of_getElem? (i := 2) rfl)
theorem wd_3 {a0 : Array Value} {Z : State} (hw : ∀ d ∈ tables_1, d.before a0 Z = true) : (Jvm.Cond.code ({ cls := "com/example/kwery/kwery/DateTypeIsImmutableValuePinLaw", name := "pick", desc := "(I)Lcom/example/kwery/kwery/DateType;" } : Jvm.MethodName) method_3_code (1 : Nat) (Option.some (Jvm.ClassFile.FieldType.object "com/example/kwery/kwery/DateType"))).before a0 Z = true := hw _ (List.mem_of_getElem? (i := 3) rfl)
theorem wd_4 {a0 : Array Value} {Z : State} (hw : ∀ d ∈ tables_1, d.before a0 Z = true) : (Jvm.Cond.fieldLink "com/example/kwery/kwery/DateTypeIsImmutableValuePinLaw" (23 : Nat) "com/example/kwery/kwery/DateType" "DATE" "Lcom/example/kwery/kwery/DateType;").before a0 Z = true := hw _ (List.mem_of_getElem? (i := 4) rfl)
theorem wd_5 {a0 : Array Value} {Z : State} (hw : ∀ d ∈ tables_1, d.before a0 Z = true) : (Jvm.Cond.initialized "com/example/kwery/kwery/DateType").before a0 Z = true := hw _ (List.mem_of_getElem? (i := 5) rfl)
theorem wd_6 {a0 : Array Value} {Z : State} (hw : ∀ d ∈ tables_1, d.before a0 Z = true) : (Jvm.Cond.laysStatic "com/example/kwery/kwery/DateType" "DATE" "Lcom/example/kwery/kwery/DateType;").before a0 Z = true := hw _ (List.mem_of_getElem? (i := 6) rfl)
theorem wd_7 {a0 : Array Value} {Z : State} (hw : ∀ d ∈ tables_1, d.before a0 Z = true) : (Jvm.Cond.methodLink "com/example/kwery/kwery/DateTypeIsImmutableValuePinLaw" (13 : Nat) ({ cls := "com/example/kwery/kwery/DateTypeIsImmutableValuePinLaw", name := "expectedFor", desc := "(I)Z" } : Jvm.MethodName)).before a0 Z = true := hw _ (List.mem_of_getElem? (i := 7) rfl)
theorem wd_8 {a0 : Array Value} {Z : State} (hw : ∀ d ∈ tables_1, d.before a0 Z = true) : (Jvm.Cond.static ({ cls := "com/example/kwery/kwery/DateTypeIsImmutableValuePinLaw", name := "expectedFor", desc := "(I)Z" } : Jvm.MethodName)).before a0 Z = true := hw _ (List.mem_of_getElem? (i := 8) rfl)
theorem wd_9 {a0 : Array Value} {Z : State} (hw : ∀ d ∈ tables_1, d.before a0 Z = true) : (Jvm.Cond.code ({ cls := "com/example/kwery/kwery/DateTypeIsImmutableValuePinLaw", name := "expectedFor", desc := "(I)Z" } : Jvm.MethodName) method_4_code (1 : Nat) (Option.some Jvm.ClassFile.FieldType.boolean)).before a0 Z = true := hw _ (List.mem_of_getElem? (i := 9) rfl)
theorem wd_10 {a0 : Array Value} {Z : State} (hw : ∀ d ∈ tables_1, d.before a0 Z = true) : (Jvm.Cond.methodLink "com/example/kwery/kwery/DateTypeIsImmutableValuePinLaw" (17 : Nat) ({ cls := "com/example/kwery/kwery/DateType", name := "isImmutableValue", desc := "()Z" } : Jvm.MethodName)).before a0 Z = true := hw _ (List.mem_of_getElem? (i := 10) rfl)
theorem wd_11 {a0 : Array Value} {Z : State} (hw : ∀ d ∈ tables_1, d.before a0 Z = true) : (Jvm.Cond.declares ({ cls := "com/example/kwery/kwery/DateType", name := "isImmutableValue", desc := "()Z" } : Jvm.MethodName)).before a0 Z = true := hw _ (List.mem_of_getElem? (i := 11) rfl)
theorem wd_12 {a0 : Array Value} {Z : State} (hw : ∀ d ∈ tables_1, d.before a0 Z = true) : (Jvm.Cond.instanceMethod ({ cls := "com/example/kwery/kwery/DateType", name := "isImmutableValue", desc := "()Z" } : Jvm.MethodName)).before a0 Z = true := hw _ (List.mem_of_getElem? (i := 12) rfl)
theorem wd_13 {a0 : Array Value} {Z : State} (hw : ∀ d ∈ tables_1, d.before a0 Z = true) : (Jvm.Cond.selects "com/example/kwery/kwery/DateType$1" ({ cls := "com/example/kwery/kwery/DateType", name := "isImmutableValue", desc := "()Z" } : Jvm.MethodName) ({ cls := "com/example/kwery/kwery/DateType", name := "isImmutableValue", desc := "()Z" } : Jvm.MethodName)).before a0 Z = true := hw _ (List.mem_of_getElem? (i := 13) rfl)
theorem wd_14 {a0 : Array Value} {Z : State} (hw : ∀ d ∈ tables_1, d.before a0 Z = true) : (Jvm.Cond.code ({ cls := "com/example/kwery/kwery/DateType", name := "isImmutableValue", desc := "()Z" } : Jvm.MethodName) prog_107_method_5_code (1 : Nat) (Option.some Jvm.ClassFile.FieldType.boolean)).before a0 Z = true := hw _ (List.mem_of_getElem? (i := 14) rfl)
theorem wd_15 {a0 : Array Value} {Z : State} (hw : ∀ d ∈ tables_1, d.before a0 Z = true) : (Jvm.Cond.fieldLink "com/example/kwery/kwery/DateType" (3 : Nat) "com/example/kwery/kwery/DateType" "DATE" "Lcom/example/kwery/kwery/DateType;").before a0 Z = true := hw _ (List.mem_of_getElem? (i := 15) rfl)
theorem wd_16 {a0 : Array Value} {Z : State} (hw : ∀ d ∈ tables_1, d.before a0 Z = true) : (Jvm.Cond.fieldLink "com/example/kwery/kwery/DateTypeIsImmutableValuePinLaw" (33 : Nat) "com/example/kwery/kwery/DateType" "LOCAL_TIME" "Lcom/example/kwery/kwery/DateType;").before a0 Z = true := hw _ (List.mem_of_getElem? (i := 16) rfl)
theorem wd_17 {a0 : Array Value} {Z : State} (hw : ∀ d ∈ tables_1, d.before a0 Z = true) : (Jvm.Cond.laysStatic "com/example/kwery/kwery/DateType" "LOCAL_TIME" "Lcom/example/kwery/kwery/DateType;").before a0 Z = true := hw _ (List.mem_of_getElem? (i := 17) rfl)
theorem wd_18 {a0 : Array Value} {Z : State} (hw : ∀ d ∈ tables_1, d.before a0 Z = true) : (Jvm.Cond.selects "com/example/kwery/kwery/DateType" ({ cls := "com/example/kwery/kwery/DateType", name := "isImmutableValue", desc := "()Z" } : Jvm.MethodName) ({ cls := "com/example/kwery/kwery/DateType", name := "isImmutableValue", desc := "()Z" } : Jvm.MethodName)).before a0 Z = true := hw _ (List.mem_of_getElem? (i := 18) rfl)
theorem wd_19 {a0 : Array Value} {Z : State} (hw : ∀ d ∈ tables_1, d.before a0 Z = true) : (Jvm.Cond.fieldLink "com/example/kwery/kwery/DateTypeIsImmutableValuePinLaw" (42 : Nat) "com/example/kwery/kwery/DateType" "YEAR_MONTH" "Lcom/example/kwery/kwery/DateType;").before a0 Z = true := hw _ (List.mem_of_getElem? (i := 19) rfl)
theorem wd_20 {a0 : Array Value} {Z : State} (hw : ∀ d ∈ tables_1, d.before a0 Z = true) : (Jvm.Cond.laysStatic "com/example/kwery/kwery/DateType" "YEAR_MONTH" "Lcom/example/kwery/kwery/DateType;").before a0 Z = true := hw _ (List.mem_of_getElem? (i := 20) rfl)
theorem wd_21 {a0 : Array Value} {Z : State} (hw : ∀ d ∈ tables_1, d.before a0 Z = true) : (Jvm.Cond.fieldLink "com/example/kwery/kwery/DateTypeIsImmutableValuePinLaw" (45 : Nat) "com/example/kwery/kwery/DateType" "PERIOD" "Lcom/example/kwery/kwery/DateType;").before a0 Z = true := hw _ (List.mem_of_getElem? (i := 21) rfl)
theorem wd_22 {a0 : Array Value} {Z : State} (hw : ∀ d ∈ tables_1, d.before a0 Z = true) : (Jvm.Cond.laysStatic "com/example/kwery/kwery/DateType" "PERIOD" "Lcom/example/kwery/kwery/DateType;").before a0 Z = true := hw _ (List.mem_of_getElem? (i := 22) rfl)
theorem wd_23 {a0 : Array Value} {Z : State} (hw : ∀ d ∈ tables_1, d.before a0 Z = true) : (Jvm.Cond.fieldLink "com/example/kwery/kwery/DateTypeIsImmutableValuePinLaw" (30 : Nat) "com/example/kwery/kwery/DateType" "LOCAL_DATE_TIME" "Lcom/example/kwery/kwery/DateType;").before a0 Z = true := hw _ (List.mem_of_getElem? (i := 23) rfl)
theorem wd_24 {a0 : Array Value} {Z : State} (hw : ∀ d ∈ tables_1, d.before a0 Z = true) : (Jvm.Cond.laysStatic "com/example/kwery/kwery/DateType" "LOCAL_DATE_TIME" "Lcom/example/kwery/kwery/DateType;").before a0 Z = true := hw _ (List.mem_of_getElem? (i := 24) rfl)
theorem wd_25 {a0 : Array Value} {Z : State} (hw : ∀ d ∈ tables_1, d.before a0 Z = true) : (Jvm.Cond.fieldLink "com/example/kwery/kwery/DateTypeIsImmutableValuePinLaw" (27 : Nat) "com/example/kwery/kwery/DateType" "LOCAL_DATE" "Lcom/example/kwery/kwery/DateType;").before a0 Z = true := hw _ (List.mem_of_getElem? (i := 25) rfl)
theorem wd_26 {a0 : Array Value} {Z : State} (hw : ∀ d ∈ tables_1, d.before a0 Z = true) : (Jvm.Cond.laysStatic "com/example/kwery/kwery/DateType" "LOCAL_DATE" "Lcom/example/kwery/kwery/DateType;").before a0 Z = true := hw _ (List.mem_of_getElem? (i := 26) rfl)
theorem wd_27 {a0 : Array Value} {Z : State} (hw : ∀ d ∈ tables_1, d.before a0 Z = true) : (Jvm.Cond.fieldLink "com/example/kwery/kwery/DateTypeIsImmutableValuePinLaw" (36 : Nat) "com/example/kwery/kwery/DateType" "INSTANT" "Lcom/example/kwery/kwery/DateType;").before a0 Z = true := hw _ (List.mem_of_getElem? (i := 27) rfl)
theorem wd_28 {a0 : Array Value} {Z : State} (hw : ∀ d ∈ tables_1, d.before a0 Z = true) : (Jvm.Cond.laysStatic "com/example/kwery/kwery/DateType" "INSTANT" "Lcom/example/kwery/kwery/DateType;").before a0 Z = true := hw _ (List.mem_of_getElem? (i := 28) rfl)
theorem wd_29 {a0 : Array Value} {Z : State} (hw : ∀ d ∈ tables_1, d.before a0 Z = true) : (Jvm.Cond.fieldLink "com/example/kwery/kwery/DateTypeIsImmutableValuePinLaw" (39 : Nat) "com/example/kwery/kwery/DateType" "MONTH_DAY" "Lcom/example/kwery/kwery/DateType;").before a0 Z = true := hw _ (List.mem_of_getElem? (i := 29) rfl)
theorem wd_30 {a0 : Array Value} {Z : State} (hw : ∀ d ∈ tables_1, d.before a0 Z = true) : (Jvm.Cond.laysStatic "com/example/kwery/kwery/DateType" "MONTH_DAY" "Lcom/example/kwery/kwery/DateType;").before a0 Z = true := hw _ (List.mem_of_getElem? (i := 30) rfl)
def own_pick (k : Int32) (w0 w1 w2 w3 w4 w5 w6 w7 : Addr) : Addr := if k = 0 then w0 else if k = 1 then w1 else if k = 2 then w2 else if k = 3 then w3 else if k = 4 then w4 else if k = 5 then w5 else if k = 6 then w6 else w7
def Q_rm1 (p1 : Int32) (w0 w1 w2 w3 w4 w5 w6 w7 : Addr) (h0 : Heap) (n0 : Nat) (v : Option Value) (h : Heap) (L : List Loc) : Prop := v = some (.ref (own_pick p1 w0 w1 w2 w3 w4 w5 w6 w7)) ∧ Fr n0 L ∧ h = h0
set_option maxRecDepth 65536 in
set_option maxHeartbeats 40000000 in
theorem rm1 (l : Launch) (Z : State) (a0 : Array Value) (hw : ∀ d ∈ tables_1, d.before a0 Z = true) (p1 : Int32) (w0 w1 w2 w3 w4 w5 w6 w7 : Addr) (h0 : Heap) (n0 : Nat) (OL : Old Z n0 h0) (S0 : Sta Z Z.heap "com/example/kwery/kwery/DateType" "DATE" "Lcom/example/kwery/kwery/DateType;" (.ref w0)) (S1 : Sta Z Z.heap "com/example/kwery/kwery/DateType" "LOCAL_DATE" "Lcom/example/kwery/kwery/DateType;" (.ref w1)) (S2 : Sta Z Z.heap "com/example/kwery/kwery/DateType" "LOCAL_DATE_TIME" "Lcom/example/kwery/kwery/DateType;" (.ref w2)) (S3 : Sta Z Z.heap "com/example/kwery/kwery/DateType" "LOCAL_TIME" "Lcom/example/kwery/kwery/DateType;" (.ref w3)) (S4 : Sta Z Z.heap "com/example/kwery/kwery/DateType" "INSTANT" "Lcom/example/kwery/kwery/DateType;" (.ref w4)) (S5 : Sta Z Z.heap "com/example/kwery/kwery/DateType" "MONTH_DAY" "Lcom/example/kwery/kwery/DateType;" (.ref w5)) (S6 : Sta Z Z.heap "com/example/kwery/kwery/DateType" "YEAR_MONTH" "Lcom/example/kwery/kwery/DateType;" (.ref w6)) (S7 : Sta Z Z.heap "com/example/kwery/kwery/DateType" "PERIOD" "Lcom/example/kwery/kwery/DateType;" (.ref w7)) :
    own_Met l Z (⟨"com/example/kwery/kwery/DateTypeIsImmutableValuePinLaw", "pick", "(I)Lcom/example/kwery/kwery/DateType;"⟩ : MethodName) method_3_code 1 (some (.object "com/example/kwery/kwery/DateType")) ({ frames := 0, cells := 0, slots := 0, locals := 0 } : Room) #[(.int p1)] h0 (Q_rm1 p1 w0 w1 w2 w3 w4 w5 w6 w7 h0 n0) := by
  refine own_body (L0 := #[.val (.int p1)]) (plainFor_of_name (by first | (simp [plainName, overriddenIn]; done) | decide +kernel)) (fun m => by first | (simp [entryFrame, mkF, argsToLocals, Value.category]; done) | rfl) ?_
  intro p e s m below meth c s₁ hx hby hml hZ hown hnm hret hlk X0 e0
  have N0 := Fr.nil n0
  have Z0 : n0 ≤ h0.size := OL.1 ▸ OL.2.1
  show OwnOk p e below _ (s₁.setTop (mkF m 0 #[.val (.int p1)] []))
  refine own_up (fun t kx => XS.iloadN X0.here hx rfl (hb hby d1_0) rfl kx) ?_
  show OwnOk p e below _ (s₁.setTop (mkF m 1 #[.val (.int p1)] [(.int p1)]))
  by_cases hk0 : p1 = (0 : Int32)
  · refine own_up (fun t kx => XS.ifNo X0.here hx rfl (hb hby d1_1) rfl ((if0 _ _).trans (teq hk0).2) kx) ?_
    show OwnOk p e below _ (s₁.setTop (mkF m 4 #[.val (.int p1)] []))
    obtain ⟨T11, X11, e11, st11⟩ := getS2 X0 hx hZ hown (host := "") (Or.inl (wd_4 hw)) Via.refl e0 (S0.ext OL.2) (g := (mkF m 4 #[.val (.int p1)] [])) rfl (hb hby d1_4)
    refine own_up st11 ?_
    show OwnOk p e below _ (T11.setTop (mkF m 7 #[.val (.int p1)] [(.ref w0)]))
    refine own_retR X11 hx (t := (.object "com/example/kwery/kwery/DateType")) (show meth.sig.returnType = some (.object "com/example/kwery/kwery/DateType") from hret) rfl hlk rfl (hb hby d1_7) e11 (Nat.le_of_ble_eq_true rfl) (Nat.le_of_ble_eq_true rfl) ?_
    exact ⟨by simp only [own_pick, if_pos hk0], N0, rfl⟩
  · refine own_up (fun t kx => XS.ifYes X0.here hx rfl (pc0 := 1) (pc' := 8) rfl (hb hby d1_1) rfl ((if0 _ _).trans (feq hk0).2) (by decide) (by decide) kx) ?_
    show OwnOk p e below _ (s₁.setTop (mkF m 8 #[.val (.int p1)] []))
    refine own_up (fun t kx => XS.iloadN X0.here hx rfl (hb hby d1_8) rfl kx) ?_
    show OwnOk p e below _ (s₁.setTop (mkF m 9 #[.val (.int p1)] [(.int p1)]))
    refine own_up (fun t kx => XS.iconst X0.here hx rfl (hb hby d1_9) kx) ?_
    show OwnOk p e below _ (s₁.setTop (mkF m 10 #[.val (.int p1)] [(.int (1 : Int32)), (.int p1)]))
    by_cases hk1 : p1 = (1 : Int32)
    · refine own_up (fun t kx => XS.icmpNo X0.here hx rfl (hb hby d1_10) rfl (teq hk1).2 kx) ?_
      show OwnOk p e below _ (s₁.setTop (mkF m 13 #[.val (.int p1)] []))
      obtain ⟨T12, X12, e12, st12⟩ := getS2 X0 hx hZ hown (host := "") (Or.inl (wd_25 hw)) Via.refl e0 (S1.ext OL.2) (g := (mkF m 13 #[.val (.int p1)] [])) rfl (hb hby d1_13)
      refine own_up st12 ?_
      show OwnOk p e below _ (T12.setTop (mkF m 16 #[.val (.int p1)] [(.ref w1)]))
      refine own_retR X12 hx (t := (.object "com/example/kwery/kwery/DateType")) (show meth.sig.returnType = some (.object "com/example/kwery/kwery/DateType") from hret) rfl hlk rfl (hb hby d1_16) e12 (Nat.le_of_ble_eq_true rfl) (Nat.le_of_ble_eq_true rfl) ?_
      exact ⟨by simp only [own_pick, if_neg hk0, if_pos hk1], N0, rfl⟩
    · refine own_up (fun t kx => XS.icmpYes X0.here hx rfl (pc0 := 10) (pc' := 17) rfl (hb hby d1_10) rfl (feq hk1).2 (by decide) (by decide) kx) ?_
      show OwnOk p e below _ (s₁.setTop (mkF m 17 #[.val (.int p1)] []))
      refine own_up (fun t kx => XS.iloadN X0.here hx rfl (hb hby d1_17) rfl kx) ?_
      show OwnOk p e below _ (s₁.setTop (mkF m 18 #[.val (.int p1)] [(.int p1)]))
      refine own_up (fun t kx => XS.iconst X0.here hx rfl (hb hby d1_18) kx) ?_
      show OwnOk p e below _ (s₁.setTop (mkF m 19 #[.val (.int p1)] [(.int (2 : Int32)), (.int p1)]))
      by_cases hk2 : p1 = (2 : Int32)
      · refine own_up (fun t kx => XS.icmpNo X0.here hx rfl (hb hby d1_19) rfl (teq hk2).2 kx) ?_
        show OwnOk p e below _ (s₁.setTop (mkF m 22 #[.val (.int p1)] []))
        obtain ⟨T13, X13, e13, st13⟩ := getS2 X0 hx hZ hown (host := "") (Or.inl (wd_23 hw)) Via.refl e0 (S2.ext OL.2) (g := (mkF m 22 #[.val (.int p1)] [])) rfl (hb hby d1_22)
        refine own_up st13 ?_
        show OwnOk p e below _ (T13.setTop (mkF m 25 #[.val (.int p1)] [(.ref w2)]))
        refine own_retR X13 hx (t := (.object "com/example/kwery/kwery/DateType")) (show meth.sig.returnType = some (.object "com/example/kwery/kwery/DateType") from hret) rfl hlk rfl (hb hby d1_25) e13 (Nat.le_of_ble_eq_true rfl) (Nat.le_of_ble_eq_true rfl) ?_
        exact ⟨by simp only [own_pick, if_neg hk0, if_neg hk1, if_pos hk2], N0, rfl⟩
      · refine own_up (fun t kx => XS.icmpYes X0.here hx rfl (pc0 := 19) (pc' := 26) rfl (hb hby d1_19) rfl (feq hk2).2 (by decide) (by decide) kx) ?_
        show OwnOk p e below _ (s₁.setTop (mkF m 26 #[.val (.int p1)] []))
        refine own_up (fun t kx => XS.iloadN X0.here hx rfl (hb hby d1_26) rfl kx) ?_
        show OwnOk p e below _ (s₁.setTop (mkF m 27 #[.val (.int p1)] [(.int p1)]))
        refine own_up (fun t kx => XS.iconst X0.here hx rfl (hb hby d1_27) kx) ?_
        show OwnOk p e below _ (s₁.setTop (mkF m 28 #[.val (.int p1)] [(.int (3 : Int32)), (.int p1)]))
        by_cases hk3 : p1 = (3 : Int32)
        · refine own_up (fun t kx => XS.icmpNo X0.here hx rfl (hb hby d1_28) rfl (teq hk3).2 kx) ?_
          show OwnOk p e below _ (s₁.setTop (mkF m 31 #[.val (.int p1)] []))
          obtain ⟨T14, X14, e14, st14⟩ := getS2 X0 hx hZ hown (host := "") (Or.inl (wd_16 hw)) Via.refl e0 (S3.ext OL.2) (g := (mkF m 31 #[.val (.int p1)] [])) rfl (hb hby d1_31)
          refine own_up st14 ?_
          show OwnOk p e below _ (T14.setTop (mkF m 34 #[.val (.int p1)] [(.ref w3)]))
          refine own_retR X14 hx (t := (.object "com/example/kwery/kwery/DateType")) (show meth.sig.returnType = some (.object "com/example/kwery/kwery/DateType") from hret) rfl hlk rfl (hb hby d1_34) e14 (Nat.le_of_ble_eq_true rfl) (Nat.le_of_ble_eq_true rfl) ?_
          exact ⟨by simp only [own_pick, if_neg hk0, if_neg hk1, if_neg hk2, if_pos hk3], N0, rfl⟩
        · refine own_up (fun t kx => XS.icmpYes X0.here hx rfl (pc0 := 28) (pc' := 35) rfl (hb hby d1_28) rfl (feq hk3).2 (by decide) (by decide) kx) ?_
          show OwnOk p e below _ (s₁.setTop (mkF m 35 #[.val (.int p1)] []))
          refine own_up (fun t kx => XS.iloadN X0.here hx rfl (hb hby d1_35) rfl kx) ?_
          show OwnOk p e below _ (s₁.setTop (mkF m 36 #[.val (.int p1)] [(.int p1)]))
          refine own_up (fun t kx => XS.iconst X0.here hx rfl (hb hby d1_36) kx) ?_
          show OwnOk p e below _ (s₁.setTop (mkF m 37 #[.val (.int p1)] [(.int (4 : Int32)), (.int p1)]))
          by_cases hk4 : p1 = (4 : Int32)
          · refine own_up (fun t kx => XS.icmpNo X0.here hx rfl (hb hby d1_37) rfl (teq hk4).2 kx) ?_
            show OwnOk p e below _ (s₁.setTop (mkF m 40 #[.val (.int p1)] []))
            obtain ⟨T15, X15, e15, st15⟩ := getS2 X0 hx hZ hown (host := "") (Or.inl (wd_27 hw)) Via.refl e0 (S4.ext OL.2) (g := (mkF m 40 #[.val (.int p1)] [])) rfl (hb hby d1_40)
            refine own_up st15 ?_
            show OwnOk p e below _ (T15.setTop (mkF m 43 #[.val (.int p1)] [(.ref w4)]))
            refine own_retR X15 hx (t := (.object "com/example/kwery/kwery/DateType")) (show meth.sig.returnType = some (.object "com/example/kwery/kwery/DateType") from hret) rfl hlk rfl (hb hby d1_43) e15 (Nat.le_of_ble_eq_true rfl) (Nat.le_of_ble_eq_true rfl) ?_
            exact ⟨by simp only [own_pick, if_neg hk0, if_neg hk1, if_neg hk2, if_neg hk3, if_pos hk4], N0, rfl⟩
          · refine own_up (fun t kx => XS.icmpYes X0.here hx rfl (pc0 := 37) (pc' := 44) rfl (hb hby d1_37) rfl (feq hk4).2 (by decide) (by decide) kx) ?_
            show OwnOk p e below _ (s₁.setTop (mkF m 44 #[.val (.int p1)] []))
            refine own_up (fun t kx => XS.iloadN X0.here hx rfl (hb hby d1_44) rfl kx) ?_
            show OwnOk p e below _ (s₁.setTop (mkF m 45 #[.val (.int p1)] [(.int p1)]))
            refine own_up (fun t kx => XS.iconst X0.here hx rfl (hb hby d1_45) kx) ?_
            show OwnOk p e below _ (s₁.setTop (mkF m 46 #[.val (.int p1)] [(.int (5 : Int32)), (.int p1)]))
            by_cases hk5 : p1 = (5 : Int32)
            · refine own_up (fun t kx => XS.icmpNo X0.here hx rfl (hb hby d1_46) rfl (teq hk5).2 kx) ?_
              show OwnOk p e below _ (s₁.setTop (mkF m 49 #[.val (.int p1)] []))
              obtain ⟨T16, X16, e16, st16⟩ := getS2 X0 hx hZ hown (host := "") (Or.inl (wd_29 hw)) Via.refl e0 (S5.ext OL.2) (g := (mkF m 49 #[.val (.int p1)] [])) rfl (hb hby d1_49)
              refine own_up st16 ?_
              show OwnOk p e below _ (T16.setTop (mkF m 52 #[.val (.int p1)] [(.ref w5)]))
              refine own_retR X16 hx (t := (.object "com/example/kwery/kwery/DateType")) (show meth.sig.returnType = some (.object "com/example/kwery/kwery/DateType") from hret) rfl hlk rfl (hb hby d1_52) e16 (Nat.le_of_ble_eq_true rfl) (Nat.le_of_ble_eq_true rfl) ?_
              exact ⟨by simp only [own_pick, if_neg hk0, if_neg hk1, if_neg hk2, if_neg hk3, if_neg hk4, if_pos hk5], N0, rfl⟩
            · refine own_up (fun t kx => XS.icmpYes X0.here hx rfl (pc0 := 46) (pc' := 53) rfl (hb hby d1_46) rfl (feq hk5).2 (by decide) (by decide) kx) ?_
              show OwnOk p e below _ (s₁.setTop (mkF m 53 #[.val (.int p1)] []))
              refine own_up (fun t kx => XS.iloadN X0.here hx rfl (hb hby d1_53) rfl kx) ?_
              show OwnOk p e below _ (s₁.setTop (mkF m 54 #[.val (.int p1)] [(.int p1)]))
              refine own_up (fun t kx => XS.bipush X0.here hx rfl (hb hby d1_54) kx) ?_
              show OwnOk p e below _ (s₁.setTop (mkF m 56 #[.val (.int p1)] [(.int (6 : Int32)), (.int p1)]))
              by_cases hk6 : p1 = (6 : Int32)
              · refine own_up (fun t kx => XS.icmpNo X0.here hx rfl (hb hby d1_56) rfl (teq hk6).2 kx) ?_
                show OwnOk p e below _ (s₁.setTop (mkF m 59 #[.val (.int p1)] []))
                obtain ⟨T17, X17, e17, st17⟩ := getS2 X0 hx hZ hown (host := "") (Or.inl (wd_19 hw)) Via.refl e0 (S6.ext OL.2) (g := (mkF m 59 #[.val (.int p1)] [])) rfl (hb hby d1_59)
                refine own_up st17 ?_
                show OwnOk p e below _ (T17.setTop (mkF m 62 #[.val (.int p1)] [(.ref w6)]))
                refine own_retR X17 hx (t := (.object "com/example/kwery/kwery/DateType")) (show meth.sig.returnType = some (.object "com/example/kwery/kwery/DateType") from hret) rfl hlk rfl (hb hby d1_62) e17 (Nat.le_of_ble_eq_true rfl) (Nat.le_of_ble_eq_true rfl) ?_
                exact ⟨by simp only [own_pick, if_neg hk0, if_neg hk1, if_neg hk2, if_neg hk3, if_neg hk4, if_neg hk5, if_pos hk6], N0, rfl⟩
              · refine own_up (fun t kx => XS.icmpYes X0.here hx rfl (pc0 := 56) (pc' := 63) rfl (hb hby d1_56) rfl (feq hk6).2 (by decide) (by decide) kx) ?_
                show OwnOk p e below _ (s₁.setTop (mkF m 63 #[.val (.int p1)] []))
                obtain ⟨T18, X18, e18, st18⟩ := getS2 X0 hx hZ hown (host := "") (Or.inl (wd_21 hw)) Via.refl e0 (S7.ext OL.2) (g := (mkF m 63 #[.val (.int p1)] [])) rfl (hb hby d1_63)
                refine own_up st18 ?_
                show OwnOk p e below _ (T18.setTop (mkF m 66 #[.val (.int p1)] [(.ref w7)]))
                refine own_retR X18 hx (t := (.object "com/example/kwery/kwery/DateType")) (show meth.sig.returnType = some (.object "com/example/kwery/kwery/DateType") from hret) rfl hlk rfl (hb hby d1_66) e18 (Nat.le_of_ble_eq_true rfl) (Nat.le_of_ble_eq_true rfl) ?_
                exact ⟨by simp only [own_pick, if_neg hk0, if_neg hk1, if_neg hk2, if_neg hk3, if_neg hk4, if_neg hk5, if_neg hk6], N0, rfl⟩
def Q_rm2 (p1 : Int32) (h0 : Heap) (n0 : Nat) (v : Option Value) (h : Heap) (L : List Loc) : Prop := v = some (.int (if p1 = 0 then 0 else 1)) ∧ Fr n0 L ∧ h = h0
set_option maxRecDepth 65536 in
set_option maxHeartbeats 40000000 in
theorem rm2 (l : Launch) (Z : State) (a0 : Array Value) (hw : ∀ d ∈ tables_1, d.before a0 Z = true) (p1 : Int32) (h0 : Heap) (n0 : Nat) (OL : Old Z n0 h0)  :
    own_Met l Z (⟨"com/example/kwery/kwery/DateTypeIsImmutableValuePinLaw", "expectedFor", "(I)Z"⟩ : MethodName) method_4_code 1 (some .boolean) ({ frames := 0, cells := 0, slots := 0, locals := 0 } : Room) #[(.int p1)] h0 (Q_rm2 p1 h0 n0) := by
  refine own_body (L0 := #[.val (.int p1)]) (plainFor_of_name (by first | (simp [plainName, overriddenIn]; done) | decide +kernel)) (fun m => by first | (simp [entryFrame, mkF, argsToLocals, Value.category]; done) | rfl) ?_
  intro p e s m below meth c s₁ hx hby hml hZ hown hnm hret hlk X0 e0
  have N0 := Fr.nil n0
  have Z0 : n0 ≤ h0.size := OL.1 ▸ OL.2.1
  show OwnOk p e below _ (s₁.setTop (mkF m 0 #[.val (.int p1)] []))
  refine own_up (fun t kx => XS.iloadN X0.here hx rfl (hb hby d2_0) rfl kx) ?_
  show OwnOk p e below _ (s₁.setTop (mkF m 1 #[.val (.int p1)] [(.int p1)]))
  by_cases hk : p1 = (0 : Int32)
  · refine own_up (fun t kx => XS.ifNo X0.here hx rfl (hb hby d2_1) rfl ((if0 _ _).trans (teq hk).2) kx) ?_
    show OwnOk p e below _ (s₁.setTop (mkF m 4 #[.val (.int p1)] []))
    refine own_up (fun t kx => XS.iconst X0.here hx rfl (hb hby d2_4) kx) ?_
    show OwnOk p e below _ (s₁.setTop (mkF m 5 #[.val (.int p1)] [(.int (0 : Int32))]))
    refine own_retN X0 hx (t := .boolean) (show meth.sig.returnType = some .boolean from hret) (by simp) hlk (hb hby d2_5) (z' := (0 : Int32)) rfl e0 (Nat.le_of_ble_eq_true rfl) (Nat.le_of_ble_eq_true rfl) ?_
    exact ⟨by rw [if_pos hk], N0, rfl⟩
  · refine own_up (fun t kx => XS.ifYes X0.here hx rfl (pc0 := 1) (pc' := 6) rfl (hb hby d2_1) rfl ((if0 _ _).trans (feq hk).2) (by decide) (by decide) kx) ?_
    show OwnOk p e below _ (s₁.setTop (mkF m 6 #[.val (.int p1)] []))
    refine own_up (fun t kx => XS.iconst X0.here hx rfl (hb hby d2_6) kx) ?_
    show OwnOk p e below _ (s₁.setTop (mkF m 7 #[.val (.int p1)] [(.int (1 : Int32))]))
    refine own_retN X0 hx (t := .boolean) (show meth.sig.returnType = some .boolean from hret) (by simp) hlk (hb hby d2_7) (z' := (1 : Int32)) rfl e0 (Nat.le_of_ble_eq_true rfl) (Nat.le_of_ble_eq_true rfl) ?_
    exact ⟨by rw [if_neg hk], N0, rfl⟩
def Q_rm3 (a1 w0 : Addr) (h0 : Heap) (n0 : Nat) (v : Option Value) (h : Heap) (L : List Loc) : Prop := v = some (.int (if a1 = w0 then 0 else 1)) ∧ Fr n0 L ∧ h = h0
set_option maxRecDepth 65536 in
set_option maxHeartbeats 40000000 in
theorem rm3 (l : Launch) (Z : State) (a0 : Array Value) (hw : ∀ d ∈ tables_1, d.before a0 Z = true) (a1 w0 : Addr) (h0 : Heap) (n0 : Nat) (OL : Old Z n0 h0) (S0 : Sta Z Z.heap "com/example/kwery/kwery/DateType" "DATE" "Lcom/example/kwery/kwery/DateType;" (.ref w0)) :
    own_Met l Z (⟨"com/example/kwery/kwery/DateType", "isImmutableValue", "()Z"⟩ : MethodName) prog_107_method_5_code 1 (some .boolean) ({ frames := 0, cells := 0, slots := 0, locals := 0 } : Room) #[(.ref a1)] h0 (Q_rm3 a1 w0 h0 n0) := by
  refine own_body (L0 := #[.val (.ref a1)]) (plainFor_of_name (by first | (simp [plainName, overriddenIn]; done) | decide +kernel)) (fun m => by first | (simp [entryFrame, mkF, argsToLocals, Value.category]; done) | rfl) ?_
  intro p e s m below meth c s₁ hx hby hml hZ hown hnm hret hlk X0 e0
  have N0 := Fr.nil n0
  have Z0 : n0 ≤ h0.size := OL.1 ▸ OL.2.1
  show OwnOk p e below _ (s₁.setTop (mkF m 0 #[.val (.ref a1)] []))
  refine own_up (fun t kx => XS.aloadN X0.here hx rfl (hb hby d3_0) rfl rfl kx) ?_
  show OwnOk p e below _ (s₁.setTop (mkF m 1 #[.val (.ref a1)] [(.ref a1)]))
  obtain ⟨T11, X11, e11, st11⟩ := getS2 X0 hx hZ hown (host := "") (Or.inl (wd_15 hw)) Via.refl e0 (S0.ext OL.2) (g := (mkF m 1 #[.val (.ref a1)] [(.ref a1)])) rfl (hb hby d3_1)
  refine own_up st11 ?_
  show OwnOk p e below _ (T11.setTop (mkF m 4 #[.val (.ref a1)] [(.ref w0), (.ref a1)]))
  by_cases hk : a1 = w0
  · refine own_up (fun t kx => Jvm.RoadKit.acmp (g := (mkF m 4 #[.val (.ref a1)] [(.ref w0), (.ref a1)])) X11 hx rfl rfl rfl (pc0 := 4) (pc' := 11) (same := true) rfl (hb hby d3_4) rfl (decide_eq_true (own_ref_eq hk)) (by decide) (by decide) kx) ?_
    show OwnOk p e below _ (T11.setTop (mkF m 11 #[.val (.ref a1)] []))
    refine own_up (fun t kx => XS.iconst X11.here hx rfl (hb hby d3_11) kx) ?_
    show OwnOk p e below _ (T11.setTop (mkF m 12 #[.val (.ref a1)] [(.int (0 : Int32))]))
    refine own_retN X11 hx (t := .boolean) (show meth.sig.returnType = some .boolean from hret) (by simp) hlk (hb hby d3_12) (z' := (0 : Int32)) rfl e11 (Nat.le_of_ble_eq_true rfl) (Nat.le_of_ble_eq_true rfl) ?_
    exact ⟨by rw [if_pos hk], N0, rfl⟩
  · refine own_up (fun t kx => Jvm.RoadKit.acmp (g := (mkF m 4 #[.val (.ref a1)] [(.ref w0), (.ref a1)])) X11 hx rfl rfl rfl (pc0 := 4) (pc' := 7) (same := false) rfl (hb hby d3_4) rfl (decide_eq_false (own_ref_ne hk)) (by decide) (by decide) kx) ?_
    show OwnOk p e below _ (T11.setTop (mkF m 7 #[.val (.ref a1)] []))
    refine own_up (fun t kx => XS.iconst X11.here hx rfl (hb hby d3_7) kx) ?_
    show OwnOk p e below _ (T11.setTop (mkF m 8 #[.val (.ref a1)] [(.int (1 : Int32))]))
    refine own_up (fun t kx => XS.goto X11.here hx rfl (pc0 := 8) (pc' := 12) rfl (hb hby d3_8) (by decide) (by decide) kx) ?_
    show OwnOk p e below _ (T11.setTop (mkF m 12 #[.val (.ref a1)] [(.int (1 : Int32))]))
    refine own_retN X11 hx (t := .boolean) (show meth.sig.returnType = some .boolean from hret) (by simp) hlk (hb hby d3_12) (z' := (1 : Int32)) rfl e11 (Nat.le_of_ble_eq_true rfl) (Nat.le_of_ble_eq_true rfl) ?_
    exact ⟨by rw [if_neg hk], N0, rfl⟩
def Q_rm0 (n0 : Nat) (v : Option Value) (h : Heap) (L : List Loc) : Prop := v = some (.int 1) ∧ Fr n0 L
set_option maxRecDepth 65536 in
set_option maxHeartbeats 40000000 in
theorem rm0 (l : Launch) (Z : State) (a0 : Array Value) (hw : ∀ d ∈ tables_1, d.before a0 Z = true) (p1 : Int32) (w0 w1 w2 w3 w4 w5 w6 w7 : Addr) (h0 : Heap) (n0 : Nat) (OL : Old Z n0 h0) (S0 : Sta Z Z.heap "com/example/kwery/kwery/DateType" "DATE" "Lcom/example/kwery/kwery/DateType;" (.ref w0)) (S1 : Sta Z Z.heap "com/example/kwery/kwery/DateType" "LOCAL_DATE" "Lcom/example/kwery/kwery/DateType;" (.ref w1)) (S2 : Sta Z Z.heap "com/example/kwery/kwery/DateType" "LOCAL_DATE_TIME" "Lcom/example/kwery/kwery/DateType;" (.ref w2)) (S3 : Sta Z Z.heap "com/example/kwery/kwery/DateType" "LOCAL_TIME" "Lcom/example/kwery/kwery/DateType;" (.ref w3)) (S4 : Sta Z Z.heap "com/example/kwery/kwery/DateType" "INSTANT" "Lcom/example/kwery/kwery/DateType;" (.ref w4)) (S5 : Sta Z Z.heap "com/example/kwery/kwery/DateType" "MONTH_DAY" "Lcom/example/kwery/kwery/DateType;" (.ref w5)) (S6 : Sta Z Z.heap "com/example/kwery/kwery/DateType" "YEAR_MONTH" "Lcom/example/kwery/kwery/DateType;" (.ref w6)) (S7 : Sta Z Z.heap "com/example/kwery/kwery/DateType" "PERIOD" "Lcom/example/kwery/kwery/DateType;" (.ref w7)) (E0 : Exa Z Z.heap w0 "com/example/kwery/kwery/DateType$1") (E1 : Exa Z Z.heap w1 "com/example/kwery/kwery/DateType") (E2 : Exa Z Z.heap w2 "com/example/kwery/kwery/DateType") (E3 : Exa Z Z.heap w3 "com/example/kwery/kwery/DateType") (E4 : Exa Z Z.heap w4 "com/example/kwery/kwery/DateType") (E5 : Exa Z Z.heap w5 "com/example/kwery/kwery/DateType") (E6 : Exa Z Z.heap w6 "com/example/kwery/kwery/DateType") (E7 : Exa Z Z.heap w7 "com/example/kwery/kwery/DateType") :
    own_Met l Z x code maxLocals ret room_1 #[(.int p1)] h0 (Q_rm0 n0) := by
  refine own_body (L0 := #[.val (.int p1), .unset, .unset, .unset]) (plainFor_of_name (by first | (simp [plainName, overriddenIn]; done) | decide +kernel)) (fun m => by first | (simp [entryFrame, mkF, argsToLocals, Value.category, maxLocals]; done) | rfl) ?_
  intro p e s m below meth c s₁ hx hby hml hZ hown hnm hret hlk X0 e0
  have hml : c.maxLocals = 4 := hml
  have N0 := Fr.nil n0
  have Z0 : n0 ≤ h0.size := OL.1 ▸ OL.2.1
  show OwnOk p e below _ (s₁.setTop (mkF m 0 #[.val (.int p1), .unset, .unset, .unset] []))
  refine own_up (fun t kx => XS.iloadN X0.here hx rfl (hb hby at_0) rfl kx) ?_
  show OwnOk p e below _ (s₁.setTop (mkF m 1 #[.val (.int p1), .unset, .unset, .unset] [(.int p1)]))
  refine own_up (fun t kx => XS.bipush X0.here hx rfl (hb hby at_1) kx) ?_
  show OwnOk p e below _ (s₁.setTop (mkF m 3 #[.val (.int p1), .unset, .unset, .unset] [(.int (7 : Int32)), (.int p1)]))
  refine own_up (fun t kx => XS.iand X0.here hx rfl (hb hby at_3) rfl kx) ?_
  show OwnOk p e below _ (s₁.setTop (mkF m 4 #[.val (.int p1), .unset, .unset, .unset] [(.int (p1 &&& (7 : Int32)))]))
  refine own_up (fun t kx => XS.istoreN X0.here hx rfl (hb hby at_4) rfl (l' := #[.val (.int p1), .val (.int (p1 &&& (7 : Int32))), .unset, .unset]) rfl kx) ?_
  show OwnOk p e below _ (s₁.setTop (mkF m 5 #[.val (.int p1), .val (.int (p1 &&& (7 : Int32))), .unset, .unset] []))
  refine own_up (fun t kx => XS.iloadN X0.here hx rfl (hb hby at_5) rfl kx) ?_
  show OwnOk p e below _ (s₁.setTop (mkF m 6 #[.val (.int p1), .val (.int (p1 &&& (7 : Int32))), .unset, .unset] [(.int (p1 &&& (7 : Int32)))]))
  generalize (p1 &&& (7 : Int32)) = k
  show OwnOk p e below _ (s₁.setTop (mkF m 6 #[.val (.int p1), .val (.int k), .unset, .unset] [(.int k)]))
  refine own_callS X0 hx hZ (y := (⟨"com/example/kwery/kwery/DateTypeIsImmutableValuePinLaw", "pick", "(I)Lcom/example/kwery/kwery/DateType;"⟩ : MethodName)) hown (wd_0 hw) (wd_1 hw) (wd_2 hw) (wd_3 hw) (by decide) (rm1 l Z a0 hw k w0 w1 w2 w3 w4 w5 w6 w7 h0 n0 OL S0 S1 S2 S3 S4 S5 S6 S7) e0 (argsL := [(.int k)]) (rest := []) (by rw [hml]; rfl) (lenOf pd_0 rfl) rfl rfl (W := 0) rfl (hb hby at_6) (by decide) (by decide) (by decide) (by decide) (fun T11 v11 L11 X11 hQ11 => ?_)
  obtain ⟨rfl, Nq11, hh11⟩ := hQ11
  have N11 := Fr.app N0 Nq11
  show OwnOk p e below _ (T11.setTop (mkF m 9 #[.val (.int p1), .val (.int k), .unset, .unset] [(.ref (own_pick k w0 w1 w2 w3 w4 w5 w6 w7))]))
  refine own_up (fun t kx => XS.astoreN X11.here hx rfl (hb hby at_9) rfl rfl (l' := #[.val (.int p1), .val (.int k), .val (.ref (own_pick k w0 w1 w2 w3 w4 w5 w6 w7)), .unset]) rfl kx) ?_
  show OwnOk p e below _ (T11.setTop (mkF m 10 #[.val (.int p1), .val (.int k), .val (.ref (own_pick k w0 w1 w2 w3 w4 w5 w6 w7)), .unset] []))
  refine own_up (fun t kx => XS.iloadN X11.here hx rfl (hb hby at_10) rfl kx) ?_
  show OwnOk p e below _ (T11.setTop (mkF m 11 #[.val (.int p1), .val (.int k), .val (.ref (own_pick k w0 w1 w2 w3 w4 w5 w6 w7)), .unset] [(.int k)]))
  refine own_callS X11 hx hZ (y := (⟨"com/example/kwery/kwery/DateTypeIsImmutableValuePinLaw", "expectedFor", "(I)Z"⟩ : MethodName)) hown (wd_7 hw) (wd_8 hw) (wd_2 hw) (wd_9 hw) (by decide) (rm2 l Z a0 hw k h0 n0 OL) hh11 (argsL := [(.int k)]) (rest := []) (by rw [hml]; rfl) (lenOf pd_1 rfl) rfl rfl (W := 0) rfl (hb hby at_11) (by decide) (by decide) (by decide) (by decide) (fun T12 v12 L12 X12 hQ12 => ?_)
  obtain ⟨rfl, Nq12, hh12⟩ := hQ12
  have N12 := Fr.app N11 Nq12
  show OwnOk p e below _ (T12.setTop (mkF m 14 #[.val (.int p1), .val (.int k), .val (.ref (own_pick k w0 w1 w2 w3 w4 w5 w6 w7)), .unset] [(.int (if k = 0 then 0 else 1 : Int32))]))
  refine own_up (fun t kx => XS.istoreN X12.here hx rfl (hb hby at_14) rfl (l' := #[.val (.int p1), .val (.int k), .val (.ref (own_pick k w0 w1 w2 w3 w4 w5 w6 w7)), .val (.int (if k = 0 then 0 else 1 : Int32))]) rfl kx) ?_
  show OwnOk p e below _ (T12.setTop (mkF m 15 #[.val (.int p1), .val (.int k), .val (.ref (own_pick k w0 w1 w2 w3 w4 w5 w6 w7)), .val (.int (if k = 0 then 0 else 1 : Int32))] []))
  refine own_up (fun t kx => XS.aloadN X12.here hx rfl (hb hby at_15) rfl rfl kx) ?_
  show OwnOk p e below _ (T12.setTop (mkF m 16 #[.val (.int p1), .val (.int k), .val (.ref (own_pick k w0 w1 w2 w3 w4 w5 w6 w7)), .val (.int (if k = 0 then 0 else 1 : Int32))] [(.ref (own_pick k w0 w1 w2 w3 w4 w5 w6 w7))]))
  by_cases hk : k = 0
  · have hp : own_pick k w0 w1 w2 w3 w4 w5 w6 w7 = w0 := by simp only [own_pick, if_pos hk]
    rw [hp]
    show OwnOk p e below _ (T12.setTop (mkF m 16 #[.val (.int p1), .val (.int k), .val (.ref w0), .val (.int (if k = 0 then 0 else 1 : Int32))] [(.ref w0)]))
    refine own_callV X12 hx hZ (y := (⟨"com/example/kwery/kwery/DateType", "isImmutableValue", "()Z"⟩ : MethodName)) (z := (⟨"com/example/kwery/kwery/DateType", "isImmutableValue", "()Z"⟩ : MethodName)) hown (wd_10 hw) (wd_11 hw) (notFace_of_selects (args := #[]) (mvT hZ (wd_13 hw))) (wd_13 hw) (wd_12 hw) (wd_5 hw) (wd_14 hw) (by decide) (rm3 l Z a0 hw w0 w0 h0 n0 OL S0) hh12 (argsL := []) (rest := []) (E0.ext OL.2) (by rw [hml]; rfl) (lenOf pd_2 rfl) rfl rfl (W := 0) rfl (hb hby at_16) (by decide) (by decide) (by decide) (by decide) (fun T13 v13 L13 X13 hQ13 => ?_)
    obtain ⟨rfl, Nq13, hh13⟩ := hQ13
    have N13 := Fr.app N12 Nq13
    show OwnOk p e below _ (T13.setTop (mkF m 19 #[.val (.int p1), .val (.int k), .val (.ref w0), .val (.int (if k = 0 then 0 else 1 : Int32))] [(.int (if w0 = w0 then 0 else 1 : Int32))]))
    refine own_up (fun t kx => XS.iloadN X13.here hx rfl (hb hby at_19) rfl kx) ?_
    show OwnOk p e below _ (T13.setTop (mkF m 20 #[.val (.int p1), .val (.int k), .val (.ref w0), .val (.int (if k = 0 then 0 else 1 : Int32))] [(.int (if k = 0 then 0 else 1 : Int32)), (.int (if w0 = w0 then 0 else 1 : Int32))]))
    refine own_up (fun t kx => XS.icmpNo X13.here hx rfl (hb hby at_20) rfl (teq (by rw [if_pos hk, if_pos rfl] : (if w0 = w0 then 0 else 1 : Int32) = (if k = 0 then 0 else 1 : Int32))).2 kx) ?_
    show OwnOk p e below _ (T13.setTop (mkF m 23 #[.val (.int p1), .val (.int k), .val (.ref w0), .val (.int (if k = 0 then 0 else 1 : Int32))] []))
    refine own_up (fun t kx => XS.iconst X13.here hx rfl (hb hby at_23) kx) ?_
    show OwnOk p e below _ (T13.setTop (mkF m 24 #[.val (.int p1), .val (.int k), .val (.ref w0), .val (.int (if k = 0 then 0 else 1 : Int32))] [(.int (1 : Int32))]))
    refine own_up (fun t kx => XS.goto X13.here hx rfl (pc0 := 24) (pc' := 28) rfl (hb hby at_24) (by decide) (by decide) kx) ?_
    show OwnOk p e below _ (T13.setTop (mkF m 28 #[.val (.int p1), .val (.int k), .val (.ref w0), .val (.int (if k = 0 then 0 else 1 : Int32))] [(.int (1 : Int32))]))
    refine own_retN X13 hx (t := .boolean) (show meth.sig.returnType = some .boolean from hret) (by simp) hlk (hb hby at_28) (z' := (1 : Int32)) rfl hh13 (Nat.le_of_ble_eq_true rfl) (Nat.le_of_ble_eq_true rfl) ?_
    exact ⟨rfl, N13⟩
  · obtain ⟨u, hp, Eu⟩ : ∃ u, own_pick k w0 w1 w2 w3 w4 w5 w6 w7 = u ∧ Exa Z Z.heap u "com/example/kwery/kwery/DateType" := by
      unfold own_pick
      rw [if_neg hk]
      repeat' split
      all_goals exact ⟨_, rfl, by assumption⟩
    have hne : ¬ u = w0 := fun q => ne_exa Eu (q ▸ E0) (by decide) rfl
    rw [hp]
    show OwnOk p e below _ (T12.setTop (mkF m 16 #[.val (.int p1), .val (.int k), .val (.ref u), .val (.int (if k = 0 then 0 else 1 : Int32))] [(.ref u)]))
    refine own_callV X12 hx hZ (y := (⟨"com/example/kwery/kwery/DateType", "isImmutableValue", "()Z"⟩ : MethodName)) (z := (⟨"com/example/kwery/kwery/DateType", "isImmutableValue", "()Z"⟩ : MethodName)) hown (wd_10 hw) (wd_11 hw) (notFace_of_selects (args := #[]) (mvT hZ (wd_18 hw))) (wd_18 hw) (wd_12 hw) (wd_5 hw) (wd_14 hw) (by decide) (rm3 l Z a0 hw u w0 h0 n0 OL S0) hh12 (argsL := []) (rest := []) (Eu.ext OL.2) (by rw [hml]; rfl) (lenOf pd_2 rfl) rfl rfl (W := 0) rfl (hb hby at_16) (by decide) (by decide) (by decide) (by decide) (fun T14 v14 L14 X14 hQ14 => ?_)
    obtain ⟨rfl, Nq14, hh14⟩ := hQ14
    have N14 := Fr.app N12 Nq14
    show OwnOk p e below _ (T14.setTop (mkF m 19 #[.val (.int p1), .val (.int k), .val (.ref u), .val (.int (if k = 0 then 0 else 1 : Int32))] [(.int (if u = w0 then 0 else 1 : Int32))]))
    refine own_up (fun t kx => XS.iloadN X14.here hx rfl (hb hby at_19) rfl kx) ?_
    show OwnOk p e below _ (T14.setTop (mkF m 20 #[.val (.int p1), .val (.int k), .val (.ref u), .val (.int (if k = 0 then 0 else 1 : Int32))] [(.int (if k = 0 then 0 else 1 : Int32)), (.int (if u = w0 then 0 else 1 : Int32))]))
    refine own_up (fun t kx => XS.icmpNo X14.here hx rfl (hb hby at_20) rfl (teq (by rw [if_neg hk, if_neg hne] : (if u = w0 then 0 else 1 : Int32) = (if k = 0 then 0 else 1 : Int32))).2 kx) ?_
    show OwnOk p e below _ (T14.setTop (mkF m 23 #[.val (.int p1), .val (.int k), .val (.ref u), .val (.int (if k = 0 then 0 else 1 : Int32))] []))
    refine own_up (fun t kx => XS.iconst X14.here hx rfl (hb hby at_23) kx) ?_
    show OwnOk p e below _ (T14.setTop (mkF m 24 #[.val (.int p1), .val (.int k), .val (.ref u), .val (.int (if k = 0 then 0 else 1 : Int32))] [(.int (1 : Int32))]))
    refine own_up (fun t kx => XS.goto X14.here hx rfl (pc0 := 24) (pc' := 28) rfl (hb hby at_24) (by decide) (by decide) kx) ?_
    show OwnOk p e below _ (T14.setTop (mkF m 28 #[.val (.int p1), .val (.int k), .val (.ref u), .val (.int (if k = 0 then 0 else 1 : Int32))] [(.int (1 : Int32))]))
    refine own_retN X14 hx (t := .boolean) (show meth.sig.returnType = some .boolean from hret) (by simp) hlk (hb hby at_28) (z' := (1 : Int32)) rfl hh14 (Nat.le_of_ble_eq_true rfl) (Nat.le_of_ble_eq_true rfl) ?_
    exact ⟨rfl, N14⟩
set_option maxRecDepth 65536 in
set_option maxHeartbeats 40000000 in
theorem comes_1 {Post : Tables → Env → Array Value → State → Outcome → State → Prop} (hpost : ∀ tb e args s v u, (limb_1_1.after args s (.returned v) u = true ∧ limb_1_2.after args s (.returned v) u = true ∧ True) → FrameEnd s (.returned v) u (Jvm.fieldLocs frame_1_writes args s ++ Jvm.arrayLocs frame_1_arrays args s ++ Jvm.staticLocs frame_1_statics s) 0 0 → Post tb e args s (.returned v) u) :
    ArmFor flags0 classFile x code maxLocals ret World_1 tables_1 room_1 Calls_1 rest_1 Pre_1 Post := by
  intro l hfl _ _ p e ha hc hk s m args below hf hA hF happ hP
  obtain ⟨hcalls, hrest, hpre⟩ := hP
  obtain ⟨-, -, -, hnamed, -, -, -, hat⟩ := (Spec.applies_iff hf).mp happ
  obtain ⟨hg, hn⟩ := and_e (Cond.before_iff.mp (show (Jvm.Cond.and given_1 narrow_1).before args s = true from hpre))
  obtain ⟨g0, gr0⟩ := and_e hg
  obtain ⟨w_0, rfl⟩ : ∃ w_0 : Value, args = #[w_0] := by
    have hs : args.size = 1 := by simpa [Cond.value, given_1] using g0
    obtain ⟨L⟩ := args
    match L, hs with
    | [w_0], _ => exact ⟨w_0, rfl⟩
  have hw := fun d (hd : d ∈ tables_1) => atoms_spec (ws := Jvm.Cond.code x code maxLocals ret :: tables_1) hat d (List.mem_cons_of_mem _ hd)
  have hfit : Fit s := fun {y c} hc i hi => by
    obtain ⟨ha, rfl⟩ := Array.getElem?_eq_some_iff.mp hc
    have q := List.all_eq_true.mp ((Array.all_eq_true_iff_forall_mem.mp hF) _ (Array.getElem_mem ha)) i (List.mem_range.mpr hi)
    simpa [Array.getElem?_eq_getElem hi] using q
  obtain ⟨i0, ei0⟩ := is_v gr0
  obtain rfl : w_0 = (.int i0) := Option.some.inj ei0
  obtain ⟨x0, r0⟩ := and_e hn
  obtain ⟨x3, r1⟩ := and_e r0
  obtain ⟨x6, r2⟩ := and_e r1
  obtain ⟨x7, r3⟩ := and_e r2
  obtain ⟨x2, r4⟩ := and_e r3
  obtain ⟨x1, r5⟩ := and_e r4
  obtain ⟨x4, r6⟩ := and_e r5
  have x5 := r6
  obtain ⟨w0, v0⟩ := exa_v x0
  have E0 := Exa.start v0 x0
  have S0 := Sta.start v0 (Or.inr ⟨(wd_5 hw), (wd_6 hw)⟩)
  obtain ⟨w1, v1⟩ := exa_v x1
  have E1 := Exa.start v1 x1
  have S1 := Sta.start v1 (Or.inr ⟨(wd_5 hw), (wd_26 hw)⟩)
  obtain ⟨w2, v2⟩ := exa_v x2
  have E2 := Exa.start v2 x2
  have S2 := Sta.start v2 (Or.inr ⟨(wd_5 hw), (wd_24 hw)⟩)
  obtain ⟨w3, v3⟩ := exa_v x3
  have E3 := Exa.start v3 x3
  have S3 := Sta.start v3 (Or.inr ⟨(wd_5 hw), (wd_17 hw)⟩)
  obtain ⟨w4, v4⟩ := exa_v x4
  have E4 := Exa.start v4 x4
  have S4 := Sta.start v4 (Or.inr ⟨(wd_5 hw), (wd_28 hw)⟩)
  obtain ⟨w5, v5⟩ := exa_v x5
  have E5 := Exa.start v5 x5
  have S5 := Sta.start v5 (Or.inr ⟨(wd_5 hw), (wd_30 hw)⟩)
  obtain ⟨w6, v6⟩ := exa_v x6
  have E6 := Exa.start v6 x6
  have S6 := Sta.start v6 (Or.inr ⟨(wd_5 hw), (wd_20 hw)⟩)
  obtain ⟨w7, v7⟩ := exa_v x7
  have E7 := Exa.start v7 x7
  have S7 := Sta.start v7 (Or.inr ⟨(wd_5 hw), (wd_22 hw)⟩)
  obtain ⟨n, o, h1, h2, h3, _, L, rfl, ⟨rfl, N⟩, hq⟩ := (rm0 l s _ hw i0 w0 w1 w2 w3 w4 w5 w6 w7 s.heap s.heap.size (Old.start s) S0 S1 S2 S3 S4 S5 S6 S7 E0 E1 E2 E3 E4 E5 E6 E7) tables_1 p e ha hc hk s m _ below hf ((Spec.applies_iff_loose hf).mp happ).1 ⟨rfl, State.Warmed39.refl s, rfl⟩ trivial
  refine ⟨n, _, h1, h2, h3, hpost _ _ _ _ _ _ ⟨Cond.after_iff.mpr rfl, Cond.after_iff.mpr (eq_i res_at (Term.int_eval (1)) rfl), trivial⟩ ⟨hq.1, hq.2.1, (hq.2.2.sift fun y hy => Or.inr (N y hy)).mono (by decide) (by decide)⟩⟩
theorem main_1_1 : Claimed_1_1 := comes_1 fun _ _ _ _ _ _ h hF => ⟨h.1, hF⟩
theorem main_1_2 : Claimed_1_2 := comes_1 fun _ _ _ _ _ _ h hF => ⟨h.2.1, hF⟩
end Jvm.Pilot.@@N@@
namespace Jvm.Pilot.@@N@@
open Jvm Jvm.ClassFile Sem Op Lib Jvm.Free Jvm.Stand Jvm.Pilot.@@N@@.Jvm.D
/-! MADE BY PROGRAM (witnessworld.py) out of the Statement's table words and the real class files: 13 classes; the members and pool entries that the words name. The judged class is class 1, her method 1. -/
namespace start1
open Jvm.ClassFile
def u (s : String) : CpInfo := .utf8 (stringToUtf16 s)
/-- a pool by its gaps: so many unusable entries, then the entry; so many at the end -/
def gap : Nat → List CpInfo → List CpInfo
  | 0, r => r
  | n + 1, r => .unusable :: gap n r
def poolList (es : List (Nat × CpInfo)) (last : Nat) : List CpInfo := es.foldr (fun e r => gap e.1 (e.2 :: r)) (gap last [])
def pool (es : List (Nat × CpInfo)) (last : Nat) : Array CpInfo := ⟨poolList es last⟩
def fileOf (pool : Array CpInfo) (this : Nat) (attrs : Array Attribute := #[]) (ms : Array MethodInfo := #[]) (fl : Nat := 33) (sup : Nat := 0) (ifs : Array Nat := #[]) (fds : Array FieldInfo := #[]) : ClassFile where
  minorVersion := 0
  majorVersion := 65
  constantPool := pool
  accessFlags := fl
  thisClass := this
  superClass := sup
  interfaces := ifs
  fields := fds
  methods := ms
  attributes := attrs
def plain (name : String) (sup : Option ClassId) : Class where
  name := name
  kind := .ordinary
  loader := none
  accessFlags := 33
  super := sup
  interfaces := #[]
  cf := none
  fields := #[]
  methods := #[]
  instanceTypes := #[]
  staticTypes := #[]
  resolved := #[]
  callSites := []
  init := .initialized
  statics := none
  mirror := none

def pool0 : Array CpInfo := pool [(5, u "<init>"), (0, u "()V"), (1, .class_ 10), (1, u "java/lang/Object")] 113

def k0m0 : Method := { name := "<init>", desc := "()V", sig := { parameters := [], returnType := none }, accessFlags := 1, code := none }
/-- java/lang/Object -/
def k0 : Class := { plain "java/lang/Object" none with
  accessFlags := 33
  interfaces := #[]
  cf := some (fileOf pool0 8 #[] #[{ accessFlags := 1, nameIndex := 5, descriptorIndex := 6, attributes := #[] }] 33 0 #[] #[])
  fields := #[]
  methods := #[k0m0]
  instanceTypes := #[]
  staticTypes := #[]
  resolved := Array.replicate 124 none
  statics := none }

def pool1 : Array CpInfo := pool [(2, .class_ 4), (1, u "java/lang/Object"), (0, u "<init>"), (0, u "()V"), (0, .methodref 8 9), (0, .class_ 10), (0, .nameAndType 11 12), (0, u "com/example/kwery/kwery/DateTypeIsImmutableValuePinLaw"), (0, u "pick"), (0, u "(I)Lcom/example/kwery/kwery/DateType;"), (0, .methodref 8 14), (0, .nameAndType 15 16), (0, u "expectedFor"), (0, u "(I)Z"), (0, .methodref 18 19), (0, .class_ 20), (0, .nameAndType 21 22), (0, u "com/example/kwery/kwery/DateType"), (0, u "isImmutableValue"), (0, u "()Z"), (0, .fieldref 18 24), (0, .nameAndType 25 26), (0, u "DATE"), (0, u "Lcom/example/kwery/kwery/DateType;"), (0, .fieldref 18 28), (0, .nameAndType 29 26), (0, u "LOCAL_DATE"), (0, .fieldref 18 31), (0, .nameAndType 32 26), (0, u "LOCAL_DATE_TIME"), (0, .fieldref 18 34), (0, .nameAndType 35 26), (0, u "LOCAL_TIME"), (0, .fieldref 18 37), (0, .nameAndType 38 26), (0, u "INSTANT"), (0, .fieldref 18 40), (0, .nameAndType 41 26), (0, u "MONTH_DAY"), (0, .fieldref 18 43), (0, .nameAndType 44 26), (0, u "YEAR_MONTH"), (0, .fieldref 18 46), (0, .nameAndType 47 26), (0, u "PERIOD"), (2, u "law")] 3

def k1m0 : Method := { name := "<init>", desc := "()V", sig := { parameters := [], returnType := none }, accessFlags := 1, code := none }
def k1c1 : Code := { maxStack := 2, maxLocals := 4, code := code, exceptionTable := #[], attributes := #[] }
def k1m1 : Method := { name := "law", desc := "(I)Z", sig := { parameters := [.int], returnType := some .boolean }, accessFlags := 9, code := some k1c1 }
def k1c2 : Code := { maxStack := 2, maxLocals := 1, code := method_3_code, exceptionTable := #[], attributes := #[] }
def k1m2 : Method := { name := "pick", desc := "(I)Lcom/example/kwery/kwery/DateType;", sig := { parameters := [.int], returnType := some (.object "com/example/kwery/kwery/DateType") }, accessFlags := 10, code := some k1c2 }
def k1c3 : Code := { maxStack := 1, maxLocals := 1, code := method_4_code, exceptionTable := #[], attributes := #[] }
def k1m3 : Method := { name := "expectedFor", desc := "(I)Z", sig := { parameters := [.int], returnType := some .boolean }, accessFlags := 10, code := some k1c3 }
/-- com/example/kwery/kwery/DateTypeIsImmutableValuePinLaw -/
def k1 : Class := { plain "com/example/kwery/kwery/DateTypeIsImmutableValuePinLaw" (some 0) with
  accessFlags := 49
  interfaces := #[]
  cf := some (fileOf pool1 8 #[] #[{ accessFlags := 1, nameIndex := 5, descriptorIndex := 6, attributes := #[] }, { accessFlags := 9, nameIndex := 50, descriptorIndex := 16, attributes := #[] }, { accessFlags := 10, nameIndex := 11, descriptorIndex := 12, attributes := #[] }, { accessFlags := 10, nameIndex := 15, descriptorIndex := 16, attributes := #[] }] 49 2 #[] #[])
  fields := #[]
  methods := #[k1m0, k1m1, k1m2, k1m3]
  instanceTypes := #[]
  staticTypes := #[]
  resolved := Array.replicate 54 none
  statics := none }

def pool2 : Array CpInfo := pool [(1, .class_ 2), (0, u "java/lang/constant/Constable"), (0, .class_ 4), (0, u "java/lang/Object")] 6

/-- java/lang/constant/Constable -/
def k2 : Class := { plain "java/lang/constant/Constable" (some 0) with
  accessFlags := 1537
  interfaces := #[]
  cf := some (fileOf pool2 1 #[] #[] 1537 3 #[] #[])
  fields := #[]
  methods := #[]
  instanceTypes := #[]
  staticTypes := #[]
  resolved := Array.replicate 11 none
  statics := none }

def pool3 : Array CpInfo := pool [(1, .class_ 2), (0, u "java/lang/Comparable"), (0, .class_ 4), (0, u "java/lang/Object")] 7

/-- java/lang/Comparable -/
def k3 : Class := { plain "java/lang/Comparable" (some 0) with
  accessFlags := 1537
  interfaces := #[]
  cf := some (fileOf pool3 1 #[] #[] 1537 3 #[] #[])
  fields := #[]
  methods := #[]
  instanceTypes := #[]
  staticTypes := #[]
  resolved := Array.replicate 12 none
  statics := none }

def pool4 : Array CpInfo := pool [(1, .class_ 2), (0, u "java/io/Serializable"), (0, .class_ 4), (0, u "java/lang/Object")] 2

/-- java/io/Serializable -/
def k4 : Class := { plain "java/io/Serializable" (some 0) with
  accessFlags := 1537
  interfaces := #[]
  cf := some (fileOf pool4 1 #[] #[] 1537 3 #[] #[])
  fields := #[]
  methods := #[]
  instanceTypes := #[]
  staticTypes := #[]
  resolved := Array.replicate 7 none
  statics := none }

def pool5 : Array CpInfo := pool [(2, .class_ 4), (1, u "java/lang/Enum"), (0, u "name"), (0, u "Ljava/lang/String;"), (2, u "ordinal"), (0, u "I"), (1, .class_ 14), (1, u "java/lang/Object"), (4, u "hash"), (86, .class_ 108), (1, u "java/lang/Enum$EnumDesc"), (2, .class_ 112), (0, u "java/lang/constant/Constable"), (0, .class_ 114), (0, u "java/lang/Comparable"), (0, .class_ 116), (0, u "java/io/Serializable")] 87

/-- java/lang/Enum -/
def k5 : Class := { plain "java/lang/Enum" (some 0) with
  accessFlags := 1057
  interfaces := #[2, 3, 4]
  cf := some (fileOf pool5 2 #[.nestMembers #[106]] #[] 1057 12 #[111, 113, 115] #[{ accessFlags := 18, nameIndex := 5, descriptorIndex := 6, attributes := #[] }, { accessFlags := 18, nameIndex := 9, descriptorIndex := 10, attributes := #[] }, { accessFlags := 2, nameIndex := 19, descriptorIndex := 10, attributes := #[] }])
  fields := #[{ name := "name", type := (.object "java/lang/String"), accessFlags := 18, slot := 0, constantValue := 0 }, { name := "ordinal", type := .int, accessFlags := 18, slot := 1, constantValue := 0 }, { name := "hash", type := .int, accessFlags := 2, slot := 2, constantValue := 0 }]
  methods := #[]
  instanceTypes := #[(.object "java/lang/String"), .int, .int]
  staticTypes := #[]
  resolved := Array.replicate 204 none
  statics := none }

def pool6 : Array CpInfo := pool [(1, .class_ 2), (0, u "com/example/kwery/kwery/DateType"), (0, .fieldref 1 4), (0, .nameAndType 5 6), (0, u "DATE"), (0, u "Lcom/example/kwery/kwery/DateType;"), (2, u "LOCAL_DATE"), (2, u "LOCAL_DATE_TIME"), (2, u "LOCAL_TIME"), (2, u "INSTANT"), (2, u "MONTH_DAY"), (2, u "YEAR_MONTH"), (2, u "PERIOD"), (2, u "$VALUES"), (0, u "[Lcom/example/kwery/kwery/DateType;"), (6, .class_ 40), (1, u "java/lang/Enum"), (8, u "type"), (0, u "Ljava/lang/Class;"), (10, u "ordered"), (0, u "Z"), (28, .class_ 92), (0, u "com/example/kwery/kwery/DateType$1"), (40, u "isImmutableValue"), (0, u "()Z")] 15

def k6c0 : Code := { maxStack := 2, maxLocals := 1, code := prog_107_method_5_code, exceptionTable := #[], attributes := #[] }
def k6m0 : Method := { name := "isImmutableValue", desc := "()Z", sig := { parameters := [], returnType := some .boolean }, accessFlags := 0, code := some k6c0 }
/-- com/example/kwery/kwery/DateType -/
def k6 : Class := { plain "com/example/kwery/kwery/DateType" (some 5) with
  accessFlags := 16416
  interfaces := #[]
  cf := some (fileOf pool6 1 #[.nestMembers #[91]] #[{ accessFlags := 0, nameIndex := 133, descriptorIndex := 134, attributes := #[] }] 16416 38 #[] #[{ accessFlags := 16409, nameIndex := 5, descriptorIndex := 6, attributes := #[] }, { accessFlags := 16409, nameIndex := 9, descriptorIndex := 6, attributes := #[] }, { accessFlags := 16409, nameIndex := 12, descriptorIndex := 6, attributes := #[] }, { accessFlags := 16409, nameIndex := 15, descriptorIndex := 6, attributes := #[] }, { accessFlags := 16409, nameIndex := 18, descriptorIndex := 6, attributes := #[] }, { accessFlags := 16409, nameIndex := 21, descriptorIndex := 6, attributes := #[] }, { accessFlags := 16409, nameIndex := 24, descriptorIndex := 6, attributes := #[] }, { accessFlags := 16409, nameIndex := 27, descriptorIndex := 6, attributes := #[] }, { accessFlags := 18, nameIndex := 49, descriptorIndex := 50, attributes := #[] }, { accessFlags := 18, nameIndex := 61, descriptorIndex := 62, attributes := #[] }, { accessFlags := 4122, nameIndex := 30, descriptorIndex := 31, attributes := #[] }])
  fields := #[{ name := "DATE", type := (.object "com/example/kwery/kwery/DateType"), accessFlags := 16409, slot := 0, constantValue := 0 }, { name := "LOCAL_DATE", type := (.object "com/example/kwery/kwery/DateType"), accessFlags := 16409, slot := 1, constantValue := 0 }, { name := "LOCAL_DATE_TIME", type := (.object "com/example/kwery/kwery/DateType"), accessFlags := 16409, slot := 2, constantValue := 0 }, { name := "LOCAL_TIME", type := (.object "com/example/kwery/kwery/DateType"), accessFlags := 16409, slot := 3, constantValue := 0 }, { name := "INSTANT", type := (.object "com/example/kwery/kwery/DateType"), accessFlags := 16409, slot := 4, constantValue := 0 }, { name := "MONTH_DAY", type := (.object "com/example/kwery/kwery/DateType"), accessFlags := 16409, slot := 5, constantValue := 0 }, { name := "YEAR_MONTH", type := (.object "com/example/kwery/kwery/DateType"), accessFlags := 16409, slot := 6, constantValue := 0 }, { name := "PERIOD", type := (.object "com/example/kwery/kwery/DateType"), accessFlags := 16409, slot := 7, constantValue := 0 }, { name := "type", type := (.object "java/lang/Class"), accessFlags := 18, slot := 3, constantValue := 0 }, { name := "ordered", type := .boolean, accessFlags := 18, slot := 4, constantValue := 0 }, { name := "$VALUES", type := (.array (.object "com/example/kwery/kwery/DateType")), accessFlags := 4122, slot := 8, constantValue := 0 }]
  methods := #[k6m0]
  instanceTypes := #[(.object "java/lang/String"), .int, .int, (.object "java/lang/Class"), .boolean]
  staticTypes := #[(.object "com/example/kwery/kwery/DateType"), (.object "com/example/kwery/kwery/DateType"), (.object "com/example/kwery/kwery/DateType"), (.object "com/example/kwery/kwery/DateType"), (.object "com/example/kwery/kwery/DateType"), (.object "com/example/kwery/kwery/DateType"), (.object "com/example/kwery/kwery/DateType"), (.object "com/example/kwery/kwery/DateType"), (.array (.object "com/example/kwery/kwery/DateType"))]
  resolved := Array.replicate 150 none
  statics := some 0 }

def pool7 : Array CpInfo := pool [(2, .class_ 4), (1, u "com/example/kwery/kwery/DateType"), (28, .class_ 34), (0, u "com/example/kwery/kwery/DateType$1")] 11

/-- com/example/kwery/kwery/DateType$1 -/
def k7 : Class := { plain "com/example/kwery/kwery/DateType$1" (some 6) with
  accessFlags := 16432
  interfaces := #[]
  cf := some (fileOf pool7 33 #[.nestHost 2] #[] 16432 2 #[] #[])
  fields := #[]
  methods := #[]
  instanceTypes := #[(.object "java/lang/String"), .int, .int, (.object "java/lang/Class"), .boolean]
  staticTypes := #[]
  resolved := Array.replicate 46 none
  statics := none }

def pool8 : Array CpInfo := pool [(1, u "java/lang/Cloneable"), (0, .class_ 1), (0, u "java/lang/Object"), (0, .class_ 3)] 3

/-- java/lang/Cloneable -/
def k8 : Class := { plain "java/lang/Cloneable" (some 0) with
  accessFlags := 1537
  interfaces := #[]
  cf := some (fileOf pool8 2 #[] #[] 1537 4 #[] #[])
  fields := #[]
  methods := #[]
  instanceTypes := #[]
  staticTypes := #[]
  resolved := Array.replicate 8 none
  statics := none }

/-- the primitive byte -/
def k9 : Class := { plain "byte" none with kind := .primitive 'B', accessFlags := 0x411 }
/-- [B -/
def k10 : Class := { plain "[B" (some 0) with kind := .array 9 .byte, interfaces := #[8, 4], accessFlags := 1041 }

/-- the primitive int -/
def k11 : Class := { plain "int" none with kind := .primitive 'I', accessFlags := 0x411 }
/-- [I -/
def k12 : Class := { plain "[I" (some 0) with kind := .array 11 .int, interfaces := #[8, 4], accessFlags := 1041 }

def heap : Heap := #[{ cls := 6, slots := #[.ref 1, .ref 2, .ref 3, .ref 4, .ref 5, .ref 6, .ref 7, .ref 8, .null], vm := .statics 6 },
  { cls := 7, slots := #[.null, .int 0, .int 0, .null, .int 0], vm := .none },
  { cls := 6, slots := #[.null, .int 1, .int 0, .null, .int 0], vm := .none },
  { cls := 6, slots := #[.null, .int 2, .int 0, .null, .int 0], vm := .none },
  { cls := 6, slots := #[.null, .int 3, .int 0, .null, .int 0], vm := .none },
  { cls := 6, slots := #[.null, .int 4, .int 0, .null, .int 0], vm := .none },
  { cls := 6, slots := #[.null, .int 5, .int 0, .null, .int 0], vm := .none },
  { cls := 6, slots := #[.null, .int 6, .int 0, .null, .int 0], vm := .none },
  { cls := 6, slots := #[.null, .int 7, .int 0, .null, .int 0], vm := .none }]
def classes : Array Class := #[k0, k1, k2, k3, k4, k5, k6, k7, k8, k9, k10, k11, k12]
def interned : List (Array UInt16 × Addr) := []
def slotsUsed : Nat := 49
def theMethod : MethodId := ⟨1, 1⟩
def args0 : Array Value := #[.int 5]
def aboutOver (below : List Frame) : State where
  vm := { classes := classes, interned := interned.toArray }
  heap := heap
  slotsUsed := slotsUsed
  threads := #[{ frames := .invoking theMethod args0 :: below }]
def below0 : List Frame := [.native { method := ⟨0, 0⟩, args := #[] }]
def about1 : State := aboutOver below0
def p0 : Program := .bare "" "" ""
def e0 : Env := launch0.env 0 0 0
theorem w_frames : about1.frames = Frame.invoking theMethod args0 :: below0 := rfl
set_option maxRecDepth 65536 in
theorem w_args : argsFit about1.vm theMethod args0 = true := by decide +kernel
set_option maxRecDepth 65536 in
theorem w_heap : heapFits about1 = true := by decide +kernel
set_option maxRecDepth 65536 in
theorem w_runnable : about1.curStatus? = some .runnable := by decide +kernel
set_option maxRecDepth 65536 in
theorem w_alone : about1.alone = true := by decide +kernel
set_option maxRecDepth 65536 in
theorem w_named : about1.methodNamed? x = some theMethod := by decide +kernel
set_option maxRecDepth 65536 in
theorem w_hears : about1.hears theMethod below0 = true := by decide +kernel
set_option maxRecDepth 65536 in
theorem w_ripe : about1.ripe theMethod args0 below0 = true := by decide +kernel
theorem w_running : about1.status = .running := rfl
set_option maxRecDepth 65536 in
theorem w_room : about1.hasRoom e0.platform room_1 = true :=
  launch0.hasRoom_least _ room_1 (by decide +kernel) (by decide +kernel) (by decide +kernel) (by decide +kernel) (by decide +kernel) (by decide +kernel)
theorem allAtoms_all (ts : List Jvm.Cond) (a : Array Jvm.Value) (st : Jvm.State) : (allAtoms ts).before a st = ts.all (fun c => c.before a st) := by
  induction ts with
  | nil => rfl
  | cons c t ih =>
    show (Jvm.Cond.and c (allAtoms t)).before a st = _
    rw [Jvm.Cond.before_and, ih, List.all_cons]
def words1 : List Jvm.Cond := Jvm.Cond.code x code maxLocals ret :: tables_1
/-- a 'code' word, met by the world's own term for the bytes: nothing is compared byte by byte -/
theorem code_word {y : MethodName} {bytes : ByteArray} {mx : Nat} {rt : Option FieldType} {a : Array Value} {s : State} {m : MethodId} {meth : Method} {c : Code} (h1 : s.methodNamed? y = some m) (h2 : s.vm.method? m = some meth) (h3 : meth.code = some c) (h4 : c.code = bytes)
    (h5 : (c.maxLocals == mx && c.exceptionTable.isEmpty && decide (c.maxStack ≤ mostOperands) && decide (meth.sig.returnType = rt) && !meth.locks && decide (parseMethodDescriptor y.desc = some meth.sig)) = true) : (Jvm.Cond.code y bytes mx rt).before a s = true := by
  simp only [Bool.and_eq_true, beq_iff_eq, Bool.not_eq_true', decide_eq_true_eq] at h5
  obtain ⟨⟨⟨⟨⟨g1, g2⟩, g3⟩, g4⟩, g5⟩, g6⟩ := h5
  simp [Cond.before, Cond.holds, Cond.value, h1, h2, h3, h4, g1, g2, g3, g4, g5, g6]
def isCode : Jvm.Cond → Bool
  | .code _ _ _ _ => true
  | _ => false
theorem all_split {L : List Jvm.Cond} {P : Jvm.Cond → Bool} (h1 : L.all (fun c => isCode c || P c) = true) (h2 : ∀ c ∈ L.filter isCode, P c = true) : L.all P = true := by
  refine List.all_eq_true.mpr fun c hc => ?_
  have h := List.all_eq_true.mp h1 c hc
  rcases Bool.eq_false_or_eq_true (isCode c) with hi | hi
  · exact h2 c (List.mem_filter.mpr ⟨hc, hi⟩)
  · simpa [hi] using h
set_option maxRecDepth 65536 in
theorem w_c0 : (Jvm.Cond.code x code maxLocals ret).before args0 about1 = true := code_word (m := ⟨1, 1⟩) (meth := k1m1) (c := k1c1) (by decide +kernel) rfl rfl rfl (by decide +kernel)
set_option maxRecDepth 65536 in
theorem w_c1 : (Jvm.Cond.code ({ cls := "com/example/kwery/kwery/DateTypeIsImmutableValuePinLaw", name := "pick", desc := "(I)Lcom/example/kwery/kwery/DateType;" } : Jvm.MethodName) method_3_code (1 : Nat) (Option.some (Jvm.ClassFile.FieldType.object "com/example/kwery/kwery/DateType"))).before args0 about1 = true := code_word (m := ⟨1, 2⟩) (meth := k1m2) (c := k1c2) (by decide +kernel) rfl rfl rfl (by decide +kernel)
set_option maxRecDepth 65536 in
theorem w_c2 : (Jvm.Cond.code ({ cls := "com/example/kwery/kwery/DateTypeIsImmutableValuePinLaw", name := "expectedFor", desc := "(I)Z" } : Jvm.MethodName) method_4_code (1 : Nat) (Option.some Jvm.ClassFile.FieldType.boolean)).before args0 about1 = true := code_word (m := ⟨1, 3⟩) (meth := k1m3) (c := k1c3) (by decide +kernel) rfl rfl rfl (by decide +kernel)
set_option maxRecDepth 65536 in
theorem w_c3 : (Jvm.Cond.code ({ cls := "com/example/kwery/kwery/DateType", name := "isImmutableValue", desc := "()Z" } : Jvm.MethodName) prog_107_method_5_code (1 : Nat) (Option.some Jvm.ClassFile.FieldType.boolean)).before args0 about1 = true := code_word (m := ⟨6, 0⟩) (meth := k6m0) (c := k6c0) (by decide +kernel) rfl rfl rfl (by decide +kernel)
def codes1 : List Jvm.Cond := [Jvm.Cond.code x code maxLocals ret, Jvm.Cond.code ({ cls := "com/example/kwery/kwery/DateTypeIsImmutableValuePinLaw", name := "pick", desc := "(I)Lcom/example/kwery/kwery/DateType;" } : Jvm.MethodName) method_3_code (1 : Nat) (Option.some (Jvm.ClassFile.FieldType.object "com/example/kwery/kwery/DateType")), Jvm.Cond.code ({ cls := "com/example/kwery/kwery/DateTypeIsImmutableValuePinLaw", name := "expectedFor", desc := "(I)Z" } : Jvm.MethodName) method_4_code (1 : Nat) (Option.some Jvm.ClassFile.FieldType.boolean), Jvm.Cond.code ({ cls := "com/example/kwery/kwery/DateType", name := "isImmutableValue", desc := "()Z" } : Jvm.MethodName) prog_107_method_5_code (1 : Nat) (Option.some Jvm.ClassFile.FieldType.boolean)]
set_option maxRecDepth 65536 in
theorem codes_eq : words1.filter isCode = codes1 := rfl
theorem w_codes : ∀ c ∈ words1.filter isCode, c.before args0 about1 = true := by
  rw [codes_eq]
  intro c hc
  simp only [codes1, List.mem_cons, List.not_mem_nil, or_false] at hc
  rcases hc with rfl | rfl | rfl | rfl
  · exact w_c0
  · exact w_c1
  · exact w_c2
  · exact w_c3
set_option maxRecDepth 65536 in
theorem w_t1 : (words1.take 24).all (fun c => isCode c || c.before args0 about1) = true := by decide +kernel
set_option maxRecDepth 65536 in
theorem w_t2 : (words1.drop 24).all (fun c => isCode c || c.before args0 about1) = true := by decide +kernel
theorem w_tables : (allAtoms (Jvm.Cond.code x code maxLocals ret :: tables_1)).before args0 about1 = true := by
  rw [allAtoms_all]
  show words1.all (fun c => c.before args0 about1) = true
  refine all_split ?_ w_codes
  rw [← List.take_append_drop 24 words1, List.all_append, w_t1, w_t2]
  rfl
set_option maxRecDepth 65536 in
theorem w_case : (Jvm.Cond.and given_1 narrow_1).before args0 about1 = true := by decide +kernel
theorem w_applies : (headSpec (Jvm.Cond.code x code maxLocals ret :: tables_1) room_1).applies x e0.platform about1 = true :=
  (Spec.applies_iff w_frames).mpr ⟨w_running, w_runnable, w_alone, w_named, w_hears, w_ripe, w_room, w_tables⟩
theorem atStart : AtStart classFile x code maxLocals ret World_1 tables_1 room_1 Calls_1 rest_1 Pre_1 launch0 p0 e0 about1 theMethod args0 below0 :=
  ⟨lists_1, trivial, launch0.admits_env _ _ _, launch0.least_env, fairChoices_fair.cas, fairChoices_fair.clock, w_frames, w_args, w_heap, w_applies, trivial, trivial, w_case⟩
end start1
theorem witness_1 : WitnessClaimed_1 := ⟨start1.p0, start1.e0, start1.about1, start1.theMethod, start1.args0, start1.below0, start1.atStart⟩
end Jvm.Pilot.@@N@@
