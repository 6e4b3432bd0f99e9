import JvmDerived
import JvmDerived.Pilot.@@N@@Statement
import JvmDerived.Pilot.@@N@@Code
set_option linter.unusedVariables false
set_option linter.unusedSimpArgs false
namespace Jvm.RoadKit
open Sem ClassFile Op Lib Jvm.Stand Jvm.Free Jvm.LawKit
section Own
variable {p : Program} {l : Launch} {e : Env} {R : Room} {s s' : State} {m : MethodId} {args : Array Value} {below : List Frame} {meth : Method} {c : Code} {T : State} {locs : List Loc} {cells slots : Nat} {Z : State} {a0 : Array Value} {h : Heap} {K : Outcome → State → Prop} {Q : Option Value → Heap → List Loc → Prop}
/-- from the state A the run comes to an end that K allows -/
def OwnOk (p : Program) (e : Env) (below : List Frame) (K : Outcome → State → Prop) (A : State) : Prop :=
  ∃ s₂ o, Steps p.tables e below A s₂ ∧ s₂.status = .running ∧ Ended s₂ below o ∧ K o s₂
theorem own_up {A B : State} (h : ∀ t, Steps p.tables e below B t → Steps p.tables e below A t) (k : OwnOk p e below K B) : OwnOk p e below K A := by
  obtain ⟨s₂, o, h1, h2⟩ := k
  exact ⟨s₂, o, h _ h1, h2⟩
theorem own_to {A B : State} (h : Steps p.tables e below A B) (k : OwnOk p e below K B) : OwnOk p e below K A := own_up (fun _ q => h.trans q) k
theorem own_rem64 (x y : Int64) : x - (x / y) * y = x % y := by
  apply Int64.toInt_inj.mp
  have h1 := Int64.le_toInt (x % y)
  have h2 := Int64.toInt_lt (x % y)
  rw [Int64.toInt_sub, Int64.toInt_mul, Int64.toInt_div, Int.bmod_mul_bmod, Int.sub_bmod_bmod, Int.mul_comm (x.toInt.tdiv y.toInt), ← Int.tmod_def, ← Int64.toInt_mod]
  exact Int.bmod_eq_of_le_mul_two (by omega) (by omega)
theorem own_ldiv {g : JFrame} {target : State} (X : Stand p l e R s m args below meth c T locs cells slots) (hx : p.tables.exec = Jvm.exec) (hg : g.method = m) {x y : Int64} {rest : List Value} (hd : decode c.code g.pc = .ok (.ldiv, 1)) (hs : g.stack = .long y :: .long x :: rest) (hy : y ≠ 0)
    (hr : Steps p.tables e below (T.setTop { g with pc := g.pc + 1, stack := .long (x / y) :: rest }) target) : Steps p.tables e below (T.setTop g) target := by
  have h := X.here
  subst hg
  jvm_step h [h.top, hx, hd, hs, hy, ldiv.wp_sem]
  exact hr
theorem own_lrem {g : JFrame} {target : State} (X : Stand p l e R s m args below meth c T locs cells slots) (hx : p.tables.exec = Jvm.exec) (hg : g.method = m) {x y : Int64} {rest : List Value} (hd : decode c.code g.pc = .ok (.lrem, 1)) (hs : g.stack = .long y :: .long x :: rest) (hy : y ≠ 0)
    (hr : Steps p.tables e below (T.setTop { g with pc := g.pc + 1, stack := .long (x % y) :: rest }) target) : Steps p.tables e below (T.setTop g) target := by
  have h := X.here
  rw [← own_rem64] at hr
  subst hg
  jvm_step h [h.top, hx, hd, hs, hy, lrem.wp_sem]
  exact hr
theorem own_n0 {n0 : Nat} (X : Old Z n0 h) : n0 ≤ h.size := X.1 ▸ X.2.1
theorem own_ref_eq {a b : Addr} (q : a = b) : Value.ref a = Value.ref b := congrArg Value.ref q
theorem own_ref_ne {a b : Addr} (q : ¬ a = b) : ¬ Value.ref a = Value.ref b := fun r => q (Value.ref.inj r)
theorem own_jtlt {x y : Int64} (h : x < y) : ifCond.holds .lt (lcmpW x y) = true ∧ ifCond.holds .ge (lcmpW x y) = false ∧ ifCond.holds .gt (lcmpW y x) = true ∧ ifCond.holds .le (lcmpW y x) = false := by
  have q1 : lcmpW x y < 0 := by rw [lcW]; exact (lc_lt x y).mpr h
  have q2 : (0 : Int32) < lcmpW y x := by rw [lcW]; exact (lc_gt y x).mpr h
  exact ⟨(if0 _ _).trans (tlt q1).1, (if0 _ _).trans (tlt q1).2.1, (if0 _ _).trans (tlt q2).2.2.1, (if0 _ _).trans (tlt q2).2.2.2⟩
theorem own_jflt {x y : Int64} (h : ¬ x < y) : ifCond.holds .lt (lcmpW x y) = false ∧ ifCond.holds .ge (lcmpW x y) = true ∧ ifCond.holds .gt (lcmpW y x) = false ∧ ifCond.holds .le (lcmpW y x) = true := by
  have q1 : ¬ lcmpW x y < 0 := by rw [lcW]; exact fun q => h ((lc_lt x y).mp q)
  have q2 : ¬ (0 : Int32) < lcmpW y x := by rw [lcW]; exact fun q => h ((lc_gt y x).mp q)
  exact ⟨(if0 _ _).trans (flt q1).1, (if0 _ _).trans (flt q1).2.1, (if0 _ _).trans (flt q2).2.2.1, (if0 _ _).trans (flt q2).2.2.2⟩
theorem own_jteq {x y : Int64} (h : x = y) : ifCond.holds .eq (lcmpW x y) = true ∧ ifCond.holds .ne (lcmpW x y) = false := by
  have q1 : lcmpW x y = 0 := by rw [lcW]; exact (lc_eq x y).mpr h
  exact ⟨(if0 _ _).trans (teq q1).1, (if0 _ _).trans (teq q1).2⟩
theorem own_jfeq {x y : Int64} (h : ¬ x = y) : ifCond.holds .eq (lcmpW x y) = false ∧ ifCond.holds .ne (lcmpW x y) = true := by
  have q1 : ¬ lcmpW x y = 0 := by rw [lcW]; exact fun q => h ((lc_eq x y).mp q)
  exact ⟨(if0 _ _).trans (feq q1).1, (if0 _ _).trans (feq q1).2⟩
theorem own_fldEq {t : Term} {a : Addr} {C n d : String} {z : Int32} (ev : t.eval args Z none [] Z = some (.ref a)) (q : (Cond.eq (.field t C n d) (.int z)).value args Z none Z [] = some true) : Fld Z Z.heap a C n d (.int z) := by
  obtain ⟨x, y, h1, h2, h3, h4⟩ := cmp_v (Or.inl q)
  have e2 : y = .int z := by simpa [Term.eval] using h2.symm
  subst e2
  obtain ⟨w, rfl⟩ := h4
  have hw : w = z := by
    have q' := q
    rw [Cond.eq_ints h1 h2] at q'
    exact of_decide_eq_true (Option.some.inj q')
  subst hw
  rw [fld_at ev] at h1
  exact Fld.start h1
/-- the end of a body that interns nothing -/
def own_K (s : State) (Q : Option Value → Heap → List Loc → Prop) (k n : Nat) (o : Outcome) (u : State) : Prop := ∃ v L, o = .returned v ∧ Q v u.heap L ∧ FrameEnd s o u L k n
/-- a body's contract -/
def own_Met (l : Launch) (Z : State) (y : MethodName) (bytes : ByteArray) (maxL : Nat) (ret : Option FieldType) (rm : Room) (as' : Array Value) (h0 : Heap) (Q : Option Value → Heap → List Loc → Prop) : Prop :=
  ∀ ws, MetFree l y (head1 (Cond.code y bytes maxL ret :: ws) rm) (fun a U => a = as' ∧ Z.Warmed39 U.vm ∧ U.heap = h0) (fun _ _ _ _ _ => True) (fun _ U o U' => own_K U Q rm.cells rm.slots o U')
theorem own_body {y : MethodName} {bytes : ByteArray} {maxL : Nat} {ret : Option FieldType} {rm : Room} {as' : Array Value} {L0 : Array Slot}
    (hpl : plainFor y = true) (ef : ∀ m, entryFrame m as' maxL = mkF m 0 L0 [])
    (body : ∀ (p : Program) (e : Env) (s : State) (m : MethodId) (below : List Frame) (meth : Method) (c : Code) (s₁ : State), p.tables.exec = Jvm.exec → c.code = bytes → c.maxLocals = maxL → Z.Warmed39 s.vm → s.vm.findClass y.cls = some m.cls → meth.name = y.name → meth.sig.returnType = ret → meth.locks = false →
      Stand p l e rm s m as' below meth c s₁ [] 0 0 → s₁.heap = h → OwnOk p e below (own_K s Q rm.cells rm.slots) (s₁.setTop (mkF m 0 L0 []))) :
    own_Met l Z y bytes maxL ret rm as' h Q := by
  intro ws
  refine MetFree.of_bodySF hpl hisR ?_
  intro p e s m args below meth c s₁ Bd hml0 hP hK
  obtain ⟨rfl, hZ, hh⟩ := hP
  have q := body p e s m below meth c s₁ Bd.exec Bd.bytes hml0 hZ (findClass_of_methodNamed Bd.named) (name_of_methodNamed Bd.named Bd.method).1 Bd.returns Bd.notSynchronized (Stand.of_body Bd) (by rw [← hh, Bd.state]; rfl)
  rw [← ef] at q
  exact q
theorem own_ret (X : Stand p l e R s m args below meth c T locs cells slots) {F : JFrame} {v : Option Value} (hv : meth.sig.returnType = none → v = none) (hlk : meth.locks = false)
    (st : ∀ fs, (∀ (f : JFrame) (acts : List Action), f.method = m → f.locked = none → f.entered = [] → (doReturn e (T.setTop f) acts v).1 = T.setFrames fs) → Steps p.tables e below (T.setTop F) (T.setFrames fs))
    (eT : T.heap = h) (hQ : Q v h locs) {k n : Nat} (hk : cells ≤ k) (hn : slots ≤ n) : OwnOk p e below (own_K s Q k n) (T.setTop F) := by
  obtain ⟨fs, hr, hrun, hended, hW, hsame⟩ := X.leave hv hlk
  refine ⟨_, _, st fs hr, hrun, hended, v, locs, rfl, ?_, ⟨_, rfl⟩, hW, hsame.mono hk hn⟩
  show Q v T.heap locs
  rw [eT]; exact hQ
theorem own_retN (X : Stand p l e R s m args below meth c T locs cells slots) (hx : p.tables.exec = Jvm.exec) {t : FieldType} (hret : meth.sig.returnType = some t) (ht : t = .boolean ∨ t = .byte ∨ t = .char ∨ t = .short) (hlk : meth.locks = false)
    {pc : Nat} {Ls : Array Slot} {z z' : Int32} {rest : List Value} (hd : decode c.code pc = .ok (.ireturn, 1)) (hz : nar t z = z') (eT : T.heap = h) {k n : Nat} (hk : cells ≤ k) (hn : slots ≤ n) (hQ : Q (some (.int z')) h locs) :
    OwnOk p e below (own_K s Q k n) (T.setTop (mkF m pc Ls (.int z :: rest))) := by
  subst hz
  exact own_ret X (fun q => by rw [hret] at q; cases q) hlk (fun fs hr => retN X hx hret ht hd hr) eT hQ hk hn
theorem own_retI (X : Stand p l e R s m args below meth c T locs cells slots) (hx : p.tables.exec = Jvm.exec) (hret : meth.sig.returnType = some .int) (hlk : meth.locks = false)
    {pc : Nat} {Ls : Array Slot} {z : Int32} {rest : List Value} (hd : decode c.code pc = .ok (.ireturn, 1)) (eT : T.heap = h) {k n : Nat} (hk : cells ≤ k) (hn : slots ≤ n) (hQ : Q (some (.int z)) h locs) :
    OwnOk p e below (own_K s Q k n) (T.setTop (mkF m pc Ls (.int z :: rest))) :=
  own_ret X (fun q => by rw [hret] at q; cases q) hlk (fun fs hr => retOut X hx hret rfl (Or.inl ⟨rfl, Or.inl rfl, z, rfl⟩) hd hr) eT hQ hk hn
theorem own_retJ (X : Stand p l e R s m args below meth c T locs cells slots) (hx : p.tables.exec = Jvm.exec) (hret : meth.sig.returnType = some .long) (hlk : meth.locks = false)
    {pc : Nat} {Ls : Array Slot} {z : Int64} {rest : List Value} (hd : decode c.code pc = .ok (.lreturn, 1)) (eT : T.heap = h) {k n : Nat} (hk : cells ≤ k) (hn : slots ≤ n) (hQ : Q (some (.long z)) h locs) :
    OwnOk p e below (own_K s Q k n) (T.setTop (mkF m pc Ls (.long z :: rest))) :=
  own_ret X (fun q => by rw [hret] at q; cases q) hlk (fun fs hr => retOut X hx hret rfl (Or.inr (Or.inl ⟨rfl, rfl, z, rfl⟩)) hd hr) eT hQ hk hn
theorem own_retR (X : Stand p l e R s m args below meth c T locs cells slots) (hx : p.tables.exec = Jvm.exec) {t : FieldType} (hret : meth.sig.returnType = some t) (ht : t.isReference = true) (hlk : meth.locks = false)
    {pc : Nat} {Ls : Array Slot} {w : Value} {rest : List Value} (hw : w.isRef = true) (hd : decode c.code pc = .ok (.areturn, 1)) (eT : T.heap = h) {k n : Nat} (hk : cells ≤ k) (hn : slots ≤ n) (hQ : Q (some w) h locs) :
    OwnOk p e below (own_K s Q k n) (T.setTop (mkF m pc Ls (w :: rest))) :=
  own_ret X (fun q => by rw [hret] at q; cases q) hlk (fun fs hr => retOut X hx hret (by rcases ref_cases hw with rfl | ⟨a, rfl⟩ <;> cases t <;> rfl) (Or.inr (Or.inr (Or.inr (Or.inr ⟨rfl, ht, hw⟩)))) hd hr) eT hQ hk hn
theorem own_retV (X : Stand p l e R s m args below meth c T locs cells slots) (hx : p.tables.exec = Jvm.exec) (hret : meth.sig.returnType = none) (hlk : meth.locks = false)
    {pc : Nat} {Ls : Array Slot} (hd : decode c.code pc = .ok (.return_, 1)) (eT : T.heap = h) {k n : Nat} (hk : cells ≤ k) (hn : slots ≤ n) (hQ : Q none h locs) :
    OwnOk p e below (own_K s Q k n) (T.setTop (mkF m pc Ls [])) :=
  own_ret X (fun _ => rfl) hlk (fun fs hr => X.returnOut hx hret hd hr) eT hQ hk hn
/-- who pays a call: Back, in the form that backOf and the pasted String laws have -/
def own_Bk (l : Launch) (R : Room) (p : Program) (e : Env) (below : List Frame) (s : State) (args : Array Value) (y : MethodName) (len W : Nat) (as' : Array Value) (h : Heap) (kc ks : Nat) (Q : Option Value → Heap → List Loc → Prop) : Prop :=
  Back l R p e below s args y len W (fun A a => a = as' ∧ A.U.heap = h ∧ A.cells + kc ≤ R.cells ∧ A.slots + ks ≤ R.slots) (fun A _ v B => ∃ L, Q v B.U.heap L ∧ B.locs = A.locs ++ L ∧ B.cells = A.cells + kc ∧ B.slots = A.slots + ks)
theorem own_bk {y : MethodName} {bytes : ByteArray} {maxL : Nat} {ret : Option FieldType} {rm : Room} {len W : Nat} {as' : Array Value} (hM : own_Met l Z y bytes maxL ret rm as' h Q) (hZ : Z.Warmed39 s.vm) (w4 : (Cond.code y bytes maxL ret).before a0 Z = true) (w3 : (Cond.initialized y.cls).before a0 Z = true) (hf : rm.frames + 1 ≤ R.frames) (hl : W + (maxL + 11) + rm.locals ≤ R.locals) :
    own_Bk l R p e below s args y len W as' h rm.cells rm.slots Q := backOf (W := W) (hM []) hZ w4 w3 hf hl
/-- a static call -/
theorem own_callSB (X : Stand p l e R s m args below meth c T locs cells slots) (hx : p.tables.exec = Jvm.exec) (hZ : Z.Warmed39 s.vm) {own : String} {index : Nat} {y : MethodName} {bytes : ByteArray} {maxL : Nat} {ret : Option FieldType}
    (hown : s.vm.findClass own = some m.cls) (w1 : (Cond.methodLink own index y).before a0 Z = true) (w2 : (Cond.static y).before a0 Z = true) (w3 : (Cond.initialized y.cls).before a0 Z = true) (w4 : (Cond.code y bytes maxL ret).before a0 Z = true)
    (hy : y.cls ≠ "java/lang/invoke/MethodHandle" ∧ y.cls ≠ "java/lang/invoke/VarHandle") {W kc ks : Nat} {as' : Array Value} {Q' : Option Value → Heap → List Loc → Prop} (hB : own_Bk l R p e below s args y 3 W as' h kc ks Q') (eT : T.heap = h)
    {pc : Nat} {ls : Array Slot} {st argsL rest : List Value} (hsize : ls.size = c.maxLocals) (hlen : ∀ sig, parseMethodDescriptor y.desc = some sig → argsL.length = sig.parameters.length) (has : argsL.toArray = as') (hst : st = argsL.reverse ++ rest)
    (hW : (rest.map fun v => v.category).sum = W) (hd : decode c.code pc = .ok (.invokestatic index, 3)) (hc : cells + kc ≤ R.cells) (hs : slots + ks ≤ R.slots)
    (k : ∀ (T' : State) (v : Option Value) (L : List Loc), Stand p l e R s m args below meth c T' (locs ++ L) (cells + kc) (slots + ks) → Q' v T'.heap L → OwnOk p e below K (T'.setTop (mkF m (pc + 3) ls (v.toList ++ rest)))) :
    OwnOk p e below K (T.setTop (mkF m pc ls st)) := by
  obtain ⟨v, _, ⟨T2, L2, k2, n2⟩, -, X2, ⟨Lc, hQ, l2, y2, z2⟩, st2⟩ := Jvm.LawKit.callS X hx hown (mvT hZ w1) (mvT hZ w2) (mvT hZ w3) (mvT hZ w4) hy hB
    (g := mkF m pc ls st) rfl hsize (argsL := argsL) (rest := rest) hlen hst (by show 2 * 0 + _ ≤ _; rw [hW]; omega) hd (fun _ _ => ⟨has, eT, hc, hs⟩)
  dsimp only [Pt.U, Pt.locs, Pt.cells, Pt.slots] at X2 l2 y2 z2 st2 hQ
  subst l2 y2 z2
  exact own_up st2 (k _ _ _ X2 hQ)
theorem own_callS (X : Stand p l e R s m args below meth c T locs cells slots) (hx : p.tables.exec = Jvm.exec) (hZ : Z.Warmed39 s.vm) {own : String} {index : Nat} {y : MethodName} {bytes : ByteArray} {maxL : Nat} {ret : Option FieldType}
    (hown : s.vm.findClass own = some m.cls) (w1 : (Cond.methodLink own index y).before a0 Z = true) (w2 : (Cond.static y).before a0 Z = true) (w3 : (Cond.initialized y.cls).before a0 Z = true) (w4 : (Cond.code y bytes maxL ret).before a0 Z = true)
    (hy : y.cls ≠ "java/lang/invoke/MethodHandle" ∧ y.cls ≠ "java/lang/invoke/VarHandle") {rm : Room} {as' : Array Value} {Q' : Option Value → Heap → List Loc → Prop} (hM : own_Met l Z y bytes maxL ret rm as' h Q') (eT : T.heap = h)
    {pc W : Nat} {ls : Array Slot} {st argsL rest : List Value} (hsize : ls.size = c.maxLocals) (hlen : ∀ sig, parseMethodDescriptor y.desc = some sig → argsL.length = sig.parameters.length) (has : argsL.toArray = as') (hst : st = argsL.reverse ++ rest)
    (hW : (rest.map fun v => v.category).sum = W) (hd : decode c.code pc = .ok (.invokestatic index, 3)) (hf : rm.frames + 1 ≤ R.frames) (hl : W + (maxL + 11) + rm.locals ≤ R.locals) (hc : cells + rm.cells ≤ R.cells) (hs : slots + rm.slots ≤ R.slots)
    (k : ∀ (T' : State) (v : Option Value) (L : List Loc), Stand p l e R s m args below meth c T' (locs ++ L) (cells + rm.cells) (slots + rm.slots) → Q' v T'.heap L → OwnOk p e below K (T'.setTop (mkF m (pc + 3) ls (v.toList ++ rest)))) :
    OwnOk p e below K (T.setTop (mkF m pc ls st)) := own_callSB X hx hZ hown w1 w2 w3 w4 hy (own_bk hM hZ w4 w3 hf hl) eT hsize hlen has hst hW hd hc hs k
/-- a constructor -/
theorem own_callCB (X : Stand p l e R s m args below meth c T locs cells slots) (hx : p.tables.exec = Jvm.exec) (hZ : Z.Warmed39 s.vm) {own : String} {index : Nat} {y : MethodName} {bytes : ByteArray} {maxL : Nat} (hy1 : y.name = "<init>")
    (hown : s.vm.findClass own = some m.cls) (w1 : (Cond.methodLink own index y).before a0 Z = true) (w2 : (Cond.instanceMethod y).before a0 Z = true) (w4 : (Cond.code y bytes maxL none).before a0 Z = true)
    (hy : y.cls ≠ "java/lang/invoke/MethodHandle" ∧ y.cls ≠ "java/lang/invoke/VarHandle") {W kc ks : Nat} {as' : Array Value} {Q' : Option Value → Heap → List Loc → Prop} (hB : own_Bk l R p e below s args y 3 W as' h kc ks Q') (eT : T.heap = h)
    {pc : Nat} {ls : Array Slot} {a : Addr} {st argsL rest : List Value} (hsize : ls.size = c.maxLocals) (hlen : ∀ sig, parseMethodDescriptor y.desc = some sig → argsL.length = sig.parameters.length) (has : (Value.ref a :: argsL).toArray = as') (hst : st = argsL.reverse ++ .ref a :: rest)
    (hW : (rest.map fun v => v.category).sum = W) (hd : decode c.code pc = .ok (.invokespecial index, 3)) (hc : cells + kc ≤ R.cells) (hs : slots + ks ≤ R.slots)
    (k : ∀ (T' : State) (v : Option Value) (L : List Loc), Stand p l e R s m args below meth c T' (locs ++ L) (cells + kc) (slots + ks) → Q' v T'.heap L → OwnOk p e below K (T'.setTop (mkF m (pc + 3) ls (v.toList ++ rest)))) :
    OwnOk p e below K (T.setTop (mkF m pc ls st)) := by
  obtain ⟨v, _, ⟨T2, L2, k2, n2⟩, -, X2, ⟨Lc, hQ, l2, y2, z2⟩, st2⟩ := X.specialBack hx hy1 hown (mvT hZ w1) (mvT hZ w2) (mvT hZ w4) hy hB
    (g := mkF m pc ls st) rfl hsize (Steps.refl _) (a := a) (argsL := argsL) (rest := rest) hlen hst (by show 2 * 0 + _ ≤ _; rw [hW]; omega) hd (fun _ _ => ⟨has, eT, hc, hs⟩)
  dsimp only [Pt.U, Pt.locs, Pt.cells, Pt.slots] at X2 l2 y2 z2 st2 hQ
  subst l2 y2 z2
  exact own_to st2 (k _ _ _ X2 hQ)
theorem own_callC (X : Stand p l e R s m args below meth c T locs cells slots) (hx : p.tables.exec = Jvm.exec) (hZ : Z.Warmed39 s.vm) {own : String} {index : Nat} {y : MethodName} {bytes : ByteArray} {maxL : Nat} (hy1 : y.name = "<init>")
    (hown : s.vm.findClass own = some m.cls) (w1 : (Cond.methodLink own index y).before a0 Z = true) (w2 : (Cond.instanceMethod y).before a0 Z = true) (w3 : (Cond.initialized y.cls).before a0 Z = true) (w4 : (Cond.code y bytes maxL none).before a0 Z = true)
    (hy : y.cls ≠ "java/lang/invoke/MethodHandle" ∧ y.cls ≠ "java/lang/invoke/VarHandle") {rm : Room} {as' : Array Value} {Q' : Option Value → Heap → List Loc → Prop} (hM : own_Met l Z y bytes maxL none rm as' h Q') (eT : T.heap = h)
    {pc W : Nat} {ls : Array Slot} {a : Addr} {st argsL rest : List Value} (hsize : ls.size = c.maxLocals) (hlen : ∀ sig, parseMethodDescriptor y.desc = some sig → argsL.length = sig.parameters.length) (has : (Value.ref a :: argsL).toArray = as') (hst : st = argsL.reverse ++ .ref a :: rest)
    (hW : (rest.map fun v => v.category).sum = W) (hd : decode c.code pc = .ok (.invokespecial index, 3)) (hf : rm.frames + 1 ≤ R.frames) (hl : W + (maxL + 11) + rm.locals ≤ R.locals) (hc : cells + rm.cells ≤ R.cells) (hs : slots + rm.slots ≤ R.slots)
    (k : ∀ (T' : State) (v : Option Value) (L : List Loc), Stand p l e R s m args below meth c T' (locs ++ L) (cells + rm.cells) (slots + rm.slots) → Q' v T'.heap L → OwnOk p e below K (T'.setTop (mkF m (pc + 3) ls (v.toList ++ rest)))) :
    OwnOk p e below K (T.setTop (mkF m pc ls st)) := own_callCB X hx hZ hy1 hown w1 w2 w4 hy (own_bk hM hZ w4 w3 hf hl) eT hsize hlen has hst hW hd hc hs k
/-- an instance method: the body that the receiver's class selects -/
theorem own_callVB (X : Stand p l e R s m args below meth c T locs cells slots) (hx : p.tables.exec = Jvm.exec) (hZ : Z.Warmed39 s.vm) {own C : String} {index : Nat} {y z : MethodName}
    (hown : s.vm.findClass own = some m.cls) (w1 : (Cond.methodLink own index y).before a0 Z = true) (w2 : (Cond.declares y).before a0 Z = true) (hnf : NotFace s y) (w5 : (Cond.selects C y z).before a0 Z = true) (w6 : (Cond.instanceMethod z).before a0 Z = true)
    (hy : y.cls ≠ "java/lang/invoke/MethodHandle" ∧ y.cls ≠ "java/lang/invoke/VarHandle") {W kc ks : Nat} {as' : Array Value} {Q' : Option Value → Heap → List Loc → Prop} (hB : own_Bk l R p e below s args z 3 W as' h kc ks Q') (eT : T.heap = h)
    {pc : Nat} {ls : Array Slot} {a : Addr} {st argsL rest : List Value} (E : Exa Z h a C) (hsize : ls.size = c.maxLocals) (hlen : ∀ sig, parseMethodDescriptor y.desc = some sig → argsL.length = sig.parameters.length) (has : (Value.ref a :: argsL).toArray = as') (hst : st = argsL.reverse ++ .ref a :: rest)
    (hW : (rest.map fun v => v.category).sum = W) (hd : decode c.code pc = .ok (.invokevirtual index, 3)) (hc : cells + kc ≤ R.cells) (hs : slots + ks ≤ R.slots)
    (k : ∀ (T' : State) (v : Option Value) (L : List Loc), Stand p l e R s m args below meth c T' (locs ++ L) (cells + kc) (slots + ks) → Q' v T'.heap L → OwnOk p e below K (T'.setTop (mkF m (pc + 3) ls (v.toList ++ rest)))) :
    OwnOk p e below K (T.setTop (mkF m pc ls st)) := by
  obtain ⟨cq, kq, qa, qb, qc⟩ := isOf hZ eT E
  obtain ⟨v, _, ⟨T2, L2, k2, n2⟩, -, X2, ⟨Lc, hQ, l2, y2, z2⟩, st2⟩ := X.virtualBack hx (y := y) (z := z) hown (mvT hZ w1) (mvT hZ w2) hnf (mvT hZ w5) (mvT hZ w6) hy hB qa qc
    (g := mkF m pc ls st) rfl hsize (Steps.refl _) (argsL := argsL) (rest := rest) hlen hst (by show 2 * 0 + _ ≤ _; rw [hW]; omega) hd (fun _ _ => ⟨has, eT, hc, hs⟩)
  dsimp only [Pt.U, Pt.locs, Pt.cells, Pt.slots] at X2 l2 y2 z2 st2 hQ
  subst l2 y2 z2
  exact own_to st2 (k _ _ _ X2 hQ)
theorem own_callV (X : Stand p l e R s m args below meth c T locs cells slots) (hx : p.tables.exec = Jvm.exec) (hZ : Z.Warmed39 s.vm) {own C : String} {index : Nat} {y z : MethodName} {bytes : ByteArray} {maxL : Nat} {ret : Option FieldType}
    (hown : s.vm.findClass own = some m.cls) (w1 : (Cond.methodLink own index y).before a0 Z = true) (w2 : (Cond.declares y).before a0 Z = true) (hnf : NotFace s y) (w5 : (Cond.selects C y z).before a0 Z = true) (w6 : (Cond.instanceMethod z).before a0 Z = true) (w3 : (Cond.initialized z.cls).before a0 Z = true) (w4 : (Cond.code z bytes maxL ret).before a0 Z = true)
    (hy : y.cls ≠ "java/lang/invoke/MethodHandle" ∧ y.cls ≠ "java/lang/invoke/VarHandle") {rm : Room} {as' : Array Value} {Q' : Option Value → Heap → List Loc → Prop} (hM : own_Met l Z z bytes maxL ret rm as' h Q') (eT : T.heap = h)
    {pc W : Nat} {ls : Array Slot} {a : Addr} {st argsL rest : List Value} (E : Exa Z h a C) (hsize : ls.size = c.maxLocals) (hlen : ∀ sig, parseMethodDescriptor y.desc = some sig → argsL.length = sig.parameters.length) (has : (Value.ref a :: argsL).toArray = as') (hst : st = argsL.reverse ++ .ref a :: rest)
    (hW : (rest.map fun v => v.category).sum = W) (hd : decode c.code pc = .ok (.invokevirtual index, 3)) (hf : rm.frames + 1 ≤ R.frames) (hl : W + (maxL + 11) + rm.locals ≤ R.locals) (hc : cells + rm.cells ≤ R.cells) (hs : slots + rm.slots ≤ R.slots)
    (k : ∀ (T' : State) (v : Option Value) (L : List Loc), Stand p l e R s m args below meth c T' (locs ++ L) (cells + rm.cells) (slots + rm.slots) → Q' v T'.heap L → OwnOk p e below K (T'.setTop (mkF m (pc + 3) ls (v.toList ++ rest)))) :
    OwnOk p e below K (T.setTop (mkF m pc ls st)) := own_callVB X hx hZ hown w1 w2 hnf w5 w6 hy (own_bk hM hZ w4 w3 hf hl) eT E hsize hlen has hst hW hd hc hs k
end Own
end Jvm.RoadKit
@@BLOCK:NumsL.lean.txt@@
namespace Jvm.Pilot.@@N@@
open Jvm Jvm.ClassFile Sem Op Lib Jvm.Free Jvm.Stand Jvm.LawKit Jvm.RoadKit Bundle Jvm.Pilot.@@N@@.Jvm.D
theorem d1_0 : decode prog_41_method_5_code 0 = .ok (.aload_n 0, 1) := by decide +kernel
theorem d1_1 : decode prog_41_method_5_code 1 = .ok (.getstatic 19, 3) := by decide +kernel
theorem d1_4 : decode prog_41_method_5_code 4 = .ok (.if_acmp .eq 10, 3) := by decide +kernel
theorem d1_7 : decode prog_41_method_5_code 7 = .ok (.aload_n 0, 1) := by decide +kernel
theorem d1_8 : decode prog_41_method_5_code 8 = .ok (.getstatic 22, 3) := by decide +kernel
theorem d1_11 : decode prog_41_method_5_code 11 = .ok (.if_acmp .ne 7, 3) := by decide +kernel
theorem d1_14 : decode prog_41_method_5_code 14 = .ok (.iconst 1, 1) := by decide +kernel
theorem d1_15 : decode prog_41_method_5_code 15 = .ok (.goto 4, 3) := by decide +kernel
theorem d1_18 : decode prog_41_method_5_code 18 = .ok (.iconst 0, 1) := by decide +kernel
theorem d1_19 : decode prog_41_method_5_code 19 = .ok (.ireturn, 1) := by decide +kernel
theorem pd_0 : parseMethodDescriptor "()Z" = some ⟨[], some .boolean⟩ := by decide +kernel
theorem wd_0 {a0 : Array Value} {Z : State} (hw : ∀ d ∈ tables_1, d.before a0 Z = true) : (Jvm.Cond.classLink "com/example/gridpost/gridpost/store/StateEndedPinLaw" (7 : Nat) "com/example/gridpost/gridpost/store/State").before a0 Z = true := hw _ (List.mem_of_getElem? (i := 0) rfl)
theorem wd_1 {a0 : Array Value} {Z : State} (hw : ∀ d ∈ tables_1, d.before a0 Z = true) : (Jvm.Cond.arrayOver (Jvm.ClassFile.FieldType.object "com/example/gridpost/gridpost/store/State")).before a0 Z = true := hw _ (List.mem_of_getElem? (i := 1) rfl)
theorem wd_2 {a0 : Array Value} {Z : State} (hw : ∀ d ∈ tables_1, d.before a0 Z = true) : (Jvm.Cond.fieldLink "com/example/gridpost/gridpost/store/StateEndedPinLaw" (9 : Nat) "com/example/gridpost/gridpost/store/State" "NEW" "Lcom/example/gridpost/gridpost/store/State;").before a0 Z = true := hw _ (List.mem_of_getElem? (i := 2) rfl)
theorem wd_3 {a0 : Array Value} {Z : State} (hw : ∀ d ∈ tables_1, d.before a0 Z = true) : (Jvm.Cond.initialized "com/example/gridpost/gridpost/store/State").before a0 Z = true := hw _ (List.mem_of_getElem? (i := 3) rfl)
theorem wd_4 {a0 : Array Value} {Z : State} (hw : ∀ d ∈ tables_1, d.before a0 Z = true) : (Jvm.Cond.laysStatic "com/example/gridpost/gridpost/store/State" "NEW" "Lcom/example/gridpost/gridpost/store/State;").before a0 Z = true := hw _ (List.mem_of_getElem? (i := 4) rfl)
theorem wd_6 {a0 : Array Value} {Z : State} (hw : ∀ d ∈ tables_1, d.before a0 Z = true) : (Jvm.Cond.fieldLink "com/example/gridpost/gridpost/store/StateEndedPinLaw" (13 : Nat) "com/example/gridpost/gridpost/store/State" "PENDING" "Lcom/example/gridpost/gridpost/store/State;").before a0 Z = true := hw _ (List.mem_of_getElem? (i := 6) rfl)
theorem wd_7 {a0 : Array Value} {Z : State} (hw : ∀ d ∈ tables_1, d.before a0 Z = true) : (Jvm.Cond.laysStatic "com/example/gridpost/gridpost/store/State" "PENDING" "Lcom/example/gridpost/gridpost/store/State;").before a0 Z = true := hw _ (List.mem_of_getElem? (i := 7) rfl)
theorem wd_8 {a0 : Array Value} {Z : State} (hw : ∀ d ∈ tables_1, d.before a0 Z = true) : (Jvm.Cond.fieldLink "com/example/gridpost/gridpost/store/StateEndedPinLaw" (16 : Nat) "com/example/gridpost/gridpost/store/State" "QUEUED" "Lcom/example/gridpost/gridpost/store/State;").before a0 Z = true := hw _ (List.mem_of_getElem? (i := 8) rfl)
theorem wd_9 {a0 : Array Value} {Z : State} (hw : ∀ d ∈ tables_1, d.before a0 Z = true) : (Jvm.Cond.laysStatic "com/example/gridpost/gridpost/store/State" "QUEUED" "Lcom/example/gridpost/gridpost/store/State;").before a0 Z = true := hw _ (List.mem_of_getElem? (i := 9) rfl)
theorem wd_10 {a0 : Array Value} {Z : State} (hw : ∀ d ∈ tables_1, d.before a0 Z = true) : (Jvm.Cond.fieldLink "com/example/gridpost/gridpost/store/StateEndedPinLaw" (19 : Nat) "com/example/gridpost/gridpost/store/State" "RUNNING" "Lcom/example/gridpost/gridpost/store/State;").before a0 Z = true := hw _ (List.mem_of_getElem? (i := 10) rfl)
theorem wd_11 {a0 : Array Value} {Z : State} (hw : ∀ d ∈ tables_1, d.before a0 Z = true) : (Jvm.Cond.laysStatic "com/example/gridpost/gridpost/store/State" "RUNNING" "Lcom/example/gridpost/gridpost/store/State;").before a0 Z = true := hw _ (List.mem_of_getElem? (i := 11) rfl)
theorem wd_12 {a0 : Array Value} {Z : State} (hw : ∀ d ∈ tables_1, d.before a0 Z = true) : (Jvm.Cond.fieldLink "com/example/gridpost/gridpost/store/StateEndedPinLaw" (22 : Nat) "com/example/gridpost/gridpost/store/State" "PAUSED" "Lcom/example/gridpost/gridpost/store/State;").before a0 Z = true := hw _ (List.mem_of_getElem? (i := 12) rfl)
theorem wd_13 {a0 : Array Value} {Z : State} (hw : ∀ d ∈ tables_1, d.before a0 Z = true) : (Jvm.Cond.laysStatic "com/example/gridpost/gridpost/store/State" "PAUSED" "Lcom/example/gridpost/gridpost/store/State;").before a0 Z = true := hw _ (List.mem_of_getElem? (i := 13) rfl)
theorem wd_14 {a0 : Array Value} {Z : State} (hw : ∀ d ∈ tables_1, d.before a0 Z = true) : (Jvm.Cond.fieldLink "com/example/gridpost/gridpost/store/StateEndedPinLaw" (25 : Nat) "com/example/gridpost/gridpost/store/State" "FINISHED" "Lcom/example/gridpost/gridpost/store/State;").before a0 Z = true := hw _ (List.mem_of_getElem? (i := 14) rfl)
theorem wd_15 {a0 : Array Value} {Z : State} (hw : ∀ d ∈ tables_1, d.before a0 Z = true) : (Jvm.Cond.laysStatic "com/example/gridpost/gridpost/store/State" "FINISHED" "Lcom/example/gridpost/gridpost/store/State;").before a0 Z = true := hw _ (List.mem_of_getElem? (i := 15) rfl)
theorem wd_16 {a0 : Array Value} {Z : State} (hw : ∀ d ∈ tables_1, d.before a0 Z = true) : (Jvm.Cond.fieldLink "com/example/gridpost/gridpost/store/StateEndedPinLaw" (28 : Nat) "com/example/gridpost/gridpost/store/State" "ABORTED" "Lcom/example/gridpost/gridpost/store/State;").before a0 Z = true := hw _ (List.mem_of_getElem? (i := 16) rfl)
theorem wd_17 {a0 : Array Value} {Z : State} (hw : ∀ d ∈ tables_1, d.before a0 Z = true) : (Jvm.Cond.laysStatic "com/example/gridpost/gridpost/store/State" "ABORTED" "Lcom/example/gridpost/gridpost/store/State;").before a0 Z = true := hw _ (List.mem_of_getElem? (i := 17) rfl)
theorem wd_18 {a0 : Array Value} {Z : State} (hw : ∀ d ∈ tables_1, d.before a0 Z = true) : (Jvm.Cond.constant "com/example/gridpost/gridpost/store/StateEndedPinLaw" (31 : Nat) (2147483647 : Int32)).before a0 Z = true := hw _ (List.mem_of_getElem? (i := 18) rfl)
theorem wd_19 {a0 : Array Value} {Z : State} (hw : ∀ d ∈ tables_1, d.before a0 Z = true) : (Jvm.Cond.methodLink "com/example/gridpost/gridpost/store/StateEndedPinLaw" (32 : Nat) ({ cls := "com/example/gridpost/gridpost/store/State", name := "ended", desc := "()Z" } : Jvm.MethodName)).before a0 Z = true := hw _ (List.mem_of_getElem? (i := 19) rfl)
theorem wd_20 {a0 : Array Value} {Z : State} (hw : ∀ d ∈ tables_1, d.before a0 Z = true) : (Jvm.Cond.declares ({ cls := "com/example/gridpost/gridpost/store/State", name := "ended", desc := "()Z" } : Jvm.MethodName)).before a0 Z = true := hw _ (List.mem_of_getElem? (i := 20) rfl)
theorem wd_21 {a0 : Array Value} {Z : State} (hw : ∀ d ∈ tables_1, d.before a0 Z = true) : (Jvm.Cond.instanceMethod ({ cls := "com/example/gridpost/gridpost/store/State", name := "ended", desc := "()Z" } : Jvm.MethodName)).before a0 Z = true := hw _ (List.mem_of_getElem? (i := 21) rfl)
theorem wd_22 {a0 : Array Value} {Z : State} (hw : ∀ d ∈ tables_1, d.before a0 Z = true) : (Jvm.Cond.selects "com/example/gridpost/gridpost/store/State" ({ cls := "com/example/gridpost/gridpost/store/State", name := "ended", desc := "()Z" } : Jvm.MethodName) ({ cls := "com/example/gridpost/gridpost/store/State", name := "ended", desc := "()Z" } : Jvm.MethodName)).before a0 Z = true := hw _ (List.mem_of_getElem? (i := 22) rfl)
theorem wd_23 {a0 : Array Value} {Z : State} (hw : ∀ d ∈ tables_1, d.before a0 Z = true) : (Jvm.Cond.code ({ cls := "com/example/gridpost/gridpost/store/State", name := "ended", desc := "()Z" } : Jvm.MethodName) prog_41_method_5_code (1 : Nat) (Option.some Jvm.ClassFile.FieldType.boolean)).before a0 Z = true := hw _ (List.mem_of_getElem? (i := 23) rfl)
theorem wd_24 {a0 : Array Value} {Z : State} (hw : ∀ d ∈ tables_1, d.before a0 Z = true) : (Jvm.Cond.fieldLink "com/example/gridpost/gridpost/store/State" (19 : Nat) "com/example/gridpost/gridpost/store/State" "FINISHED" "Lcom/example/gridpost/gridpost/store/State;").before a0 Z = true := hw _ (List.mem_of_getElem? (i := 24) rfl)
theorem wd_25 {a0 : Array Value} {Z : State} (hw : ∀ d ∈ tables_1, d.before a0 Z = true) : (Jvm.Cond.fieldLink "com/example/gridpost/gridpost/store/State" (22 : Nat) "com/example/gridpost/gridpost/store/State" "ABORTED" "Lcom/example/gridpost/gridpost/store/State;").before a0 Z = true := hw _ (List.mem_of_getElem? (i := 25) rfl)
theorem own_idx (x : Int32) : (x &&& (2147483647 : Int32)) % (7 : Int32) = 0 ∨ (x &&& (2147483647 : Int32)) % (7 : Int32) = 1 ∨ (x &&& (2147483647 : Int32)) % (7 : Int32) = 2 ∨ (x &&& (2147483647 : Int32)) % (7 : Int32) = 3 ∨ (x &&& (2147483647 : Int32)) % (7 : Int32) = 4 ∨ (x &&& (2147483647 : Int32)) % (7 : Int32) = 5 ∨ (x &&& (2147483647 : Int32)) % (7 : Int32) = 6 := by
  have e1 : (x &&& (2147483647 : Int32)).toInt = x.toInt % 2 ^ 31 := Jvm.Kit.i32_mask x 2147483647 (by decide) (by decide)
  have e2 : ((x &&& (2147483647 : Int32)) % (7 : Int32)).toInt = (x &&& (2147483647 : Int32)).toInt % 7 := Jvm.Kit.i32_rem_nonneg (by omega)
  simp only [← Int32.toInt_inj]
  rw [e2]
  have h1 : (x &&& (2147483647 : Int32)).toInt % 7 < 7 := by omega
  have h2 : 0 ≤ (x &&& (2147483647 : Int32)).toInt % 7 := by omega
  generalize (x &&& (2147483647 : Int32)).toInt % 7 = z at *
  have g0 : (0 : Int32).toInt = 0 := rfl
  have g1 : (1 : Int32).toInt = 1 := rfl
  have g2 : (2 : Int32).toInt = 2 := rfl
  have g3 : (3 : Int32).toInt = 3 := rfl
  have g4 : (4 : Int32).toInt = 4 := rfl
  have g5 : (5 : Int32).toInt = 5 := rfl
  have g6 : (6 : Int32).toInt = 6 := rfl
  rw [g0, g1, g2, g3, g4, g5, g6]
  omega
def Q_rm1 (a1 w5 w6 : Addr) (h0 : Heap) (n0 : Nat) (v : Option Value) (h : Heap) (L : List Loc) : Prop := v = some (.int (if a1 = w5 ∨ a1 = w6 then 1 else 0)) ∧ Fr n0 L ∧ h = h0
set_option maxRecDepth 65536 in
set_option maxHeartbeats 40000000 in
theorem rm1 (l : Launch) (Z : State) (a0 : Array Value) (hw : ∀ d ∈ tables_1, d.before a0 Z = true) (a1 w5 w6 : Addr) (h0 : Heap) (n0 : Nat) (OL : Old Z n0 h0) (S5 : Sta Z Z.heap "com/example/gridpost/gridpost/store/State" "FINISHED" "Lcom/example/gridpost/gridpost/store/State;" (.ref w5)) (S6 : Sta Z Z.heap "com/example/gridpost/gridpost/store/State" "ABORTED" "Lcom/example/gridpost/gridpost/store/State;" (.ref w6)) :
    own_Met l Z (⟨"com/example/gridpost/gridpost/store/State", "ended", "()Z"⟩ : MethodName) prog_41_method_5_code 1 (some .boolean) ({ frames := 0, cells := 0, slots := 0, locals := 0 } : Room) #[(.ref a1)] h0 (Q_rm1 a1 w5 w6 h0 n0) := by
  refine own_body (L0 := #[.val (.ref a1)]) (plainFor_of_name (by first | (simp [plainName, overriddenIn]; done) | decide +kernel)) (fun m => by first | (simp [entryFrame, mkF, argsToLocals, Value.category]; done) | rfl) ?_
  intro p e s m below meth c s₁ hx hby hml hZ hown hnm hret hlk X0 e0
  have N0 := Fr.nil n0
  have Z0 : n0 ≤ h0.size := OL.1 ▸ OL.2.1
  show OwnOk p e below _ (s₁.setTop (mkF m 0 #[.val (.ref a1)] []))
  refine own_up (fun t kx => XS.aloadN X0.here hx rfl (hb hby d1_0) rfl rfl kx) ?_
  show OwnOk p e below _ (s₁.setTop (mkF m 1 #[.val (.ref a1)] [(.ref a1)]))
  obtain ⟨T11, X11, e11, st11⟩ := getS2 X0 hx hZ hown (host := "") (Or.inl (wd_24 hw)) Via.refl e0 (S5.ext OL.2) (g := (mkF m 1 #[.val (.ref a1)] [(.ref a1)])) rfl (hb hby d1_1)
  refine own_up st11 ?_
  show OwnOk p e below _ (T11.setTop (mkF m 4 #[.val (.ref a1)] [(.ref w5), (.ref a1)]))
  by_cases hk : a1 = w5
  · refine own_up (fun t kx => Jvm.RoadKit.acmp (g := (mkF m 4 #[.val (.ref a1)] [(.ref w5), (.ref a1)])) X11 hx rfl rfl rfl (pc0 := 4) (pc' := 14) (same := true) rfl (hb hby d1_4) rfl (decide_eq_true (own_ref_eq hk)) (by decide) (by decide) kx) ?_
    show OwnOk p e below _ (T11.setTop (mkF m 14 #[.val (.ref a1)] []))
    refine own_up (fun t kx => XS.iconst X11.here hx rfl (hb hby d1_14) kx) ?_
    show OwnOk p e below _ (T11.setTop (mkF m 15 #[.val (.ref a1)] [(.int (1 : Int32))]))
    refine own_up (fun t kx => XS.goto X11.here hx rfl (pc0 := 15) (pc' := 19) rfl (hb hby d1_15) (by decide) (by decide) kx) ?_
    show OwnOk p e below _ (T11.setTop (mkF m 19 #[.val (.ref a1)] [(.int (1 : Int32))]))
    refine own_retN X11 hx (t := .boolean) (show meth.sig.returnType = some .boolean from hret) (by simp) hlk (hb hby d1_19) (z' := (1 : Int32)) rfl e11 (Nat.le_of_ble_eq_true rfl) (Nat.le_of_ble_eq_true rfl) ?_
    exact ⟨by rw [if_pos (Or.inl hk)], N0, rfl⟩
  · refine own_up (fun t kx => Jvm.RoadKit.acmp (g := (mkF m 4 #[.val (.ref a1)] [(.ref w5), (.ref a1)])) X11 hx rfl rfl rfl (pc0 := 4) (pc' := 7) (same := false) rfl (hb hby d1_4) rfl (decide_eq_false (own_ref_ne hk)) (by decide) (by decide) kx) ?_
    show OwnOk p e below _ (T11.setTop (mkF m 7 #[.val (.ref a1)] []))
    refine own_up (fun t kx => XS.aloadN X11.here hx rfl (hb hby d1_7) rfl rfl kx) ?_
    show OwnOk p e below _ (T11.setTop (mkF m 8 #[.val (.ref a1)] [(.ref a1)]))
    obtain ⟨T12, X12, e12, st12⟩ := getS2 X11 hx hZ hown (host := "") (Or.inl (wd_25 hw)) Via.refl e11 (S6.ext OL.2) (g := (mkF m 8 #[.val (.ref a1)] [(.ref a1)])) rfl (hb hby d1_8)
    refine own_up st12 ?_
    show OwnOk p e below _ (T12.setTop (mkF m 11 #[.val (.ref a1)] [(.ref w6), (.ref a1)]))
    by_cases hm : a1 = w6
    · refine own_up (fun t kx => Jvm.RoadKit.acmp (g := (mkF m 11 #[.val (.ref a1)] [(.ref w6), (.ref a1)])) X12 hx rfl rfl rfl (pc0 := 11) (pc' := 14) (same := true) rfl (hb hby d1_11) rfl (decide_eq_true (own_ref_eq hm)) (by decide) (by decide) kx) ?_
      show OwnOk p e below _ (T12.setTop (mkF m 14 #[.val (.ref a1)] []))
      refine own_up (fun t kx => XS.iconst X12.here hx rfl (hb hby d1_14) kx) ?_
      show OwnOk p e below _ (T12.setTop (mkF m 15 #[.val (.ref a1)] [(.int (1 : Int32))]))
      refine own_up (fun t kx => XS.goto X12.here hx rfl (pc0 := 15) (pc' := 19) rfl (hb hby d1_15) (by decide) (by decide) kx) ?_
      show OwnOk p e below _ (T12.setTop (mkF m 19 #[.val (.ref a1)] [(.int (1 : Int32))]))
      refine own_retN X12 hx (t := .boolean) (show meth.sig.returnType = some .boolean from hret) (by simp) hlk (hb hby d1_19) (z' := (1 : Int32)) rfl e12 (Nat.le_of_ble_eq_true rfl) (Nat.le_of_ble_eq_true rfl) ?_
      exact ⟨by rw [if_pos (Or.inr hm)], N0, rfl⟩
    · refine own_up (fun t kx => Jvm.RoadKit.acmp (g := (mkF m 11 #[.val (.ref a1)] [(.ref w6), (.ref a1)])) X12 hx rfl rfl rfl (pc0 := 11) (pc' := 18) (same := false) rfl (hb hby d1_11) rfl (decide_eq_false (own_ref_ne hm)) (by decide) (by decide) kx) ?_
      show OwnOk p e below _ (T12.setTop (mkF m 18 #[.val (.ref a1)] []))
      refine own_up (fun t kx => XS.iconst X12.here hx rfl (hb hby d1_18) kx) ?_
      show OwnOk p e below _ (T12.setTop (mkF m 19 #[.val (.ref a1)] [(.int (0 : Int32))]))
      refine own_retN X12 hx (t := .boolean) (show meth.sig.returnType = some .boolean from hret) (by simp) hlk (hb hby d1_19) (z' := (0 : Int32)) rfl e12 (Nat.le_of_ble_eq_true rfl) (Nat.le_of_ble_eq_true rfl) ?_
      exact ⟨by rw [if_neg (not_or.mpr ⟨hk, hm⟩)], N0, rfl⟩
def Q_rm0 (n0 : Nat) (v : Option Value) (h : Heap) (L : List Loc) : Prop := v = some (.int 1) ∧ Fr n0 L
set_option maxRecDepth 65536 in
set_option maxHeartbeats 40000000 in
theorem rm0 (l : Launch) (Z : State) (a0 : Array Value) (hw : ∀ d ∈ tables_1, d.before a0 Z = true) (p1 : Int32) (w0 w1 w2 w3 w4 w5 w6 : Addr) (h0 : Heap) (n0 : Nat) (OL : Old Z n0 h0) (S0 : Sta Z Z.heap "com/example/gridpost/gridpost/store/State" "NEW" "Lcom/example/gridpost/gridpost/store/State;" (.ref w0)) (S1 : Sta Z Z.heap "com/example/gridpost/gridpost/store/State" "PENDING" "Lcom/example/gridpost/gridpost/store/State;" (.ref w1)) (S2 : Sta Z Z.heap "com/example/gridpost/gridpost/store/State" "QUEUED" "Lcom/example/gridpost/gridpost/store/State;" (.ref w2)) (S3 : Sta Z Z.heap "com/example/gridpost/gridpost/store/State" "RUNNING" "Lcom/example/gridpost/gridpost/store/State;" (.ref w3)) (S4 : Sta Z Z.heap "com/example/gridpost/gridpost/store/State" "PAUSED" "Lcom/example/gridpost/gridpost/store/State;" (.ref w4)) (S5 : Sta Z Z.heap "com/example/gridpost/gridpost/store/State" "FINISHED" "Lcom/example/gridpost/gridpost/store/State;" (.ref w5)) (S6 : Sta Z Z.heap "com/example/gridpost/gridpost/store/State" "ABORTED" "Lcom/example/gridpost/gridpost/store/State;" (.ref w6)) (E0 : Exa Z Z.heap w0 "com/example/gridpost/gridpost/store/State") (E1 : Exa Z Z.heap w1 "com/example/gridpost/gridpost/store/State") (E2 : Exa Z Z.heap w2 "com/example/gridpost/gridpost/store/State") (E3 : Exa Z Z.heap w3 "com/example/gridpost/gridpost/store/State") (E4 : Exa Z Z.heap w4 "com/example/gridpost/gridpost/store/State") (E5 : Exa Z Z.heap w5 "com/example/gridpost/gridpost/store/State") (E6 : Exa Z Z.heap w6 "com/example/gridpost/gridpost/store/State") (F0 : Fld Z Z.heap w0 "java/lang/Enum" "ordinal" "I" (.int (0 : Int32))) (F1 : Fld Z Z.heap w1 "java/lang/Enum" "ordinal" "I" (.int (1 : Int32))) (F2 : Fld Z Z.heap w2 "java/lang/Enum" "ordinal" "I" (.int (2 : Int32))) (F3 : Fld Z Z.heap w3 "java/lang/Enum" "ordinal" "I" (.int (3 : Int32))) (F4 : Fld Z Z.heap w4 "java/lang/Enum" "ordinal" "I" (.int (4 : Int32))) (F5 : Fld Z Z.heap w5 "java/lang/Enum" "ordinal" "I" (.int (5 : Int32))) (F6 : Fld Z Z.heap w6 "java/lang/Enum" "ordinal" "I" (.int (6 : Int32))) :
    own_Met l Z x code maxLocals ret room_1 #[(.int p1)] h0 (Q_rm0 n0) := by
  refine own_body (L0 := #[.val (.int p1), .unset, .unset, .unset, .unset]) (plainFor_of_name (by first | (simp [plainName, overriddenIn]; done) | decide +kernel)) (fun m => by first | (simp [entryFrame, mkF, argsToLocals, Value.category, maxLocals]; done) | rfl) ?_
  intro p e s m below meth c s₁ hx hby hml hZ hown hnm hret hlk X0 e0
  have hml : c.maxLocals = 5 := hml
  have N0 := Fr.nil n0
  have Z0 : n0 ≤ h0.size := OL.1 ▸ OL.2.1
  show OwnOk p e below _ (s₁.setTop (mkF m 0 #[.val (.int p1), .unset, .unset, .unset, .unset] []))
  refine own_up (fun t kx => XS.bipush X0.here hx rfl (hb hby at_0) kx) ?_
  show OwnOk p e below _ (s₁.setTop (mkF m 2 #[.val (.int p1), .unset, .unset, .unset, .unset] [(.int (7 : Int32))]))
  obtain ⟨T11, h11, k11, X11, e11, E11, A11, O11, st11⟩ := newR X0 hx hZ hown (wd_0 hw) (wd_1 hw) e0 (g := (mkF m 2 #[.val (.int p1), .unset, .unset, .unset, .unset] [(.int (7 : Int32))])) rfl (hb hby at_2) rfl (by decide) (cap := 7) (by decide) (by decide) (by decide) (by decide)
  obtain ⟨b11, g11⟩ : ∃ z, z = h0.size := ⟨_, rfl⟩
  rw [← g11] at A11 st11
  have sz_b11 : h0.size ≤ b11 := Nat.le_of_eq g11.symm
  have n0_b11 : n0 ≤ b11 := Nat.le_trans (own_n0 OL) sz_b11
  have V_b11 : Arv Z h11 b11 k11 (.object "com/example/gridpost/gridpost/store/State") (7 : Int32) [.null, .null, .null, .null, .null, .null, .null] .null := (Arv.new A11 (by decide)).pad (pad_rep [] .null 7)
  have OL13 := OL.ext E11
  refine own_up st11 ?_
  show OwnOk p e below _ (T11.setTop (mkF m 5 #[.val (.int p1), .unset, .unset, .unset, .unset] [(.ref b11)]))
  refine own_up (fun t kx => XS.dup X11.here hx rfl (hb hby at_5) rfl rfl kx) ?_
  show OwnOk p e below _ (T11.setTop (mkF m 6 #[.val (.int p1), .unset, .unset, .unset, .unset] [(.ref b11), (.ref b11)]))
  refine own_up (fun t kx => XS.iconst X11.here hx rfl (hb hby at_6) kx) ?_
  show OwnOk p e below _ (T11.setTop (mkF m 7 #[.val (.int p1), .unset, .unset, .unset, .unset] [(.int (0 : Int32)), (.ref b11), (.ref b11)]))
  obtain ⟨T14, X14, e14, st14⟩ := getS2 X11 hx hZ hown (host := "") (Or.inl (wd_2 hw)) Via.refl e11 (S0.ext OL13.2) (g := (mkF m 7 #[.val (.int p1), .unset, .unset, .unset, .unset] [(.int (0 : Int32)), (.ref b11), (.ref b11)])) rfl (hb hby at_7)
  refine own_up st14 ?_
  show OwnOk p e below _ (T14.setTop (mkF m 10 #[.val (.int p1), .unset, .unset, .unset, .unset] [(.ref w0), (.int (0 : Int32)), (.ref b11), (.ref b11)]))
  obtain ⟨cl15, Ar15, qc15, Sz15, Nn15, Hs15, Gf15⟩ := V_b11
  have hin15 : ¬ ((0 : Int32) < 0 ∨ cl15.slots.size ≤ ((0 : Int32)).toNatClampNeg) := inb_of Sz15 ⟨by decide, by decide⟩
  obtain ⟨T16, h16, X16, e16, W16, st16⟩ := stR X14 hx hZ e14 Ar15 (j := (0 : Int32)) hin15 rfl (Sto.ofV Ar15 qc15 O11 (Ins.self (E0.ext OL13.2))) (g := (mkF m 10 #[.val (.int p1), .unset, .unset, .unset, .unset] [(.ref w0), (.int (0 : Int32)), (.ref b11), (.ref b11)])) rfl rfl (hb hby at_10)
  have V_b11_16 : Arv Z h16 b11 k11 (.object "com/example/gridpost/gridpost/store/State") (7 : Int32) [(.ref w0), .null, .null, .null, .null, .null, .null] .null := Arv.set Ar15 qc15 Sz15 Nn15 Hs15 Gf15 rfl W16 0 rfl (Nat.le_of_ble_eq_true rfl)
  have N16 := Fr.snoc X16 N0 n0_b11
  have OL17 := OL13.wr W16 n0_b11
  refine own_up st16 ?_
  show OwnOk p e below _ (T16.setTop (mkF m 11 #[.val (.int p1), .unset, .unset, .unset, .unset] [(.ref b11)]))
  refine own_up (fun t kx => XS.dup X16.here hx rfl (hb hby at_11) rfl rfl kx) ?_
  show OwnOk p e below _ (T16.setTop (mkF m 12 #[.val (.int p1), .unset, .unset, .unset, .unset] [(.ref b11), (.ref b11)]))
  refine own_up (fun t kx => XS.iconst X16.here hx rfl (hb hby at_12) kx) ?_
  show OwnOk p e below _ (T16.setTop (mkF m 13 #[.val (.int p1), .unset, .unset, .unset, .unset] [(.int (1 : Int32)), (.ref b11), (.ref b11)]))
  obtain ⟨T18, X18, e18, st18⟩ := getS2 X16 hx hZ hown (host := "") (Or.inl (wd_6 hw)) Via.refl e16 (S1.ext OL17.2) (g := (mkF m 13 #[.val (.int p1), .unset, .unset, .unset, .unset] [(.int (1 : Int32)), (.ref b11), (.ref b11)])) rfl (hb hby at_13)
  refine own_up st18 ?_
  show OwnOk p e below _ (T18.setTop (mkF m 16 #[.val (.int p1), .unset, .unset, .unset, .unset] [(.ref w1), (.int (1 : Int32)), (.ref b11), (.ref b11)]))
  obtain ⟨cl19, Ar19, qc19, Sz19, Nn19, Hs19, Gf19⟩ := V_b11_16
  have hin19 : ¬ ((1 : Int32) < 0 ∨ cl19.slots.size ≤ ((1 : Int32)).toNatClampNeg) := inb_of Sz19 ⟨by decide, by decide⟩
  obtain ⟨T20, h20, X20, e20, W20, st20⟩ := stR X18 hx hZ e18 Ar19 (j := (1 : Int32)) hin19 rfl (Sto.ofV Ar19 qc19 O11 (Ins.self (E1.ext OL17.2))) (g := (mkF m 16 #[.val (.int p1), .unset, .unset, .unset, .unset] [(.ref w1), (.int (1 : Int32)), (.ref b11), (.ref b11)])) rfl rfl (hb hby at_16)
  have V_b11_20 : Arv Z h20 b11 k11 (.object "com/example/gridpost/gridpost/store/State") (7 : Int32) [(.ref w0), (.ref w1), .null, .null, .null, .null, .null] .null := Arv.set Ar19 qc19 Sz19 Nn19 Hs19 Gf19 rfl W20 1 rfl (Nat.le_of_ble_eq_true rfl)
  have N20 := Fr.snoc X20 N16 n0_b11
  have OL21 := OL17.wr W20 n0_b11
  refine own_up st20 ?_
  show OwnOk p e below _ (T20.setTop (mkF m 17 #[.val (.int p1), .unset, .unset, .unset, .unset] [(.ref b11)]))
  refine own_up (fun t kx => XS.dup X20.here hx rfl (hb hby at_17) rfl rfl kx) ?_
  show OwnOk p e below _ (T20.setTop (mkF m 18 #[.val (.int p1), .unset, .unset, .unset, .unset] [(.ref b11), (.ref b11)]))
  refine own_up (fun t kx => XS.iconst X20.here hx rfl (hb hby at_18) kx) ?_
  show OwnOk p e below _ (T20.setTop (mkF m 19 #[.val (.int p1), .unset, .unset, .unset, .unset] [(.int (2 : Int32)), (.ref b11), (.ref b11)]))
  obtain ⟨T22, X22, e22, st22⟩ := getS2 X20 hx hZ hown (host := "") (Or.inl (wd_8 hw)) Via.refl e20 (S2.ext OL21.2) (g := (mkF m 19 #[.val (.int p1), .unset, .unset, .unset, .unset] [(.int (2 : Int32)), (.ref b11), (.ref b11)])) rfl (hb hby at_19)
  refine own_up st22 ?_
  show OwnOk p e below _ (T22.setTop (mkF m 22 #[.val (.int p1), .unset, .unset, .unset, .unset] [(.ref w2), (.int (2 : Int32)), (.ref b11), (.ref b11)]))
  obtain ⟨cl23, Ar23, qc23, Sz23, Nn23, Hs23, Gf23⟩ := V_b11_20
  have hin23 : ¬ ((2 : Int32) < 0 ∨ cl23.slots.size ≤ ((2 : Int32)).toNatClampNeg) := inb_of Sz23 ⟨by decide, by decide⟩
  obtain ⟨T24, h24, X24, e24, W24, st24⟩ := stR X22 hx hZ e22 Ar23 (j := (2 : Int32)) hin23 rfl (Sto.ofV Ar23 qc23 O11 (Ins.self (E2.ext OL21.2))) (g := (mkF m 22 #[.val (.int p1), .unset, .unset, .unset, .unset] [(.ref w2), (.int (2 : Int32)), (.ref b11), (.ref b11)])) rfl rfl (hb hby at_22)
  have V_b11_24 : Arv Z h24 b11 k11 (.object "com/example/gridpost/gridpost/store/State") (7 : Int32) [(.ref w0), (.ref w1), (.ref w2), .null, .null, .null, .null] .null := Arv.set Ar23 qc23 Sz23 Nn23 Hs23 Gf23 rfl W24 2 rfl (Nat.le_of_ble_eq_true rfl)
  have N24 := Fr.snoc X24 N20 n0_b11
  have OL25 := OL21.wr W24 n0_b11
  refine own_up st24 ?_
  show OwnOk p e below _ (T24.setTop (mkF m 23 #[.val (.int p1), .unset, .unset, .unset, .unset] [(.ref b11)]))
  refine own_up (fun t kx => XS.dup X24.here hx rfl (hb hby at_23) rfl rfl kx) ?_
  show OwnOk p e below _ (T24.setTop (mkF m 24 #[.val (.int p1), .unset, .unset, .unset, .unset] [(.ref b11), (.ref b11)]))
  refine own_up (fun t kx => XS.iconst X24.here hx rfl (hb hby at_24) kx) ?_
  show OwnOk p e below _ (T24.setTop (mkF m 25 #[.val (.int p1), .unset, .unset, .unset, .unset] [(.int (3 : Int32)), (.ref b11), (.ref b11)]))
  obtain ⟨T26, X26, e26, st26⟩ := getS2 X24 hx hZ hown (host := "") (Or.inl (wd_10 hw)) Via.refl e24 (S3.ext OL25.2) (g := (mkF m 25 #[.val (.int p1), .unset, .unset, .unset, .unset] [(.int (3 : Int32)), (.ref b11), (.ref b11)])) rfl (hb hby at_25)
  refine own_up st26 ?_
  show OwnOk p e below _ (T26.setTop (mkF m 28 #[.val (.int p1), .unset, .unset, .unset, .unset] [(.ref w3), (.int (3 : Int32)), (.ref b11), (.ref b11)]))
  obtain ⟨cl27, Ar27, qc27, Sz27, Nn27, Hs27, Gf27⟩ := V_b11_24
  have hin27 : ¬ ((3 : Int32) < 0 ∨ cl27.slots.size ≤ ((3 : Int32)).toNatClampNeg) := inb_of Sz27 ⟨by decide, by decide⟩
  obtain ⟨T28, h28, X28, e28, W28, st28⟩ := stR X26 hx hZ e26 Ar27 (j := (3 : Int32)) hin27 rfl (Sto.ofV Ar27 qc27 O11 (Ins.self (E3.ext OL25.2))) (g := (mkF m 28 #[.val (.int p1), .unset, .unset, .unset, .unset] [(.ref w3), (.int (3 : Int32)), (.ref b11), (.ref b11)])) rfl rfl (hb hby at_28)
  have V_b11_28 : Arv Z h28 b11 k11 (.object "com/example/gridpost/gridpost/store/State") (7 : Int32) [(.ref w0), (.ref w1), (.ref w2), (.ref w3), .null, .null, .null] .null := Arv.set Ar27 qc27 Sz27 Nn27 Hs27 Gf27 rfl W28 3 rfl (Nat.le_of_ble_eq_true rfl)
  have N28 := Fr.snoc X28 N24 n0_b11
  have OL29 := OL25.wr W28 n0_b11
  refine own_up st28 ?_
  show OwnOk p e below _ (T28.setTop (mkF m 29 #[.val (.int p1), .unset, .unset, .unset, .unset] [(.ref b11)]))
  refine own_up (fun t kx => XS.dup X28.here hx rfl (hb hby at_29) rfl rfl kx) ?_
  show OwnOk p e below _ (T28.setTop (mkF m 30 #[.val (.int p1), .unset, .unset, .unset, .unset] [(.ref b11), (.ref b11)]))
  refine own_up (fun t kx => XS.iconst X28.here hx rfl (hb hby at_30) kx) ?_
  show OwnOk p e below _ (T28.setTop (mkF m 31 #[.val (.int p1), .unset, .unset, .unset, .unset] [(.int (4 : Int32)), (.ref b11), (.ref b11)]))
  obtain ⟨T30, X30, e30, st30⟩ := getS2 X28 hx hZ hown (host := "") (Or.inl (wd_12 hw)) Via.refl e28 (S4.ext OL29.2) (g := (mkF m 31 #[.val (.int p1), .unset, .unset, .unset, .unset] [(.int (4 : Int32)), (.ref b11), (.ref b11)])) rfl (hb hby at_31)
  refine own_up st30 ?_
  show OwnOk p e below _ (T30.setTop (mkF m 34 #[.val (.int p1), .unset, .unset, .unset, .unset] [(.ref w4), (.int (4 : Int32)), (.ref b11), (.ref b11)]))
  obtain ⟨cl31, Ar31, qc31, Sz31, Nn31, Hs31, Gf31⟩ := V_b11_28
  have hin31 : ¬ ((4 : Int32) < 0 ∨ cl31.slots.size ≤ ((4 : Int32)).toNatClampNeg) := inb_of Sz31 ⟨by decide, by decide⟩
  obtain ⟨T32, h32, X32, e32, W32, st32⟩ := stR X30 hx hZ e30 Ar31 (j := (4 : Int32)) hin31 rfl (Sto.ofV Ar31 qc31 O11 (Ins.self (E4.ext OL29.2))) (g := (mkF m 34 #[.val (.int p1), .unset, .unset, .unset, .unset] [(.ref w4), (.int (4 : Int32)), (.ref b11), (.ref b11)])) rfl rfl (hb hby at_34)
  have V_b11_32 : Arv Z h32 b11 k11 (.object "com/example/gridpost/gridpost/store/State") (7 : Int32) [(.ref w0), (.ref w1), (.ref w2), (.ref w3), (.ref w4), .null, .null] .null := Arv.set Ar31 qc31 Sz31 Nn31 Hs31 Gf31 rfl W32 4 rfl (Nat.le_of_ble_eq_true rfl)
  have N32 := Fr.snoc X32 N28 n0_b11
  have OL33 := OL29.wr W32 n0_b11
  refine own_up st32 ?_
  show OwnOk p e below _ (T32.setTop (mkF m 35 #[.val (.int p1), .unset, .unset, .unset, .unset] [(.ref b11)]))
  refine own_up (fun t kx => XS.dup X32.here hx rfl (hb hby at_35) rfl rfl kx) ?_
  show OwnOk p e below _ (T32.setTop (mkF m 36 #[.val (.int p1), .unset, .unset, .unset, .unset] [(.ref b11), (.ref b11)]))
  refine own_up (fun t kx => XS.iconst X32.here hx rfl (hb hby at_36) kx) ?_
  show OwnOk p e below _ (T32.setTop (mkF m 37 #[.val (.int p1), .unset, .unset, .unset, .unset] [(.int (5 : Int32)), (.ref b11), (.ref b11)]))
  obtain ⟨T34, X34, e34, st34⟩ := getS2 X32 hx hZ hown (host := "") (Or.inl (wd_14 hw)) Via.refl e32 (S5.ext OL33.2) (g := (mkF m 37 #[.val (.int p1), .unset, .unset, .unset, .unset] [(.int (5 : Int32)), (.ref b11), (.ref b11)])) rfl (hb hby at_37)
  refine own_up st34 ?_
  show OwnOk p e below _ (T34.setTop (mkF m 40 #[.val (.int p1), .unset, .unset, .unset, .unset] [(.ref w5), (.int (5 : Int32)), (.ref b11), (.ref b11)]))
  obtain ⟨cl35, Ar35, qc35, Sz35, Nn35, Hs35, Gf35⟩ := V_b11_32
  have hin35 : ¬ ((5 : Int32) < 0 ∨ cl35.slots.size ≤ ((5 : Int32)).toNatClampNeg) := inb_of Sz35 ⟨by decide, by decide⟩
  obtain ⟨T36, h36, X36, e36, W36, st36⟩ := stR X34 hx hZ e34 Ar35 (j := (5 : Int32)) hin35 rfl (Sto.ofV Ar35 qc35 O11 (Ins.self (E5.ext OL33.2))) (g := (mkF m 40 #[.val (.int p1), .unset, .unset, .unset, .unset] [(.ref w5), (.int (5 : Int32)), (.ref b11), (.ref b11)])) rfl rfl (hb hby at_40)
  have V_b11_36 : Arv Z h36 b11 k11 (.object "com/example/gridpost/gridpost/store/State") (7 : Int32) [(.ref w0), (.ref w1), (.ref w2), (.ref w3), (.ref w4), (.ref w5), .null] .null := Arv.set Ar35 qc35 Sz35 Nn35 Hs35 Gf35 rfl W36 5 rfl (Nat.le_of_ble_eq_true rfl)
  have N36 := Fr.snoc X36 N32 n0_b11
  have OL37 := OL33.wr W36 n0_b11
  refine own_up st36 ?_
  show OwnOk p e below _ (T36.setTop (mkF m 41 #[.val (.int p1), .unset, .unset, .unset, .unset] [(.ref b11)]))
  refine own_up (fun t kx => XS.dup X36.here hx rfl (hb hby at_41) rfl rfl kx) ?_
  show OwnOk p e below _ (T36.setTop (mkF m 42 #[.val (.int p1), .unset, .unset, .unset, .unset] [(.ref b11), (.ref b11)]))
  refine own_up (fun t kx => XS.bipush X36.here hx rfl (hb hby at_42) kx) ?_
  show OwnOk p e below _ (T36.setTop (mkF m 44 #[.val (.int p1), .unset, .unset, .unset, .unset] [(.int (6 : Int32)), (.ref b11), (.ref b11)]))
  obtain ⟨T38, X38, e38, st38⟩ := getS2 X36 hx hZ hown (host := "") (Or.inl (wd_16 hw)) Via.refl e36 (S6.ext OL37.2) (g := (mkF m 44 #[.val (.int p1), .unset, .unset, .unset, .unset] [(.int (6 : Int32)), (.ref b11), (.ref b11)])) rfl (hb hby at_44)
  refine own_up st38 ?_
  show OwnOk p e below _ (T38.setTop (mkF m 47 #[.val (.int p1), .unset, .unset, .unset, .unset] [(.ref w6), (.int (6 : Int32)), (.ref b11), (.ref b11)]))
  obtain ⟨cl39, Ar39, qc39, Sz39, Nn39, Hs39, Gf39⟩ := V_b11_36
  have hin39 : ¬ ((6 : Int32) < 0 ∨ cl39.slots.size ≤ ((6 : Int32)).toNatClampNeg) := inb_of Sz39 ⟨by decide, by decide⟩
  obtain ⟨T40, h40, X40, e40, W40, st40⟩ := stR X38 hx hZ e38 Ar39 (j := (6 : Int32)) hin39 rfl (Sto.ofV Ar39 qc39 O11 (Ins.self (E6.ext OL37.2))) (g := (mkF m 47 #[.val (.int p1), .unset, .unset, .unset, .unset] [(.ref w6), (.int (6 : Int32)), (.ref b11), (.ref b11)])) rfl rfl (hb hby at_47)
  have V_b11_40 : Arv Z h40 b11 k11 (.object "com/example/gridpost/gridpost/store/State") (7 : Int32) [(.ref w0), (.ref w1), (.ref w2), (.ref w3), (.ref w4), (.ref w5), (.ref w6)] .null := Arv.set Ar39 qc39 Sz39 Nn39 Hs39 Gf39 rfl W40 6 rfl (Nat.le_of_ble_eq_true rfl)
  have N40 := Fr.snoc X40 N36 n0_b11
  have OL41 := OL37.wr W40 n0_b11
  refine own_up st40 ?_
  show OwnOk p e below _ (T40.setTop (mkF m 48 #[.val (.int p1), .unset, .unset, .unset, .unset] [(.ref b11)]))
  refine own_up (fun t kx => XS.astoreN X40.here hx rfl (hb hby at_48) rfl rfl (l' := #[.val (.int p1), .val (.ref b11), .unset, .unset, .unset]) rfl kx) ?_
  show OwnOk p e below _ (T40.setTop (mkF m 49 #[.val (.int p1), .val (.ref b11), .unset, .unset, .unset] []))
  refine own_up (fun t kx => XS.iloadN X40.here hx rfl (hb hby at_49) rfl kx) ?_
  show OwnOk p e below _ (T40.setTop (mkF m 50 #[.val (.int p1), .val (.ref b11), .unset, .unset, .unset] [(.int p1)]))
  refine own_up (fun t kx => X40.ldcInt hx hown (mvT hZ (wd_18 hw)) (g := (mkF m 50 #[.val (.int p1), .val (.ref b11), .unset, .unset, .unset] [(.int p1)])) rfl (hb hby at_50) _ kx) ?_
  show OwnOk p e below _ (T40.setTop (mkF m 52 #[.val (.int p1), .val (.ref b11), .unset, .unset, .unset] [(.int (2147483647 : Int32)), (.int p1)]))
  refine own_up (fun t kx => XS.iand X40.here hx rfl (hb hby at_52) rfl kx) ?_
  show OwnOk p e below _ (T40.setTop (mkF m 53 #[.val (.int p1), .val (.ref b11), .unset, .unset, .unset] [(.int (p1 &&& (2147483647 : Int32)))]))
  refine own_up (fun t kx => XS.bipush X40.here hx rfl (hb hby at_53) kx) ?_
  show OwnOk p e below _ (T40.setTop (mkF m 55 #[.val (.int p1), .val (.ref b11), .unset, .unset, .unset] [(.int (7 : Int32)), (.int (p1 &&& (2147483647 : Int32)))]))
  refine own_up (fun t kx => Jvm.RoadKit.iremM (g := (mkF m 55 #[.val (.int p1), .val (.ref b11), .unset, .unset, .unset] [(.int (7 : Int32)), (.int (p1 &&& (2147483647 : Int32)))])) X40 hx rfl (hb hby at_55) rfl (by decide) kx) ?_
  show OwnOk p e below _ (T40.setTop (mkF m 56 #[.val (.int p1), .val (.ref b11), .unset, .unset, .unset] [(.int ((p1 &&& (2147483647 : Int32)) % (7 : Int32)))]))
  refine own_up (fun t kx => XS.istoreN X40.here hx rfl (hb hby at_56) rfl (l' := #[.val (.int p1), .val (.ref b11), .val (.int ((p1 &&& (2147483647 : Int32)) % (7 : Int32))), .unset, .unset]) rfl kx) ?_
  show OwnOk p e below _ (T40.setTop (mkF m 57 #[.val (.int p1), .val (.ref b11), .val (.int ((p1 &&& (2147483647 : Int32)) % (7 : Int32))), .unset, .unset] []))
  generalize hix : ((p1 &&& (2147483647 : Int32)) % (7 : Int32)) = ix
  show OwnOk p e below _ (T40.setTop (mkF m 57 #[.val (.int p1), .val (.ref b11), .val (.int ix), .unset, .unset] []))
  have hcase : ix = 0 ∨ ix = 1 ∨ ix = 2 ∨ ix = 3 ∨ ix = 4 ∨ ix = 5 ∨ ix = 6 := hix ▸ own_idx p1
  rcases hcase with hh | hh | hh | hh | hh | hh | hh
  · rw [hh]
    show OwnOk p e below _ (T40.setTop (mkF m 57 #[.val (.int p1), .val (.ref b11), .val (.int (0 : Int32)), .unset, .unset] []))
    refine own_up (fun t kx => XS.aloadN X40.here hx rfl (hb hby at_57) rfl rfl kx) ?_
    show OwnOk p e below _ (T40.setTop (mkF m 58 #[.val (.int p1), .val (.ref b11), .val (.int (0 : Int32)), .unset, .unset] [(.ref b11)]))
    refine own_up (fun t kx => XS.iloadN X40.here hx rfl (hb hby at_58) rfl kx) ?_
    show OwnOk p e below _ (T40.setTop (mkF m 59 #[.val (.int p1), .val (.ref b11), .val (.int (0 : Int32)), .unset, .unset] [(.int (0 : Int32)), (.ref b11)]))
    obtain ⟨cl42, Ar42, qc42, Sz42, Nn42, Hs42, Gf42⟩ := V_b11_40
    have hin42 : ¬ ((0 : Int32) < 0 ∨ cl42.slots.size ≤ ((0 : Int32)).toNatClampNeg) := inb_of Sz42 ⟨by decide, by decide⟩
    have hat42 : cl42.slots[((0 : Int32)).toNatClampNeg]? = some (.ref w0) := Hs42.at hin42 rfl
    refine own_up (fun t kx => X40.aaload hx (j := (0 : Int32)) (v := (.ref w0)) (by rw [e40]; exact Ar42.1) (State.isArrayOf_alike hZ.alike Ar42.2.1) rfl Ar42.2.2 hin42 hat42 (g := (mkF m 59 #[.val (.int p1), .val (.ref b11), .val (.int (0 : Int32)), .unset, .unset] [(.int (0 : Int32)), (.ref b11)])) rfl rfl (hb hby at_59) _ kx) ?_
    show OwnOk p e below _ (T40.setTop (mkF m 60 #[.val (.int p1), .val (.ref b11), .val (.int (0 : Int32)), .unset, .unset] [(.ref w0)]))
    refine own_up (fun t kx => XS.astoreN X40.here hx rfl (hb hby at_60) rfl rfl (l' := #[.val (.int p1), .val (.ref b11), .val (.int (0 : Int32)), .val (.ref w0), .unset]) rfl kx) ?_
    show OwnOk p e below _ (T40.setTop (mkF m 61 #[.val (.int p1), .val (.ref b11), .val (.int (0 : Int32)), .val (.ref w0), .unset] []))
    refine own_up (fun t kx => XS.iloadN X40.here hx rfl (hb hby at_61) rfl kx) ?_
    show OwnOk p e below _ (T40.setTop (mkF m 62 #[.val (.int p1), .val (.ref b11), .val (.int (0 : Int32)), .val (.ref w0), .unset] [(.int (0 : Int32))]))
    refine own_up (fun t kx => XS.iconst X40.here hx rfl (hb hby at_62) kx) ?_
    show OwnOk p e below _ (T40.setTop (mkF m 63 #[.val (.int p1), .val (.ref b11), .val (.int (0 : Int32)), .val (.ref w0), .unset] [(.int (5 : Int32)), (.int (0 : Int32))]))
    refine own_up (fun t kx => XS.icmpNo X40.here hx rfl (hb hby at_63) rfl (feq (by decide)).1 kx) ?_
    show OwnOk p e below _ (T40.setTop (mkF m 66 #[.val (.int p1), .val (.ref b11), .val (.int (0 : Int32)), .val (.ref w0), .unset] []))
    refine own_up (fun t kx => XS.iloadN X40.here hx rfl (hb hby at_66) rfl kx) ?_
    show OwnOk p e below _ (T40.setTop (mkF m 67 #[.val (.int p1), .val (.ref b11), .val (.int (0 : Int32)), .val (.ref w0), .unset] [(.int (0 : Int32))]))
    refine own_up (fun t kx => XS.bipush X40.here hx rfl (hb hby at_67) kx) ?_
    show OwnOk p e below _ (T40.setTop (mkF m 69 #[.val (.int p1), .val (.ref b11), .val (.int (0 : Int32)), .val (.ref w0), .unset] [(.int (6 : Int32)), (.int (0 : Int32))]))
    refine own_up (fun t kx => XS.icmpYes X40.here hx rfl (pc0 := 69) (pc' := 76) rfl (hb hby at_69) rfl (feq (by decide)).2 (by decide) (by decide) kx) ?_
    show OwnOk p e below _ (T40.setTop (mkF m 76 #[.val (.int p1), .val (.ref b11), .val (.int (0 : Int32)), .val (.ref w0), .unset] []))
    refine own_up (fun t kx => XS.iconst X40.here hx rfl (hb hby at_76) kx) ?_
    show OwnOk p e below _ (T40.setTop (mkF m 77 #[.val (.int p1), .val (.ref b11), .val (.int (0 : Int32)), .val (.ref w0), .unset] [(.int (0 : Int32))]))
    refine own_up (fun t kx => XS.istore X40.here hx rfl (hb hby at_77) rfl (l' := #[.val (.int p1), .val (.ref b11), .val (.int (0 : Int32)), .val (.ref w0), .val (.int (0 : Int32))]) rfl kx) ?_
    show OwnOk p e below _ (T40.setTop (mkF m 79 #[.val (.int p1), .val (.ref b11), .val (.int (0 : Int32)), .val (.ref w0), .val (.int (0 : Int32))] []))
    refine own_up (fun t kx => XS.aloadN X40.here hx rfl (hb hby at_79) rfl rfl kx) ?_
    show OwnOk p e below _ (T40.setTop (mkF m 80 #[.val (.int p1), .val (.ref b11), .val (.int (0 : Int32)), .val (.ref w0), .val (.int (0 : Int32))] [(.ref w0)]))
    refine own_callV X40 hx hZ (y := (⟨"com/example/gridpost/gridpost/store/State", "ended", "()Z"⟩ : MethodName)) (z := (⟨"com/example/gridpost/gridpost/store/State", "ended", "()Z"⟩ : MethodName)) hown (wd_19 hw) (wd_20 hw) (notFace_of_selects (args := #[]) (mvT hZ (wd_22 hw))) (wd_22 hw) (wd_21 hw) (wd_3 hw) (wd_23 hw) (by decide) (rm1 l Z a0 hw w0 w5 w6 h40 n0 OL41 S5 S6) e40 (argsL := []) (rest := []) (E0.ext OL41.2) (by rw [hml]; rfl) (lenOf pd_0 rfl) rfl rfl (W := 0) rfl (hb hby at_80) (by decide) (by decide) (by decide) (by decide) (fun T43 v43 L43 X43 hQ43 => ?_)
    obtain ⟨rfl, Nq43, hh43⟩ := hQ43
    have N43 := Fr.app N40 Nq43
    show OwnOk p e below _ (T43.setTop (mkF m 83 #[.val (.int p1), .val (.ref b11), .val (.int (0 : Int32)), .val (.ref w0), .val (.int (0 : Int32))] [(.int (if w0 = w5 ∨ w0 = w6 then 1 else 0 : Int32))]))
    refine own_up (fun t kx => XS.iload X43.here hx rfl (hb hby at_83) rfl kx) ?_
    show OwnOk p e below _ (T43.setTop (mkF m 85 #[.val (.int p1), .val (.ref b11), .val (.int (0 : Int32)), .val (.ref w0), .val (.int (0 : Int32))] [(.int (0 : Int32)), (.int (if w0 = w5 ∨ w0 = w6 then 1 else 0 : Int32))]))
    refine own_up (fun t kx => XS.icmpNo X43.here hx rfl (hb hby at_85) rfl (teq (if_neg (not_or.mpr ⟨Fld.ne F0 F5 (by decide), Fld.ne F0 F6 (by decide)⟩))).2 kx) ?_
    show OwnOk p e below _ (T43.setTop (mkF m 88 #[.val (.int p1), .val (.ref b11), .val (.int (0 : Int32)), .val (.ref w0), .val (.int (0 : Int32))] []))
    refine own_up (fun t kx => XS.iconst X43.here hx rfl (hb hby at_88) kx) ?_
    show OwnOk p e below _ (T43.setTop (mkF m 89 #[.val (.int p1), .val (.ref b11), .val (.int (0 : Int32)), .val (.ref w0), .val (.int (0 : Int32))] [(.int (1 : Int32))]))
    refine own_up (fun t kx => XS.goto X43.here hx rfl (pc0 := 89) (pc' := 93) rfl (hb hby at_89) (by decide) (by decide) kx) ?_
    show OwnOk p e below _ (T43.setTop (mkF m 93 #[.val (.int p1), .val (.ref b11), .val (.int (0 : Int32)), .val (.ref w0), .val (.int (0 : Int32))] [(.int (1 : Int32))]))
    refine own_retN X43 hx (t := .boolean) (show meth.sig.returnType = some .boolean from hret) (by simp) hlk (hb hby at_93) (z' := (1 : Int32)) rfl hh43 (Nat.le_of_ble_eq_true rfl) (Nat.le_of_ble_eq_true rfl) ?_
    exact ⟨rfl, N43⟩
  · rw [hh]
    show OwnOk p e below _ (T40.setTop (mkF m 57 #[.val (.int p1), .val (.ref b11), .val (.int (1 : Int32)), .unset, .unset] []))
    refine own_up (fun t kx => XS.aloadN X40.here hx rfl (hb hby at_57) rfl rfl kx) ?_
    show OwnOk p e below _ (T40.setTop (mkF m 58 #[.val (.int p1), .val (.ref b11), .val (.int (1 : Int32)), .unset, .unset] [(.ref b11)]))
    refine own_up (fun t kx => XS.iloadN X40.here hx rfl (hb hby at_58) rfl kx) ?_
    show OwnOk p e below _ (T40.setTop (mkF m 59 #[.val (.int p1), .val (.ref b11), .val (.int (1 : Int32)), .unset, .unset] [(.int (1 : Int32)), (.ref b11)]))
    obtain ⟨cl44, Ar44, qc44, Sz44, Nn44, Hs44, Gf44⟩ := V_b11_40
    have hin44 : ¬ ((1 : Int32) < 0 ∨ cl44.slots.size ≤ ((1 : Int32)).toNatClampNeg) := inb_of Sz44 ⟨by decide, by decide⟩
    have hat44 : cl44.slots[((1 : Int32)).toNatClampNeg]? = some (.ref w1) := Hs44.at hin44 rfl
    refine own_up (fun t kx => X40.aaload hx (j := (1 : Int32)) (v := (.ref w1)) (by rw [e40]; exact Ar44.1) (State.isArrayOf_alike hZ.alike Ar44.2.1) rfl Ar44.2.2 hin44 hat44 (g := (mkF m 59 #[.val (.int p1), .val (.ref b11), .val (.int (1 : Int32)), .unset, .unset] [(.int (1 : Int32)), (.ref b11)])) rfl rfl (hb hby at_59) _ kx) ?_
    show OwnOk p e below _ (T40.setTop (mkF m 60 #[.val (.int p1), .val (.ref b11), .val (.int (1 : Int32)), .unset, .unset] [(.ref w1)]))
    refine own_up (fun t kx => XS.astoreN X40.here hx rfl (hb hby at_60) rfl rfl (l' := #[.val (.int p1), .val (.ref b11), .val (.int (1 : Int32)), .val (.ref w1), .unset]) rfl kx) ?_
    show OwnOk p e below _ (T40.setTop (mkF m 61 #[.val (.int p1), .val (.ref b11), .val (.int (1 : Int32)), .val (.ref w1), .unset] []))
    refine own_up (fun t kx => XS.iloadN X40.here hx rfl (hb hby at_61) rfl kx) ?_
    show OwnOk p e below _ (T40.setTop (mkF m 62 #[.val (.int p1), .val (.ref b11), .val (.int (1 : Int32)), .val (.ref w1), .unset] [(.int (1 : Int32))]))
    refine own_up (fun t kx => XS.iconst X40.here hx rfl (hb hby at_62) kx) ?_
    show OwnOk p e below _ (T40.setTop (mkF m 63 #[.val (.int p1), .val (.ref b11), .val (.int (1 : Int32)), .val (.ref w1), .unset] [(.int (5 : Int32)), (.int (1 : Int32))]))
    refine own_up (fun t kx => XS.icmpNo X40.here hx rfl (hb hby at_63) rfl (feq (by decide)).1 kx) ?_
    show OwnOk p e below _ (T40.setTop (mkF m 66 #[.val (.int p1), .val (.ref b11), .val (.int (1 : Int32)), .val (.ref w1), .unset] []))
    refine own_up (fun t kx => XS.iloadN X40.here hx rfl (hb hby at_66) rfl kx) ?_
    show OwnOk p e below _ (T40.setTop (mkF m 67 #[.val (.int p1), .val (.ref b11), .val (.int (1 : Int32)), .val (.ref w1), .unset] [(.int (1 : Int32))]))
    refine own_up (fun t kx => XS.bipush X40.here hx rfl (hb hby at_67) kx) ?_
    show OwnOk p e below _ (T40.setTop (mkF m 69 #[.val (.int p1), .val (.ref b11), .val (.int (1 : Int32)), .val (.ref w1), .unset] [(.int (6 : Int32)), (.int (1 : Int32))]))
    refine own_up (fun t kx => XS.icmpYes X40.here hx rfl (pc0 := 69) (pc' := 76) rfl (hb hby at_69) rfl (feq (by decide)).2 (by decide) (by decide) kx) ?_
    show OwnOk p e below _ (T40.setTop (mkF m 76 #[.val (.int p1), .val (.ref b11), .val (.int (1 : Int32)), .val (.ref w1), .unset] []))
    refine own_up (fun t kx => XS.iconst X40.here hx rfl (hb hby at_76) kx) ?_
    show OwnOk p e below _ (T40.setTop (mkF m 77 #[.val (.int p1), .val (.ref b11), .val (.int (1 : Int32)), .val (.ref w1), .unset] [(.int (0 : Int32))]))
    refine own_up (fun t kx => XS.istore X40.here hx rfl (hb hby at_77) rfl (l' := #[.val (.int p1), .val (.ref b11), .val (.int (1 : Int32)), .val (.ref w1), .val (.int (0 : Int32))]) rfl kx) ?_
    show OwnOk p e below _ (T40.setTop (mkF m 79 #[.val (.int p1), .val (.ref b11), .val (.int (1 : Int32)), .val (.ref w1), .val (.int (0 : Int32))] []))
    refine own_up (fun t kx => XS.aloadN X40.here hx rfl (hb hby at_79) rfl rfl kx) ?_
    show OwnOk p e below _ (T40.setTop (mkF m 80 #[.val (.int p1), .val (.ref b11), .val (.int (1 : Int32)), .val (.ref w1), .val (.int (0 : Int32))] [(.ref w1)]))
    refine own_callV X40 hx hZ (y := (⟨"com/example/gridpost/gridpost/store/State", "ended", "()Z"⟩ : MethodName)) (z := (⟨"com/example/gridpost/gridpost/store/State", "ended", "()Z"⟩ : MethodName)) hown (wd_19 hw) (wd_20 hw) (notFace_of_selects (args := #[]) (mvT hZ (wd_22 hw))) (wd_22 hw) (wd_21 hw) (wd_3 hw) (wd_23 hw) (by decide) (rm1 l Z a0 hw w1 w5 w6 h40 n0 OL41 S5 S6) e40 (argsL := []) (rest := []) (E1.ext OL41.2) (by rw [hml]; rfl) (lenOf pd_0 rfl) rfl rfl (W := 0) rfl (hb hby at_80) (by decide) (by decide) (by decide) (by decide) (fun T45 v45 L45 X45 hQ45 => ?_)
    obtain ⟨rfl, Nq45, hh45⟩ := hQ45
    have N45 := Fr.app N40 Nq45
    show OwnOk p e below _ (T45.setTop (mkF m 83 #[.val (.int p1), .val (.ref b11), .val (.int (1 : Int32)), .val (.ref w1), .val (.int (0 : Int32))] [(.int (if w1 = w5 ∨ w1 = w6 then 1 else 0 : Int32))]))
    refine own_up (fun t kx => XS.iload X45.here hx rfl (hb hby at_83) rfl kx) ?_
    show OwnOk p e below _ (T45.setTop (mkF m 85 #[.val (.int p1), .val (.ref b11), .val (.int (1 : Int32)), .val (.ref w1), .val (.int (0 : Int32))] [(.int (0 : Int32)), (.int (if w1 = w5 ∨ w1 = w6 then 1 else 0 : Int32))]))
    refine own_up (fun t kx => XS.icmpNo X45.here hx rfl (hb hby at_85) rfl (teq (if_neg (not_or.mpr ⟨Fld.ne F1 F5 (by decide), Fld.ne F1 F6 (by decide)⟩))).2 kx) ?_
    show OwnOk p e below _ (T45.setTop (mkF m 88 #[.val (.int p1), .val (.ref b11), .val (.int (1 : Int32)), .val (.ref w1), .val (.int (0 : Int32))] []))
    refine own_up (fun t kx => XS.iconst X45.here hx rfl (hb hby at_88) kx) ?_
    show OwnOk p e below _ (T45.setTop (mkF m 89 #[.val (.int p1), .val (.ref b11), .val (.int (1 : Int32)), .val (.ref w1), .val (.int (0 : Int32))] [(.int (1 : Int32))]))
    refine own_up (fun t kx => XS.goto X45.here hx rfl (pc0 := 89) (pc' := 93) rfl (hb hby at_89) (by decide) (by decide) kx) ?_
    show OwnOk p e below _ (T45.setTop (mkF m 93 #[.val (.int p1), .val (.ref b11), .val (.int (1 : Int32)), .val (.ref w1), .val (.int (0 : Int32))] [(.int (1 : Int32))]))
    refine own_retN X45 hx (t := .boolean) (show meth.sig.returnType = some .boolean from hret) (by simp) hlk (hb hby at_93) (z' := (1 : Int32)) rfl hh45 (Nat.le_of_ble_eq_true rfl) (Nat.le_of_ble_eq_true rfl) ?_
    exact ⟨rfl, N45⟩
  · rw [hh]
    show OwnOk p e below _ (T40.setTop (mkF m 57 #[.val (.int p1), .val (.ref b11), .val (.int (2 : Int32)), .unset, .unset] []))
    refine own_up (fun t kx => XS.aloadN X40.here hx rfl (hb hby at_57) rfl rfl kx) ?_
    show OwnOk p e below _ (T40.setTop (mkF m 58 #[.val (.int p1), .val (.ref b11), .val (.int (2 : Int32)), .unset, .unset] [(.ref b11)]))
    refine own_up (fun t kx => XS.iloadN X40.here hx rfl (hb hby at_58) rfl kx) ?_
    show OwnOk p e below _ (T40.setTop (mkF m 59 #[.val (.int p1), .val (.ref b11), .val (.int (2 : Int32)), .unset, .unset] [(.int (2 : Int32)), (.ref b11)]))
    obtain ⟨cl46, Ar46, qc46, Sz46, Nn46, Hs46, Gf46⟩ := V_b11_40
    have hin46 : ¬ ((2 : Int32) < 0 ∨ cl46.slots.size ≤ ((2 : Int32)).toNatClampNeg) := inb_of Sz46 ⟨by decide, by decide⟩
    have hat46 : cl46.slots[((2 : Int32)).toNatClampNeg]? = some (.ref w2) := Hs46.at hin46 rfl
    refine own_up (fun t kx => X40.aaload hx (j := (2 : Int32)) (v := (.ref w2)) (by rw [e40]; exact Ar46.1) (State.isArrayOf_alike hZ.alike Ar46.2.1) rfl Ar46.2.2 hin46 hat46 (g := (mkF m 59 #[.val (.int p1), .val (.ref b11), .val (.int (2 : Int32)), .unset, .unset] [(.int (2 : Int32)), (.ref b11)])) rfl rfl (hb hby at_59) _ kx) ?_
    show OwnOk p e below _ (T40.setTop (mkF m 60 #[.val (.int p1), .val (.ref b11), .val (.int (2 : Int32)), .unset, .unset] [(.ref w2)]))
    refine own_up (fun t kx => XS.astoreN X40.here hx rfl (hb hby at_60) rfl rfl (l' := #[.val (.int p1), .val (.ref b11), .val (.int (2 : Int32)), .val (.ref w2), .unset]) rfl kx) ?_
    show OwnOk p e below _ (T40.setTop (mkF m 61 #[.val (.int p1), .val (.ref b11), .val (.int (2 : Int32)), .val (.ref w2), .unset] []))
    refine own_up (fun t kx => XS.iloadN X40.here hx rfl (hb hby at_61) rfl kx) ?_
    show OwnOk p e below _ (T40.setTop (mkF m 62 #[.val (.int p1), .val (.ref b11), .val (.int (2 : Int32)), .val (.ref w2), .unset] [(.int (2 : Int32))]))
    refine own_up (fun t kx => XS.iconst X40.here hx rfl (hb hby at_62) kx) ?_
    show OwnOk p e below _ (T40.setTop (mkF m 63 #[.val (.int p1), .val (.ref b11), .val (.int (2 : Int32)), .val (.ref w2), .unset] [(.int (5 : Int32)), (.int (2 : Int32))]))
    refine own_up (fun t kx => XS.icmpNo X40.here hx rfl (hb hby at_63) rfl (feq (by decide)).1 kx) ?_
    show OwnOk p e below _ (T40.setTop (mkF m 66 #[.val (.int p1), .val (.ref b11), .val (.int (2 : Int32)), .val (.ref w2), .unset] []))
    refine own_up (fun t kx => XS.iloadN X40.here hx rfl (hb hby at_66) rfl kx) ?_
    show OwnOk p e below _ (T40.setTop (mkF m 67 #[.val (.int p1), .val (.ref b11), .val (.int (2 : Int32)), .val (.ref w2), .unset] [(.int (2 : Int32))]))
    refine own_up (fun t kx => XS.bipush X40.here hx rfl (hb hby at_67) kx) ?_
    show OwnOk p e below _ (T40.setTop (mkF m 69 #[.val (.int p1), .val (.ref b11), .val (.int (2 : Int32)), .val (.ref w2), .unset] [(.int (6 : Int32)), (.int (2 : Int32))]))
    refine own_up (fun t kx => XS.icmpYes X40.here hx rfl (pc0 := 69) (pc' := 76) rfl (hb hby at_69) rfl (feq (by decide)).2 (by decide) (by decide) kx) ?_
    show OwnOk p e below _ (T40.setTop (mkF m 76 #[.val (.int p1), .val (.ref b11), .val (.int (2 : Int32)), .val (.ref w2), .unset] []))
    refine own_up (fun t kx => XS.iconst X40.here hx rfl (hb hby at_76) kx) ?_
    show OwnOk p e below _ (T40.setTop (mkF m 77 #[.val (.int p1), .val (.ref b11), .val (.int (2 : Int32)), .val (.ref w2), .unset] [(.int (0 : Int32))]))
    refine own_up (fun t kx => XS.istore X40.here hx rfl (hb hby at_77) rfl (l' := #[.val (.int p1), .val (.ref b11), .val (.int (2 : Int32)), .val (.ref w2), .val (.int (0 : Int32))]) rfl kx) ?_
    show OwnOk p e below _ (T40.setTop (mkF m 79 #[.val (.int p1), .val (.ref b11), .val (.int (2 : Int32)), .val (.ref w2), .val (.int (0 : Int32))] []))
    refine own_up (fun t kx => XS.aloadN X40.here hx rfl (hb hby at_79) rfl rfl kx) ?_
    show OwnOk p e below _ (T40.setTop (mkF m 80 #[.val (.int p1), .val (.ref b11), .val (.int (2 : Int32)), .val (.ref w2), .val (.int (0 : Int32))] [(.ref w2)]))
    refine own_callV X40 hx hZ (y := (⟨"com/example/gridpost/gridpost/store/State", "ended", "()Z"⟩ : MethodName)) (z := (⟨"com/example/gridpost/gridpost/store/State", "ended", "()Z"⟩ : MethodName)) hown (wd_19 hw) (wd_20 hw) (notFace_of_selects (args := #[]) (mvT hZ (wd_22 hw))) (wd_22 hw) (wd_21 hw) (wd_3 hw) (wd_23 hw) (by decide) (rm1 l Z a0 hw w2 w5 w6 h40 n0 OL41 S5 S6) e40 (argsL := []) (rest := []) (E2.ext OL41.2) (by rw [hml]; rfl) (lenOf pd_0 rfl) rfl rfl (W := 0) rfl (hb hby at_80) (by decide) (by decide) (by decide) (by decide) (fun T47 v47 L47 X47 hQ47 => ?_)
    obtain ⟨rfl, Nq47, hh47⟩ := hQ47
    have N47 := Fr.app N40 Nq47
    show OwnOk p e below _ (T47.setTop (mkF m 83 #[.val (.int p1), .val (.ref b11), .val (.int (2 : Int32)), .val (.ref w2), .val (.int (0 : Int32))] [(.int (if w2 = w5 ∨ w2 = w6 then 1 else 0 : Int32))]))
    refine own_up (fun t kx => XS.iload X47.here hx rfl (hb hby at_83) rfl kx) ?_
    show OwnOk p e below _ (T47.setTop (mkF m 85 #[.val (.int p1), .val (.ref b11), .val (.int (2 : Int32)), .val (.ref w2), .val (.int (0 : Int32))] [(.int (0 : Int32)), (.int (if w2 = w5 ∨ w2 = w6 then 1 else 0 : Int32))]))
    refine own_up (fun t kx => XS.icmpNo X47.here hx rfl (hb hby at_85) rfl (teq (if_neg (not_or.mpr ⟨Fld.ne F2 F5 (by decide), Fld.ne F2 F6 (by decide)⟩))).2 kx) ?_
    show OwnOk p e below _ (T47.setTop (mkF m 88 #[.val (.int p1), .val (.ref b11), .val (.int (2 : Int32)), .val (.ref w2), .val (.int (0 : Int32))] []))
    refine own_up (fun t kx => XS.iconst X47.here hx rfl (hb hby at_88) kx) ?_
    show OwnOk p e below _ (T47.setTop (mkF m 89 #[.val (.int p1), .val (.ref b11), .val (.int (2 : Int32)), .val (.ref w2), .val (.int (0 : Int32))] [(.int (1 : Int32))]))
    refine own_up (fun t kx => XS.goto X47.here hx rfl (pc0 := 89) (pc' := 93) rfl (hb hby at_89) (by decide) (by decide) kx) ?_
    show OwnOk p e below _ (T47.setTop (mkF m 93 #[.val (.int p1), .val (.ref b11), .val (.int (2 : Int32)), .val (.ref w2), .val (.int (0 : Int32))] [(.int (1 : Int32))]))
    refine own_retN X47 hx (t := .boolean) (show meth.sig.returnType = some .boolean from hret) (by simp) hlk (hb hby at_93) (z' := (1 : Int32)) rfl hh47 (Nat.le_of_ble_eq_true rfl) (Nat.le_of_ble_eq_true rfl) ?_
    exact ⟨rfl, N47⟩
  · rw [hh]
    show OwnOk p e below _ (T40.setTop (mkF m 57 #[.val (.int p1), .val (.ref b11), .val (.int (3 : Int32)), .unset, .unset] []))
    refine own_up (fun t kx => XS.aloadN X40.here hx rfl (hb hby at_57) rfl rfl kx) ?_
    show OwnOk p e below _ (T40.setTop (mkF m 58 #[.val (.int p1), .val (.ref b11), .val (.int (3 : Int32)), .unset, .unset] [(.ref b11)]))
    refine own_up (fun t kx => XS.iloadN X40.here hx rfl (hb hby at_58) rfl kx) ?_
    show OwnOk p e below _ (T40.setTop (mkF m 59 #[.val (.int p1), .val (.ref b11), .val (.int (3 : Int32)), .unset, .unset] [(.int (3 : Int32)), (.ref b11)]))
    obtain ⟨cl48, Ar48, qc48, Sz48, Nn48, Hs48, Gf48⟩ := V_b11_40
    have hin48 : ¬ ((3 : Int32) < 0 ∨ cl48.slots.size ≤ ((3 : Int32)).toNatClampNeg) := inb_of Sz48 ⟨by decide, by decide⟩
    have hat48 : cl48.slots[((3 : Int32)).toNatClampNeg]? = some (.ref w3) := Hs48.at hin48 rfl
    refine own_up (fun t kx => X40.aaload hx (j := (3 : Int32)) (v := (.ref w3)) (by rw [e40]; exact Ar48.1) (State.isArrayOf_alike hZ.alike Ar48.2.1) rfl Ar48.2.2 hin48 hat48 (g := (mkF m 59 #[.val (.int p1), .val (.ref b11), .val (.int (3 : Int32)), .unset, .unset] [(.int (3 : Int32)), (.ref b11)])) rfl rfl (hb hby at_59) _ kx) ?_
    show OwnOk p e below _ (T40.setTop (mkF m 60 #[.val (.int p1), .val (.ref b11), .val (.int (3 : Int32)), .unset, .unset] [(.ref w3)]))
    refine own_up (fun t kx => XS.astoreN X40.here hx rfl (hb hby at_60) rfl rfl (l' := #[.val (.int p1), .val (.ref b11), .val (.int (3 : Int32)), .val (.ref w3), .unset]) rfl kx) ?_
    show OwnOk p e below _ (T40.setTop (mkF m 61 #[.val (.int p1), .val (.ref b11), .val (.int (3 : Int32)), .val (.ref w3), .unset] []))
    refine own_up (fun t kx => XS.iloadN X40.here hx rfl (hb hby at_61) rfl kx) ?_
    show OwnOk p e below _ (T40.setTop (mkF m 62 #[.val (.int p1), .val (.ref b11), .val (.int (3 : Int32)), .val (.ref w3), .unset] [(.int (3 : Int32))]))
    refine own_up (fun t kx => XS.iconst X40.here hx rfl (hb hby at_62) kx) ?_
    show OwnOk p e below _ (T40.setTop (mkF m 63 #[.val (.int p1), .val (.ref b11), .val (.int (3 : Int32)), .val (.ref w3), .unset] [(.int (5 : Int32)), (.int (3 : Int32))]))
    refine own_up (fun t kx => XS.icmpNo X40.here hx rfl (hb hby at_63) rfl (feq (by decide)).1 kx) ?_
    show OwnOk p e below _ (T40.setTop (mkF m 66 #[.val (.int p1), .val (.ref b11), .val (.int (3 : Int32)), .val (.ref w3), .unset] []))
    refine own_up (fun t kx => XS.iloadN X40.here hx rfl (hb hby at_66) rfl kx) ?_
    show OwnOk p e below _ (T40.setTop (mkF m 67 #[.val (.int p1), .val (.ref b11), .val (.int (3 : Int32)), .val (.ref w3), .unset] [(.int (3 : Int32))]))
    refine own_up (fun t kx => XS.bipush X40.here hx rfl (hb hby at_67) kx) ?_
    show OwnOk p e below _ (T40.setTop (mkF m 69 #[.val (.int p1), .val (.ref b11), .val (.int (3 : Int32)), .val (.ref w3), .unset] [(.int (6 : Int32)), (.int (3 : Int32))]))
    refine own_up (fun t kx => XS.icmpYes X40.here hx rfl (pc0 := 69) (pc' := 76) rfl (hb hby at_69) rfl (feq (by decide)).2 (by decide) (by decide) kx) ?_
    show OwnOk p e below _ (T40.setTop (mkF m 76 #[.val (.int p1), .val (.ref b11), .val (.int (3 : Int32)), .val (.ref w3), .unset] []))
    refine own_up (fun t kx => XS.iconst X40.here hx rfl (hb hby at_76) kx) ?_
    show OwnOk p e below _ (T40.setTop (mkF m 77 #[.val (.int p1), .val (.ref b11), .val (.int (3 : Int32)), .val (.ref w3), .unset] [(.int (0 : Int32))]))
    refine own_up (fun t kx => XS.istore X40.here hx rfl (hb hby at_77) rfl (l' := #[.val (.int p1), .val (.ref b11), .val (.int (3 : Int32)), .val (.ref w3), .val (.int (0 : Int32))]) rfl kx) ?_
    show OwnOk p e below _ (T40.setTop (mkF m 79 #[.val (.int p1), .val (.ref b11), .val (.int (3 : Int32)), .val (.ref w3), .val (.int (0 : Int32))] []))
    refine own_up (fun t kx => XS.aloadN X40.here hx rfl (hb hby at_79) rfl rfl kx) ?_
    show OwnOk p e below _ (T40.setTop (mkF m 80 #[.val (.int p1), .val (.ref b11), .val (.int (3 : Int32)), .val (.ref w3), .val (.int (0 : Int32))] [(.ref w3)]))
    refine own_callV X40 hx hZ (y := (⟨"com/example/gridpost/gridpost/store/State", "ended", "()Z"⟩ : MethodName)) (z := (⟨"com/example/gridpost/gridpost/store/State", "ended", "()Z"⟩ : MethodName)) hown (wd_19 hw) (wd_20 hw) (notFace_of_selects (args := #[]) (mvT hZ (wd_22 hw))) (wd_22 hw) (wd_21 hw) (wd_3 hw) (wd_23 hw) (by decide) (rm1 l Z a0 hw w3 w5 w6 h40 n0 OL41 S5 S6) e40 (argsL := []) (rest := []) (E3.ext OL41.2) (by rw [hml]; rfl) (lenOf pd_0 rfl) rfl rfl (W := 0) rfl (hb hby at_80) (by decide) (by decide) (by decide) (by decide) (fun T49 v49 L49 X49 hQ49 => ?_)
    obtain ⟨rfl, Nq49, hh49⟩ := hQ49
    have N49 := Fr.app N40 Nq49
    show OwnOk p e below _ (T49.setTop (mkF m 83 #[.val (.int p1), .val (.ref b11), .val (.int (3 : Int32)), .val (.ref w3), .val (.int (0 : Int32))] [(.int (if w3 = w5 ∨ w3 = w6 then 1 else 0 : Int32))]))
    refine own_up (fun t kx => XS.iload X49.here hx rfl (hb hby at_83) rfl kx) ?_
    show OwnOk p e below _ (T49.setTop (mkF m 85 #[.val (.int p1), .val (.ref b11), .val (.int (3 : Int32)), .val (.ref w3), .val (.int (0 : Int32))] [(.int (0 : Int32)), (.int (if w3 = w5 ∨ w3 = w6 then 1 else 0 : Int32))]))
    refine own_up (fun t kx => XS.icmpNo X49.here hx rfl (hb hby at_85) rfl (teq (if_neg (not_or.mpr ⟨Fld.ne F3 F5 (by decide), Fld.ne F3 F6 (by decide)⟩))).2 kx) ?_
    show OwnOk p e below _ (T49.setTop (mkF m 88 #[.val (.int p1), .val (.ref b11), .val (.int (3 : Int32)), .val (.ref w3), .val (.int (0 : Int32))] []))
    refine own_up (fun t kx => XS.iconst X49.here hx rfl (hb hby at_88) kx) ?_
    show OwnOk p e below _ (T49.setTop (mkF m 89 #[.val (.int p1), .val (.ref b11), .val (.int (3 : Int32)), .val (.ref w3), .val (.int (0 : Int32))] [(.int (1 : Int32))]))
    refine own_up (fun t kx => XS.goto X49.here hx rfl (pc0 := 89) (pc' := 93) rfl (hb hby at_89) (by decide) (by decide) kx) ?_
    show OwnOk p e below _ (T49.setTop (mkF m 93 #[.val (.int p1), .val (.ref b11), .val (.int (3 : Int32)), .val (.ref w3), .val (.int (0 : Int32))] [(.int (1 : Int32))]))
    refine own_retN X49 hx (t := .boolean) (show meth.sig.returnType = some .boolean from hret) (by simp) hlk (hb hby at_93) (z' := (1 : Int32)) rfl hh49 (Nat.le_of_ble_eq_true rfl) (Nat.le_of_ble_eq_true rfl) ?_
    exact ⟨rfl, N49⟩
  · rw [hh]
    show OwnOk p e below _ (T40.setTop (mkF m 57 #[.val (.int p1), .val (.ref b11), .val (.int (4 : Int32)), .unset, .unset] []))
    refine own_up (fun t kx => XS.aloadN X40.here hx rfl (hb hby at_57) rfl rfl kx) ?_
    show OwnOk p e below _ (T40.setTop (mkF m 58 #[.val (.int p1), .val (.ref b11), .val (.int (4 : Int32)), .unset, .unset] [(.ref b11)]))
    refine own_up (fun t kx => XS.iloadN X40.here hx rfl (hb hby at_58) rfl kx) ?_
    show OwnOk p e below _ (T40.setTop (mkF m 59 #[.val (.int p1), .val (.ref b11), .val (.int (4 : Int32)), .unset, .unset] [(.int (4 : Int32)), (.ref b11)]))
    obtain ⟨cl50, Ar50, qc50, Sz50, Nn50, Hs50, Gf50⟩ := V_b11_40
    have hin50 : ¬ ((4 : Int32) < 0 ∨ cl50.slots.size ≤ ((4 : Int32)).toNatClampNeg) := inb_of Sz50 ⟨by decide, by decide⟩
    have hat50 : cl50.slots[((4 : Int32)).toNatClampNeg]? = some (.ref w4) := Hs50.at hin50 rfl
    refine own_up (fun t kx => X40.aaload hx (j := (4 : Int32)) (v := (.ref w4)) (by rw [e40]; exact Ar50.1) (State.isArrayOf_alike hZ.alike Ar50.2.1) rfl Ar50.2.2 hin50 hat50 (g := (mkF m 59 #[.val (.int p1), .val (.ref b11), .val (.int (4 : Int32)), .unset, .unset] [(.int (4 : Int32)), (.ref b11)])) rfl rfl (hb hby at_59) _ kx) ?_
    show OwnOk p e below _ (T40.setTop (mkF m 60 #[.val (.int p1), .val (.ref b11), .val (.int (4 : Int32)), .unset, .unset] [(.ref w4)]))
    refine own_up (fun t kx => XS.astoreN X40.here hx rfl (hb hby at_60) rfl rfl (l' := #[.val (.int p1), .val (.ref b11), .val (.int (4 : Int32)), .val (.ref w4), .unset]) rfl kx) ?_
    show OwnOk p e below _ (T40.setTop (mkF m 61 #[.val (.int p1), .val (.ref b11), .val (.int (4 : Int32)), .val (.ref w4), .unset] []))
    refine own_up (fun t kx => XS.iloadN X40.here hx rfl (hb hby at_61) rfl kx) ?_
    show OwnOk p e below _ (T40.setTop (mkF m 62 #[.val (.int p1), .val (.ref b11), .val (.int (4 : Int32)), .val (.ref w4), .unset] [(.int (4 : Int32))]))
    refine own_up (fun t kx => XS.iconst X40.here hx rfl (hb hby at_62) kx) ?_
    show OwnOk p e below _ (T40.setTop (mkF m 63 #[.val (.int p1), .val (.ref b11), .val (.int (4 : Int32)), .val (.ref w4), .unset] [(.int (5 : Int32)), (.int (4 : Int32))]))
    refine own_up (fun t kx => XS.icmpNo X40.here hx rfl (hb hby at_63) rfl (feq (by decide)).1 kx) ?_
    show OwnOk p e below _ (T40.setTop (mkF m 66 #[.val (.int p1), .val (.ref b11), .val (.int (4 : Int32)), .val (.ref w4), .unset] []))
    refine own_up (fun t kx => XS.iloadN X40.here hx rfl (hb hby at_66) rfl kx) ?_
    show OwnOk p e below _ (T40.setTop (mkF m 67 #[.val (.int p1), .val (.ref b11), .val (.int (4 : Int32)), .val (.ref w4), .unset] [(.int (4 : Int32))]))
    refine own_up (fun t kx => XS.bipush X40.here hx rfl (hb hby at_67) kx) ?_
    show OwnOk p e below _ (T40.setTop (mkF m 69 #[.val (.int p1), .val (.ref b11), .val (.int (4 : Int32)), .val (.ref w4), .unset] [(.int (6 : Int32)), (.int (4 : Int32))]))
    refine own_up (fun t kx => XS.icmpYes X40.here hx rfl (pc0 := 69) (pc' := 76) rfl (hb hby at_69) rfl (feq (by decide)).2 (by decide) (by decide) kx) ?_
    show OwnOk p e below _ (T40.setTop (mkF m 76 #[.val (.int p1), .val (.ref b11), .val (.int (4 : Int32)), .val (.ref w4), .unset] []))
    refine own_up (fun t kx => XS.iconst X40.here hx rfl (hb hby at_76) kx) ?_
    show OwnOk p e below _ (T40.setTop (mkF m 77 #[.val (.int p1), .val (.ref b11), .val (.int (4 : Int32)), .val (.ref w4), .unset] [(.int (0 : Int32))]))
    refine own_up (fun t kx => XS.istore X40.here hx rfl (hb hby at_77) rfl (l' := #[.val (.int p1), .val (.ref b11), .val (.int (4 : Int32)), .val (.ref w4), .val (.int (0 : Int32))]) rfl kx) ?_
    show OwnOk p e below _ (T40.setTop (mkF m 79 #[.val (.int p1), .val (.ref b11), .val (.int (4 : Int32)), .val (.ref w4), .val (.int (0 : Int32))] []))
    refine own_up (fun t kx => XS.aloadN X40.here hx rfl (hb hby at_79) rfl rfl kx) ?_
    show OwnOk p e below _ (T40.setTop (mkF m 80 #[.val (.int p1), .val (.ref b11), .val (.int (4 : Int32)), .val (.ref w4), .val (.int (0 : Int32))] [(.ref w4)]))
    refine own_callV X40 hx hZ (y := (⟨"com/example/gridpost/gridpost/store/State", "ended", "()Z"⟩ : MethodName)) (z := (⟨"com/example/gridpost/gridpost/store/State", "ended", "()Z"⟩ : MethodName)) hown (wd_19 hw) (wd_20 hw) (notFace_of_selects (args := #[]) (mvT hZ (wd_22 hw))) (wd_22 hw) (wd_21 hw) (wd_3 hw) (wd_23 hw) (by decide) (rm1 l Z a0 hw w4 w5 w6 h40 n0 OL41 S5 S6) e40 (argsL := []) (rest := []) (E4.ext OL41.2) (by rw [hml]; rfl) (lenOf pd_0 rfl) rfl rfl (W := 0) rfl (hb hby at_80) (by decide) (by decide) (by decide) (by decide) (fun T51 v51 L51 X51 hQ51 => ?_)
    obtain ⟨rfl, Nq51, hh51⟩ := hQ51
    have N51 := Fr.app N40 Nq51
    show OwnOk p e below _ (T51.setTop (mkF m 83 #[.val (.int p1), .val (.ref b11), .val (.int (4 : Int32)), .val (.ref w4), .val (.int (0 : Int32))] [(.int (if w4 = w5 ∨ w4 = w6 then 1 else 0 : Int32))]))
    refine own_up (fun t kx => XS.iload X51.here hx rfl (hb hby at_83) rfl kx) ?_
    show OwnOk p e below _ (T51.setTop (mkF m 85 #[.val (.int p1), .val (.ref b11), .val (.int (4 : Int32)), .val (.ref w4), .val (.int (0 : Int32))] [(.int (0 : Int32)), (.int (if w4 = w5 ∨ w4 = w6 then 1 else 0 : Int32))]))
    refine own_up (fun t kx => XS.icmpNo X51.here hx rfl (hb hby at_85) rfl (teq (if_neg (not_or.mpr ⟨Fld.ne F4 F5 (by decide), Fld.ne F4 F6 (by decide)⟩))).2 kx) ?_
    show OwnOk p e below _ (T51.setTop (mkF m 88 #[.val (.int p1), .val (.ref b11), .val (.int (4 : Int32)), .val (.ref w4), .val (.int (0 : Int32))] []))
    refine own_up (fun t kx => XS.iconst X51.here hx rfl (hb hby at_88) kx) ?_
    show OwnOk p e below _ (T51.setTop (mkF m 89 #[.val (.int p1), .val (.ref b11), .val (.int (4 : Int32)), .val (.ref w4), .val (.int (0 : Int32))] [(.int (1 : Int32))]))
    refine own_up (fun t kx => XS.goto X51.here hx rfl (pc0 := 89) (pc' := 93) rfl (hb hby at_89) (by decide) (by decide) kx) ?_
    show OwnOk p e below _ (T51.setTop (mkF m 93 #[.val (.int p1), .val (.ref b11), .val (.int (4 : Int32)), .val (.ref w4), .val (.int (0 : Int32))] [(.int (1 : Int32))]))
    refine own_retN X51 hx (t := .boolean) (show meth.sig.returnType = some .boolean from hret) (by simp) hlk (hb hby at_93) (z' := (1 : Int32)) rfl hh51 (Nat.le_of_ble_eq_true rfl) (Nat.le_of_ble_eq_true rfl) ?_
    exact ⟨rfl, N51⟩
  · rw [hh]
    show OwnOk p e below _ (T40.setTop (mkF m 57 #[.val (.int p1), .val (.ref b11), .val (.int (5 : Int32)), .unset, .unset] []))
    refine own_up (fun t kx => XS.aloadN X40.here hx rfl (hb hby at_57) rfl rfl kx) ?_
    show OwnOk p e below _ (T40.setTop (mkF m 58 #[.val (.int p1), .val (.ref b11), .val (.int (5 : Int32)), .unset, .unset] [(.ref b11)]))
    refine own_up (fun t kx => XS.iloadN X40.here hx rfl (hb hby at_58) rfl kx) ?_
    show OwnOk p e below _ (T40.setTop (mkF m 59 #[.val (.int p1), .val (.ref b11), .val (.int (5 : Int32)), .unset, .unset] [(.int (5 : Int32)), (.ref b11)]))
    obtain ⟨cl52, Ar52, qc52, Sz52, Nn52, Hs52, Gf52⟩ := V_b11_40
    have hin52 : ¬ ((5 : Int32) < 0 ∨ cl52.slots.size ≤ ((5 : Int32)).toNatClampNeg) := inb_of Sz52 ⟨by decide, by decide⟩
    have hat52 : cl52.slots[((5 : Int32)).toNatClampNeg]? = some (.ref w5) := Hs52.at hin52 rfl
    refine own_up (fun t kx => X40.aaload hx (j := (5 : Int32)) (v := (.ref w5)) (by rw [e40]; exact Ar52.1) (State.isArrayOf_alike hZ.alike Ar52.2.1) rfl Ar52.2.2 hin52 hat52 (g := (mkF m 59 #[.val (.int p1), .val (.ref b11), .val (.int (5 : Int32)), .unset, .unset] [(.int (5 : Int32)), (.ref b11)])) rfl rfl (hb hby at_59) _ kx) ?_
    show OwnOk p e below _ (T40.setTop (mkF m 60 #[.val (.int p1), .val (.ref b11), .val (.int (5 : Int32)), .unset, .unset] [(.ref w5)]))
    refine own_up (fun t kx => XS.astoreN X40.here hx rfl (hb hby at_60) rfl rfl (l' := #[.val (.int p1), .val (.ref b11), .val (.int (5 : Int32)), .val (.ref w5), .unset]) rfl kx) ?_
    show OwnOk p e below _ (T40.setTop (mkF m 61 #[.val (.int p1), .val (.ref b11), .val (.int (5 : Int32)), .val (.ref w5), .unset] []))
    refine own_up (fun t kx => XS.iloadN X40.here hx rfl (hb hby at_61) rfl kx) ?_
    show OwnOk p e below _ (T40.setTop (mkF m 62 #[.val (.int p1), .val (.ref b11), .val (.int (5 : Int32)), .val (.ref w5), .unset] [(.int (5 : Int32))]))
    refine own_up (fun t kx => XS.iconst X40.here hx rfl (hb hby at_62) kx) ?_
    show OwnOk p e below _ (T40.setTop (mkF m 63 #[.val (.int p1), .val (.ref b11), .val (.int (5 : Int32)), .val (.ref w5), .unset] [(.int (5 : Int32)), (.int (5 : Int32))]))
    refine own_up (fun t kx => XS.icmpYes X40.here hx rfl (pc0 := 63) (pc' := 72) rfl (hb hby at_63) rfl (teq (by decide)).1 (by decide) (by decide) kx) ?_
    show OwnOk p e below _ (T40.setTop (mkF m 72 #[.val (.int p1), .val (.ref b11), .val (.int (5 : Int32)), .val (.ref w5), .unset] []))
    refine own_up (fun t kx => XS.iconst X40.here hx rfl (hb hby at_72) kx) ?_
    show OwnOk p e below _ (T40.setTop (mkF m 73 #[.val (.int p1), .val (.ref b11), .val (.int (5 : Int32)), .val (.ref w5), .unset] [(.int (1 : Int32))]))
    refine own_up (fun t kx => XS.goto X40.here hx rfl (pc0 := 73) (pc' := 77) rfl (hb hby at_73) (by decide) (by decide) kx) ?_
    show OwnOk p e below _ (T40.setTop (mkF m 77 #[.val (.int p1), .val (.ref b11), .val (.int (5 : Int32)), .val (.ref w5), .unset] [(.int (1 : Int32))]))
    refine own_up (fun t kx => XS.istore X40.here hx rfl (hb hby at_77) rfl (l' := #[.val (.int p1), .val (.ref b11), .val (.int (5 : Int32)), .val (.ref w5), .val (.int (1 : Int32))]) rfl kx) ?_
    show OwnOk p e below _ (T40.setTop (mkF m 79 #[.val (.int p1), .val (.ref b11), .val (.int (5 : Int32)), .val (.ref w5), .val (.int (1 : Int32))] []))
    refine own_up (fun t kx => XS.aloadN X40.here hx rfl (hb hby at_79) rfl rfl kx) ?_
    show OwnOk p e below _ (T40.setTop (mkF m 80 #[.val (.int p1), .val (.ref b11), .val (.int (5 : Int32)), .val (.ref w5), .val (.int (1 : Int32))] [(.ref w5)]))
    refine own_callV X40 hx hZ (y := (⟨"com/example/gridpost/gridpost/store/State", "ended", "()Z"⟩ : MethodName)) (z := (⟨"com/example/gridpost/gridpost/store/State", "ended", "()Z"⟩ : MethodName)) hown (wd_19 hw) (wd_20 hw) (notFace_of_selects (args := #[]) (mvT hZ (wd_22 hw))) (wd_22 hw) (wd_21 hw) (wd_3 hw) (wd_23 hw) (by decide) (rm1 l Z a0 hw w5 w5 w6 h40 n0 OL41 S5 S6) e40 (argsL := []) (rest := []) (E5.ext OL41.2) (by rw [hml]; rfl) (lenOf pd_0 rfl) rfl rfl (W := 0) rfl (hb hby at_80) (by decide) (by decide) (by decide) (by decide) (fun T53 v53 L53 X53 hQ53 => ?_)
    obtain ⟨rfl, Nq53, hh53⟩ := hQ53
    have N53 := Fr.app N40 Nq53
    show OwnOk p e below _ (T53.setTop (mkF m 83 #[.val (.int p1), .val (.ref b11), .val (.int (5 : Int32)), .val (.ref w5), .val (.int (1 : Int32))] [(.int (if w5 = w5 ∨ w5 = w6 then 1 else 0 : Int32))]))
    refine own_up (fun t kx => XS.iload X53.here hx rfl (hb hby at_83) rfl kx) ?_
    show OwnOk p e below _ (T53.setTop (mkF m 85 #[.val (.int p1), .val (.ref b11), .val (.int (5 : Int32)), .val (.ref w5), .val (.int (1 : Int32))] [(.int (1 : Int32)), (.int (if w5 = w5 ∨ w5 = w6 then 1 else 0 : Int32))]))
    refine own_up (fun t kx => XS.icmpNo X53.here hx rfl (hb hby at_85) rfl (teq (if_pos (Or.inl rfl))).2 kx) ?_
    show OwnOk p e below _ (T53.setTop (mkF m 88 #[.val (.int p1), .val (.ref b11), .val (.int (5 : Int32)), .val (.ref w5), .val (.int (1 : Int32))] []))
    refine own_up (fun t kx => XS.iconst X53.here hx rfl (hb hby at_88) kx) ?_
    show OwnOk p e below _ (T53.setTop (mkF m 89 #[.val (.int p1), .val (.ref b11), .val (.int (5 : Int32)), .val (.ref w5), .val (.int (1 : Int32))] [(.int (1 : Int32))]))
    refine own_up (fun t kx => XS.goto X53.here hx rfl (pc0 := 89) (pc' := 93) rfl (hb hby at_89) (by decide) (by decide) kx) ?_
    show OwnOk p e below _ (T53.setTop (mkF m 93 #[.val (.int p1), .val (.ref b11), .val (.int (5 : Int32)), .val (.ref w5), .val (.int (1 : Int32))] [(.int (1 : Int32))]))
    refine own_retN X53 hx (t := .boolean) (show meth.sig.returnType = some .boolean from hret) (by simp) hlk (hb hby at_93) (z' := (1 : Int32)) rfl hh53 (Nat.le_of_ble_eq_true rfl) (Nat.le_of_ble_eq_true rfl) ?_
    exact ⟨rfl, N53⟩
  · rw [hh]
    show OwnOk p e below _ (T40.setTop (mkF m 57 #[.val (.int p1), .val (.ref b11), .val (.int (6 : Int32)), .unset, .unset] []))
    refine own_up (fun t kx => XS.aloadN X40.here hx rfl (hb hby at_57) rfl rfl kx) ?_
    show OwnOk p e below _ (T40.setTop (mkF m 58 #[.val (.int p1), .val (.ref b11), .val (.int (6 : Int32)), .unset, .unset] [(.ref b11)]))
    refine own_up (fun t kx => XS.iloadN X40.here hx rfl (hb hby at_58) rfl kx) ?_
    show OwnOk p e below _ (T40.setTop (mkF m 59 #[.val (.int p1), .val (.ref b11), .val (.int (6 : Int32)), .unset, .unset] [(.int (6 : Int32)), (.ref b11)]))
    obtain ⟨cl54, Ar54, qc54, Sz54, Nn54, Hs54, Gf54⟩ := V_b11_40
    have hin54 : ¬ ((6 : Int32) < 0 ∨ cl54.slots.size ≤ ((6 : Int32)).toNatClampNeg) := inb_of Sz54 ⟨by decide, by decide⟩
    have hat54 : cl54.slots[((6 : Int32)).toNatClampNeg]? = some (.ref w6) := Hs54.at hin54 rfl
    refine own_up (fun t kx => X40.aaload hx (j := (6 : Int32)) (v := (.ref w6)) (by rw [e40]; exact Ar54.1) (State.isArrayOf_alike hZ.alike Ar54.2.1) rfl Ar54.2.2 hin54 hat54 (g := (mkF m 59 #[.val (.int p1), .val (.ref b11), .val (.int (6 : Int32)), .unset, .unset] [(.int (6 : Int32)), (.ref b11)])) rfl rfl (hb hby at_59) _ kx) ?_
    show OwnOk p e below _ (T40.setTop (mkF m 60 #[.val (.int p1), .val (.ref b11), .val (.int (6 : Int32)), .unset, .unset] [(.ref w6)]))
    refine own_up (fun t kx => XS.astoreN X40.here hx rfl (hb hby at_60) rfl rfl (l' := #[.val (.int p1), .val (.ref b11), .val (.int (6 : Int32)), .val (.ref w6), .unset]) rfl kx) ?_
    show OwnOk p e below _ (T40.setTop (mkF m 61 #[.val (.int p1), .val (.ref b11), .val (.int (6 : Int32)), .val (.ref w6), .unset] []))
    refine own_up (fun t kx => XS.iloadN X40.here hx rfl (hb hby at_61) rfl kx) ?_
    show OwnOk p e below _ (T40.setTop (mkF m 62 #[.val (.int p1), .val (.ref b11), .val (.int (6 : Int32)), .val (.ref w6), .unset] [(.int (6 : Int32))]))
    refine own_up (fun t kx => XS.iconst X40.here hx rfl (hb hby at_62) kx) ?_
    show OwnOk p e below _ (T40.setTop (mkF m 63 #[.val (.int p1), .val (.ref b11), .val (.int (6 : Int32)), .val (.ref w6), .unset] [(.int (5 : Int32)), (.int (6 : Int32))]))
    refine own_up (fun t kx => XS.icmpNo X40.here hx rfl (hb hby at_63) rfl (feq (by decide)).1 kx) ?_
    show OwnOk p e below _ (T40.setTop (mkF m 66 #[.val (.int p1), .val (.ref b11), .val (.int (6 : Int32)), .val (.ref w6), .unset] []))
    refine own_up (fun t kx => XS.iloadN X40.here hx rfl (hb hby at_66) rfl kx) ?_
    show OwnOk p e below _ (T40.setTop (mkF m 67 #[.val (.int p1), .val (.ref b11), .val (.int (6 : Int32)), .val (.ref w6), .unset] [(.int (6 : Int32))]))
    refine own_up (fun t kx => XS.bipush X40.here hx rfl (hb hby at_67) kx) ?_
    show OwnOk p e below _ (T40.setTop (mkF m 69 #[.val (.int p1), .val (.ref b11), .val (.int (6 : Int32)), .val (.ref w6), .unset] [(.int (6 : Int32)), (.int (6 : Int32))]))
    refine own_up (fun t kx => XS.icmpNo X40.here hx rfl (hb hby at_69) rfl (teq (by decide)).2 kx) ?_
    show OwnOk p e below _ (T40.setTop (mkF m 72 #[.val (.int p1), .val (.ref b11), .val (.int (6 : Int32)), .val (.ref w6), .unset] []))
    refine own_up (fun t kx => XS.iconst X40.here hx rfl (hb hby at_72) kx) ?_
    show OwnOk p e below _ (T40.setTop (mkF m 73 #[.val (.int p1), .val (.ref b11), .val (.int (6 : Int32)), .val (.ref w6), .unset] [(.int (1 : Int32))]))
    refine own_up (fun t kx => XS.goto X40.here hx rfl (pc0 := 73) (pc' := 77) rfl (hb hby at_73) (by decide) (by decide) kx) ?_
    show OwnOk p e below _ (T40.setTop (mkF m 77 #[.val (.int p1), .val (.ref b11), .val (.int (6 : Int32)), .val (.ref w6), .unset] [(.int (1 : Int32))]))
    refine own_up (fun t kx => XS.istore X40.here hx rfl (hb hby at_77) rfl (l' := #[.val (.int p1), .val (.ref b11), .val (.int (6 : Int32)), .val (.ref w6), .val (.int (1 : Int32))]) rfl kx) ?_
    show OwnOk p e below _ (T40.setTop (mkF m 79 #[.val (.int p1), .val (.ref b11), .val (.int (6 : Int32)), .val (.ref w6), .val (.int (1 : Int32))] []))
    refine own_up (fun t kx => XS.aloadN X40.here hx rfl (hb hby at_79) rfl rfl kx) ?_
    show OwnOk p e below _ (T40.setTop (mkF m 80 #[.val (.int p1), .val (.ref b11), .val (.int (6 : Int32)), .val (.ref w6), .val (.int (1 : Int32))] [(.ref w6)]))
    refine own_callV X40 hx hZ (y := (⟨"com/example/gridpost/gridpost/store/State", "ended", "()Z"⟩ : MethodName)) (z := (⟨"com/example/gridpost/gridpost/store/State", "ended", "()Z"⟩ : MethodName)) hown (wd_19 hw) (wd_20 hw) (notFace_of_selects (args := #[]) (mvT hZ (wd_22 hw))) (wd_22 hw) (wd_21 hw) (wd_3 hw) (wd_23 hw) (by decide) (rm1 l Z a0 hw w6 w5 w6 h40 n0 OL41 S5 S6) e40 (argsL := []) (rest := []) (E6.ext OL41.2) (by rw [hml]; rfl) (lenOf pd_0 rfl) rfl rfl (W := 0) rfl (hb hby at_80) (by decide) (by decide) (by decide) (by decide) (fun T55 v55 L55 X55 hQ55 => ?_)
    obtain ⟨rfl, Nq55, hh55⟩ := hQ55
    have N55 := Fr.app N40 Nq55
    show OwnOk p e below _ (T55.setTop (mkF m 83 #[.val (.int p1), .val (.ref b11), .val (.int (6 : Int32)), .val (.ref w6), .val (.int (1 : Int32))] [(.int (if w6 = w5 ∨ w6 = w6 then 1 else 0 : Int32))]))
    refine own_up (fun t kx => XS.iload X55.here hx rfl (hb hby at_83) rfl kx) ?_
    show OwnOk p e below _ (T55.setTop (mkF m 85 #[.val (.int p1), .val (.ref b11), .val (.int (6 : Int32)), .val (.ref w6), .val (.int (1 : Int32))] [(.int (1 : Int32)), (.int (if w6 = w5 ∨ w6 = w6 then 1 else 0 : Int32))]))
    refine own_up (fun t kx => XS.icmpNo X55.here hx rfl (hb hby at_85) rfl (teq (if_pos (Or.inr rfl))).2 kx) ?_
    show OwnOk p e below _ (T55.setTop (mkF m 88 #[.val (.int p1), .val (.ref b11), .val (.int (6 : Int32)), .val (.ref w6), .val (.int (1 : Int32))] []))
    refine own_up (fun t kx => XS.iconst X55.here hx rfl (hb hby at_88) kx) ?_
    show OwnOk p e below _ (T55.setTop (mkF m 89 #[.val (.int p1), .val (.ref b11), .val (.int (6 : Int32)), .val (.ref w6), .val (.int (1 : Int32))] [(.int (1 : Int32))]))
    refine own_up (fun t kx => XS.goto X55.here hx rfl (pc0 := 89) (pc' := 93) rfl (hb hby at_89) (by decide) (by decide) kx) ?_
    show OwnOk p e below _ (T55.setTop (mkF m 93 #[.val (.int p1), .val (.ref b11), .val (.int (6 : Int32)), .val (.ref w6), .val (.int (1 : Int32))] [(.int (1 : Int32))]))
    refine own_retN X55 hx (t := .boolean) (show meth.sig.returnType = some .boolean from hret) (by simp) hlk (hb hby at_93) (z' := (1 : Int32)) rfl hh55 (Nat.le_of_ble_eq_true rfl) (Nat.le_of_ble_eq_true rfl) ?_
    exact ⟨rfl, N55⟩
set_option maxRecDepth 65536 in
set_option maxHeartbeats 40000000 in
theorem comes_1 {Post : Tables → Env → Array Value → State → Outcome → State → Prop} (hpost : ∀ tb e args s v u, (limb_1_1.after args s (.returned v) u = true ∧ limb_1_2.after args s (.returned v) u = true ∧ True) → FrameEnd s (.returned v) u (Jvm.fieldLocs frame_1_writes args s ++ Jvm.arrayLocs frame_1_arrays args s ++ Jvm.staticLocs frame_1_statics s) 16 128 → Post tb e args s (.returned v) u) :
    ArmFor flags0 classFile x code maxLocals ret World_1 tables_1 room_1 Calls_1 rest_1 Pre_1 Post := by
  intro l hfl _ _ p e ha hc hk s m args below hf hA hF happ hP
  obtain ⟨hcalls, hrest, hpre⟩ := hP
  obtain ⟨-, -, -, hnamed, -, -, -, hat⟩ := (Spec.applies_iff hf).mp happ
  obtain ⟨hg, hn⟩ := and_e (Cond.before_iff.mp (show (Jvm.Cond.and given_1 narrow_1).before args s = true from hpre))
  obtain ⟨g0, gr0⟩ := and_e hg
  obtain ⟨w_0, rfl⟩ : ∃ w_0 : Value, args = #[w_0] := by
    have hs : args.size = 1 := by simpa [Cond.value, given_1] using g0
    obtain ⟨L⟩ := args
    match L, hs with
    | [w_0], _ => exact ⟨w_0, rfl⟩
  have hw := fun d (hd : d ∈ tables_1) => atoms_spec (ws := Jvm.Cond.code x code maxLocals ret :: tables_1) hat d (List.mem_cons_of_mem _ hd)
  have hfit : Fit s := fun {y c} hc i hi => by
    obtain ⟨ha, rfl⟩ := Array.getElem?_eq_some_iff.mp hc
    have q := List.all_eq_true.mp ((Array.all_eq_true_iff_forall_mem.mp hF) _ (Array.getElem_mem ha)) i (List.mem_range.mpr hi)
    simpa [Array.getElem?_eq_getElem hi] using q
  obtain ⟨i0, ei0⟩ := is_v gr0
  obtain rfl : w_0 = (.int i0) := Option.some.inj ei0
  obtain ⟨x0, r0⟩ := and_e hn
  obtain ⟨x1, r1⟩ := and_e r0
  obtain ⟨x2, r2⟩ := and_e r1
  obtain ⟨x3, r3⟩ := and_e r2
  obtain ⟨x4, r4⟩ := and_e r3
  obtain ⟨x5, r5⟩ := and_e r4
  obtain ⟨x6, r6⟩ := and_e r5
  obtain ⟨o0, q0⟩ := and_e r6
  obtain ⟨o5, q1⟩ := and_e q0
  obtain ⟨o6, q2⟩ := and_e q1
  obtain ⟨o3, q3⟩ := and_e q2
  obtain ⟨o4, q4⟩ := and_e q3
  obtain ⟨o2, q5⟩ := and_e q4
  have o1 := q5
  obtain ⟨w0, v0⟩ := exa_v x0
  have E0 := Exa.start v0 x0
  have S0 := Sta.start v0 (Or.inr ⟨(wd_3 hw), (wd_4 hw)⟩)
  have F0 := own_fldEq v0 o0
  obtain ⟨w1, v1⟩ := exa_v x1
  have E1 := Exa.start v1 x1
  have S1 := Sta.start v1 (Or.inr ⟨(wd_3 hw), (wd_7 hw)⟩)
  have F1 := own_fldEq v1 o1
  obtain ⟨w2, v2⟩ := exa_v x2
  have E2 := Exa.start v2 x2
  have S2 := Sta.start v2 (Or.inr ⟨(wd_3 hw), (wd_9 hw)⟩)
  have F2 := own_fldEq v2 o2
  obtain ⟨w3, v3⟩ := exa_v x3
  have E3 := Exa.start v3 x3
  have S3 := Sta.start v3 (Or.inr ⟨(wd_3 hw), (wd_11 hw)⟩)
  have F3 := own_fldEq v3 o3
  obtain ⟨w4, v4⟩ := exa_v x4
  have E4 := Exa.start v4 x4
  have S4 := Sta.start v4 (Or.inr ⟨(wd_3 hw), (wd_13 hw)⟩)
  have F4 := own_fldEq v4 o4
  obtain ⟨w5, v5⟩ := exa_v x5
  have E5 := Exa.start v5 x5
  have S5 := Sta.start v5 (Or.inr ⟨(wd_3 hw), (wd_15 hw)⟩)
  have F5 := own_fldEq v5 o5
  obtain ⟨w6, v6⟩ := exa_v x6
  have E6 := Exa.start v6 x6
  have S6 := Sta.start v6 (Or.inr ⟨(wd_3 hw), (wd_17 hw)⟩)
  have F6 := own_fldEq v6 o6
  obtain ⟨n, o, h1, h2, h3, _, L, rfl, ⟨rfl, N⟩, hq⟩ := (rm0 l s _ hw i0 w0 w1 w2 w3 w4 w5 w6 s.heap s.heap.size (Old.start s) S0 S1 S2 S3 S4 S5 S6 E0 E1 E2 E3 E4 E5 E6 F0 F1 F2 F3 F4 F5 F6) tables_1 p e ha hc hk s m _ below hf ((Spec.applies_iff_loose hf).mp happ).1 ⟨rfl, State.Warmed39.refl s, rfl⟩ trivial
  refine ⟨n, _, h1, h2, h3, hpost _ _ _ _ _ _ ⟨Cond.after_iff.mpr rfl, Cond.after_iff.mpr (eq_i res_at (Term.int_eval (1)) rfl), trivial⟩ ⟨hq.1, hq.2.1, (hq.2.2.sift fun y hy => Or.inr (N y hy)).mono (by decide) (by decide)⟩⟩
theorem main_1_1 : Claimed_1_1 := comes_1 fun _ _ _ _ _ _ h hF => ⟨h.1, hF⟩
theorem main_1_2 : Claimed_1_2 := comes_1 fun _ _ _ _ _ _ h hF => ⟨h.2.1, hF⟩
end Jvm.Pilot.@@N@@
namespace Jvm.Pilot.@@N@@
open Jvm Jvm.ClassFile Sem Op Lib Jvm.Free Jvm.Stand Jvm.Pilot.@@N@@.Jvm.D
/-! MADE BY PROGRAM (witnessworld.py) out of the Statement's table words and the real class files: 13 classes; the members and pool entries that the words name. The judged class is class 1, her method 1. -/
namespace start1
open Jvm.ClassFile
def u (s : String) : CpInfo := .utf8 (stringToUtf16 s)
/-- a pool by its gaps: so many unusable entries, then the entry; so many at the end -/
def gap : Nat → List CpInfo → List CpInfo
  | 0, r => r
  | n + 1, r => .unusable :: gap n r
def poolList (es : List (Nat × CpInfo)) (last : Nat) : List CpInfo := es.foldr (fun e r => gap e.1 (e.2 :: r)) (gap last [])
def pool (es : List (Nat × CpInfo)) (last : Nat) : Array CpInfo := ⟨poolList es last⟩
def fileOf (pool : Array CpInfo) (this : Nat) (attrs : Array Attribute := #[]) (ms : Array MethodInfo := #[]) (fl : Nat := 33) (sup : Nat := 0) (ifs : Array Nat := #[]) (fds : Array FieldInfo := #[]) : ClassFile where
  minorVersion := 0
  majorVersion := 65
  constantPool := pool
  accessFlags := fl
  thisClass := this
  superClass := sup
  interfaces := ifs
  fields := fds
  methods := ms
  attributes := attrs
def plain (name : String) (sup : Option ClassId) : Class where
  name := name
  kind := .ordinary
  loader := none
  accessFlags := 33
  super := sup
  interfaces := #[]
  cf := none
  fields := #[]
  methods := #[]
  instanceTypes := #[]
  staticTypes := #[]
  resolved := #[]
  callSites := []
  init := .initialized
  statics := none
  mirror := none

def pool0 : Array CpInfo := pool [(5, u "<init>"), (0, u "()V"), (1, .class_ 10), (1, u "java/lang/Object")] 113

def k0m0 : Method := { name := "<init>", desc := "()V", sig := { parameters := [], returnType := none }, accessFlags := 1, code := none }
/-- java/lang/Object -/
def k0 : Class := { plain "java/lang/Object" none with
  accessFlags := 33
  interfaces := #[]
  cf := some (fileOf pool0 8 #[] #[{ accessFlags := 1, nameIndex := 5, descriptorIndex := 6, attributes := #[] }] 33 0 #[] #[])
  fields := #[]
  methods := #[k0m0]
  instanceTypes := #[]
  staticTypes := #[]
  resolved := Array.replicate 124 none
  statics := none }

def pool1 : Array CpInfo := pool [(2, .class_ 4), (1, u "java/lang/Object"), (0, u "<init>"), (0, u "()V"), (0, .class_ 8), (0, u "com/example/gridpost/gridpost/store/State"), (0, .fieldref 7 10), (0, .nameAndType 11 12), (0, u "NEW"), (0, u "Lcom/example/gridpost/gridpost/store/State;"), (0, .fieldref 7 14), (0, .nameAndType 15 12), (0, u "PENDING"), (0, .fieldref 7 17), (0, .nameAndType 18 12), (0, u "QUEUED"), (0, .fieldref 7 20), (0, .nameAndType 21 12), (0, u "RUNNING"), (0, .fieldref 7 23), (0, .nameAndType 24 12), (0, u "PAUSED"), (0, .fieldref 7 26), (0, .nameAndType 27 12), (0, u "FINISHED"), (0, .fieldref 7 29), (0, .nameAndType 30 12), (0, u "ABORTED"), (0, .integer 2147483647), (0, .methodref 7 33), (0, .nameAndType 34 35), (0, u "ended"), (0, u "()Z"), (0, .class_ 37), (0, u "com/example/gridpost/gridpost/store/StateEndedPinLaw"), (2, u "law"), (0, u "(I)Z")] 5

def k1m0 : Method := { name := "<init>", desc := "()V", sig := { parameters := [], returnType := none }, accessFlags := 1, code := none }
def k1c1 : Code := { maxStack := 4, maxLocals := 5, code := code, exceptionTable := #[], attributes := #[] }
def k1m1 : Method := { name := "law", desc := "(I)Z", sig := { parameters := [.int], returnType := some .boolean }, accessFlags := 9, code := some k1c1 }
/-- com/example/gridpost/gridpost/store/StateEndedPinLaw -/
def k1 : Class := { plain "com/example/gridpost/gridpost/store/StateEndedPinLaw" (some 0) with
  accessFlags := 49
  interfaces := #[]
  cf := some (fileOf pool1 36 #[] #[{ accessFlags := 1, nameIndex := 5, descriptorIndex := 6, attributes := #[] }, { accessFlags := 9, nameIndex := 40, descriptorIndex := 41, attributes := #[] }] 49 2 #[] #[])
  fields := #[]
  methods := #[k1m0, k1m1]
  instanceTypes := #[]
  staticTypes := #[]
  resolved := Array.replicate 47 none
  statics := none }

def pool2 : Array CpInfo := pool [(1, .class_ 2), (0, u "java/lang/constant/Constable"), (0, .class_ 4), (0, u "java/lang/Object")] 6

/-- java/lang/constant/Constable -/
def k2 : Class := { plain "java/lang/constant/Constable" (some 0) with
  accessFlags := 1537
  interfaces := #[]
  cf := some (fileOf pool2 1 #[] #[] 1537 3 #[] #[])
  fields := #[]
  methods := #[]
  instanceTypes := #[]
  staticTypes := #[]
  resolved := Array.replicate 11 none
  statics := none }

def pool3 : Array CpInfo := pool [(1, .class_ 2), (0, u "java/lang/Comparable"), (0, .class_ 4), (0, u "java/lang/Object")] 7

/-- java/lang/Comparable -/
def k3 : Class := { plain "java/lang/Comparable" (some 0) with
  accessFlags := 1537
  interfaces := #[]
  cf := some (fileOf pool3 1 #[] #[] 1537 3 #[] #[])
  fields := #[]
  methods := #[]
  instanceTypes := #[]
  staticTypes := #[]
  resolved := Array.replicate 12 none
  statics := none }

def pool4 : Array CpInfo := pool [(1, .class_ 2), (0, u "java/io/Serializable"), (0, .class_ 4), (0, u "java/lang/Object")] 2

/-- java/io/Serializable -/
def k4 : Class := { plain "java/io/Serializable" (some 0) with
  accessFlags := 1537
  interfaces := #[]
  cf := some (fileOf pool4 1 #[] #[] 1537 3 #[] #[])
  fields := #[]
  methods := #[]
  instanceTypes := #[]
  staticTypes := #[]
  resolved := Array.replicate 7 none
  statics := none }

def pool5 : Array CpInfo := pool [(2, .class_ 4), (1, u "java/lang/Enum"), (0, u "name"), (0, u "Ljava/lang/String;"), (2, u "ordinal"), (0, u "I"), (1, .class_ 14), (1, u "java/lang/Object"), (4, u "hash"), (86, .class_ 108), (1, u "java/lang/Enum$EnumDesc"), (2, .class_ 112), (0, u "java/lang/constant/Constable"), (0, .class_ 114), (0, u "java/lang/Comparable"), (0, .class_ 116), (0, u "java/io/Serializable")] 87

/-- java/lang/Enum -/
def k5 : Class := { plain "java/lang/Enum" (some 0) with
  accessFlags := 1057
  interfaces := #[2, 3, 4]
  cf := some (fileOf pool5 2 #[.nestMembers #[106]] #[] 1057 12 #[111, 113, 115] #[{ accessFlags := 18, nameIndex := 5, descriptorIndex := 6, attributes := #[] }, { accessFlags := 18, nameIndex := 9, descriptorIndex := 10, attributes := #[] }, { accessFlags := 2, nameIndex := 19, descriptorIndex := 10, attributes := #[] }])
  fields := #[{ name := "name", type := (.object "java/lang/String"), accessFlags := 18, slot := 0, constantValue := 0 }, { name := "ordinal", type := .int, accessFlags := 18, slot := 1, constantValue := 0 }, { name := "hash", type := .int, accessFlags := 2, slot := 2, constantValue := 0 }]
  methods := #[]
  instanceTypes := #[(.object "java/lang/String"), .int, .int]
  staticTypes := #[]
  resolved := Array.replicate 204 none
  statics := none }

def pool6 : Array CpInfo := pool [(1, .class_ 2), (0, u "com/example/gridpost/gridpost/store/State"), (2, u "NEW"), (0, u "Lcom/example/gridpost/gridpost/store/State;"), (2, u "PENDING"), (2, u "QUEUED"), (2, u "RUNNING"), (2, u "PAUSED"), (0, .fieldref 1 20), (0, .nameAndType 21 6), (0, u "FINISHED"), (0, .fieldref 1 23), (0, .nameAndType 24 6), (0, u "ABORTED"), (2, u "$VALUES"), (0, u "[Lcom/example/gridpost/gridpost/store/State;"), (6, .class_ 37), (1, u "java/lang/Enum"), (8, u "wireName"), (0, u "Ljava/lang/String;"), (56, u "ended"), (0, u "()Z")] 7

def k6c0 : Code := { maxStack := 2, maxLocals := 1, code := prog_41_method_5_code, exceptionTable := #[], attributes := #[] }
def k6m0 : Method := { name := "ended", desc := "()Z", sig := { parameters := [], returnType := some .boolean }, accessFlags := 1, code := some k6c0 }
/-- com/example/gridpost/gridpost/store/State -/
def k6 : Class := { plain "com/example/gridpost/gridpost/store/State" (some 5) with
  accessFlags := 16433
  interfaces := #[]
  cf := some (fileOf pool6 1 #[] #[{ accessFlags := 1, nameIndex := 104, descriptorIndex := 105, attributes := #[] }] 16433 35 #[] #[{ accessFlags := 16409, nameIndex := 5, descriptorIndex := 6, attributes := #[] }, { accessFlags := 16409, nameIndex := 9, descriptorIndex := 6, attributes := #[] }, { accessFlags := 16409, nameIndex := 12, descriptorIndex := 6, attributes := #[] }, { accessFlags := 16409, nameIndex := 15, descriptorIndex := 6, attributes := #[] }, { accessFlags := 16409, nameIndex := 18, descriptorIndex := 6, attributes := #[] }, { accessFlags := 16409, nameIndex := 21, descriptorIndex := 6, attributes := #[] }, { accessFlags := 16409, nameIndex := 24, descriptorIndex := 6, attributes := #[] }, { accessFlags := 18, nameIndex := 46, descriptorIndex := 47, attributes := #[] }, { accessFlags := 4122, nameIndex := 27, descriptorIndex := 28, attributes := #[] }])
  fields := #[{ name := "NEW", type := (.object "com/example/gridpost/gridpost/store/State"), accessFlags := 16409, slot := 0, constantValue := 0 }, { name := "PENDING", type := (.object "com/example/gridpost/gridpost/store/State"), accessFlags := 16409, slot := 1, constantValue := 0 }, { name := "QUEUED", type := (.object "com/example/gridpost/gridpost/store/State"), accessFlags := 16409, slot := 2, constantValue := 0 }, { name := "RUNNING", type := (.object "com/example/gridpost/gridpost/store/State"), accessFlags := 16409, slot := 3, constantValue := 0 }, { name := "PAUSED", type := (.object "com/example/gridpost/gridpost/store/State"), accessFlags := 16409, slot := 4, constantValue := 0 }, { name := "FINISHED", type := (.object "com/example/gridpost/gridpost/store/State"), accessFlags := 16409, slot := 5, constantValue := 0 }, { name := "ABORTED", type := (.object "com/example/gridpost/gridpost/store/State"), accessFlags := 16409, slot := 6, constantValue := 0 }, { name := "wireName", type := (.object "java/lang/String"), accessFlags := 18, slot := 3, constantValue := 0 }, { name := "$VALUES", type := (.array (.object "com/example/gridpost/gridpost/store/State")), accessFlags := 4122, slot := 7, constantValue := 0 }]
  methods := #[k6m0]
  instanceTypes := #[(.object "java/lang/String"), .int, .int, (.object "java/lang/String")]
  staticTypes := #[(.object "com/example/gridpost/gridpost/store/State"), (.object "com/example/gridpost/gridpost/store/State"), (.object "com/example/gridpost/gridpost/store/State"), (.object "com/example/gridpost/gridpost/store/State"), (.object "com/example/gridpost/gridpost/store/State"), (.object "com/example/gridpost/gridpost/store/State"), (.object "com/example/gridpost/gridpost/store/State"), (.array (.object "com/example/gridpost/gridpost/store/State"))]
  resolved := Array.replicate 113 none
  statics := some 0 }

def pool7 : Array CpInfo := pool [(1, u "java/lang/Cloneable"), (0, .class_ 1), (0, u "java/lang/Object"), (0, .class_ 3)] 3

/-- java/lang/Cloneable -/
def k7 : Class := { plain "java/lang/Cloneable" (some 0) with
  accessFlags := 1537
  interfaces := #[]
  cf := some (fileOf pool7 2 #[] #[] 1537 4 #[] #[])
  fields := #[]
  methods := #[]
  instanceTypes := #[]
  staticTypes := #[]
  resolved := Array.replicate 8 none
  statics := none }

/-- the primitive byte -/
def k8 : Class := { plain "byte" none with kind := .primitive 'B', accessFlags := 0x411 }
/-- [B -/
def k9 : Class := { plain "[B" (some 0) with kind := .array 8 .byte, interfaces := #[7, 4], accessFlags := 1041 }

/-- the primitive int -/
def k10 : Class := { plain "int" none with kind := .primitive 'I', accessFlags := 0x411 }
/-- [I -/
def k11 : Class := { plain "[I" (some 0) with kind := .array 10 .int, interfaces := #[7, 4], accessFlags := 1041 }

/-- [Lcom/example/gridpost/gridpost/store/State; -/
def k12 : Class := { plain "[Lcom/example/gridpost/gridpost/store/State;" (some 0) with kind := .array 6 (.object "com/example/gridpost/gridpost/store/State"), interfaces := #[7, 4], accessFlags := 1041 }

def heap : Heap := #[{ cls := 6, slots := #[.ref 1, .ref 2, .ref 3, .ref 4, .ref 5, .ref 6, .ref 7, .null], vm := .statics 6 },
  { cls := 6, slots := #[.null, .int 0, .int 0, .null], vm := .none },
  { cls := 6, slots := #[.null, .int 1, .int 0, .null], vm := .none },
  { cls := 6, slots := #[.null, .int 2, .int 0, .null], vm := .none },
  { cls := 6, slots := #[.null, .int 3, .int 0, .null], vm := .none },
  { cls := 6, slots := #[.null, .int 4, .int 0, .null], vm := .none },
  { cls := 6, slots := #[.null, .int 5, .int 0, .null], vm := .none },
  { cls := 6, slots := #[.null, .int 6, .int 0, .null], vm := .none }]
def classes : Array Class := #[k0, k1, k2, k3, k4, k5, k6, k7, k8, k9, k10, k11, k12]
def interned : List (Array UInt16 × Addr) := []
def slotsUsed : Nat := 36
def theMethod : MethodId := ⟨1, 1⟩
def args0 : Array Value := #[.int 5]
def aboutOver (below : List Frame) : State where
  vm := { classes := classes, interned := interned.toArray }
  heap := heap
  slotsUsed := slotsUsed
  threads := #[{ frames := .invoking theMethod args0 :: below }]
def below0 : List Frame := [.native { method := ⟨0, 0⟩, args := #[] }]
def about1 : State := aboutOver below0
def p0 : Program := .bare "" "" ""
def e0 : Env := launch0.env 0 0 0
theorem w_frames : about1.frames = Frame.invoking theMethod args0 :: below0 := rfl
set_option maxRecDepth 65536 in
theorem w_args : argsFit about1.vm theMethod args0 = true := by decide +kernel
set_option maxRecDepth 65536 in
theorem w_heap : heapFits about1 = true := by decide +kernel
set_option maxRecDepth 65536 in
theorem w_runnable : about1.curStatus? = some .runnable := by decide +kernel
set_option maxRecDepth 65536 in
theorem w_alone : about1.alone = true := by decide +kernel
set_option maxRecDepth 65536 in
theorem w_named : about1.methodNamed? x = some theMethod := by decide +kernel
set_option maxRecDepth 65536 in
theorem w_hears : about1.hears theMethod below0 = true := by decide +kernel
set_option maxRecDepth 65536 in
theorem w_ripe : about1.ripe theMethod args0 below0 = true := by decide +kernel
theorem w_running : about1.status = .running := rfl
set_option maxRecDepth 65536 in
theorem w_room : about1.hasRoom e0.platform room_1 = true :=
  launch0.hasRoom_least _ room_1 (by decide +kernel) (by decide +kernel) (by decide +kernel) (by decide +kernel) (by decide +kernel) (by decide +kernel)
theorem allAtoms_all (ts : List Jvm.Cond) (a : Array Jvm.Value) (st : Jvm.State) : (allAtoms ts).before a st = ts.all (fun c => c.before a st) := by
  induction ts with
  | nil => rfl
  | cons c t ih =>
    show (Jvm.Cond.and c (allAtoms t)).before a st = _
    rw [Jvm.Cond.before_and, ih, List.all_cons]
def words1 : List Jvm.Cond := Jvm.Cond.code x code maxLocals ret :: tables_1
/-- a 'code' word, met by the world's own term for the bytes: nothing is compared byte by byte -/
theorem code_word {y : MethodName} {bytes : ByteArray} {mx : Nat} {rt : Option FieldType} {a : Array Value} {s : State} {m : MethodId} {meth : Method} {c : Code} (h1 : s.methodNamed? y = some m) (h2 : s.vm.method? m = some meth) (h3 : meth.code = some c) (h4 : c.code = bytes)
    (h5 : (c.maxLocals == mx && c.exceptionTable.isEmpty && decide (c.maxStack ≤ mostOperands) && decide (meth.sig.returnType = rt) && !meth.locks && decide (parseMethodDescriptor y.desc = some meth.sig)) = true) : (Jvm.Cond.code y bytes mx rt).before a s = true := by
  simp only [Bool.and_eq_true, beq_iff_eq, Bool.not_eq_true', decide_eq_true_eq] at h5
  obtain ⟨⟨⟨⟨⟨g1, g2⟩, g3⟩, g4⟩, g5⟩, g6⟩ := h5
  simp [Cond.before, Cond.holds, Cond.value, h1, h2, h3, h4, g1, g2, g3, g4, g5, g6]
def isCode : Jvm.Cond → Bool
  | .code _ _ _ _ => true
  | _ => false
theorem all_split {L : List Jvm.Cond} {P : Jvm.Cond → Bool} (h1 : L.all (fun c => isCode c || P c) = true) (h2 : ∀ c ∈ L.filter isCode, P c = true) : L.all P = true := by
  refine List.all_eq_true.mpr fun c hc => ?_
  have h := List.all_eq_true.mp h1 c hc
  rcases Bool.eq_false_or_eq_true (isCode c) with hi | hi
  · exact h2 c (List.mem_filter.mpr ⟨hc, hi⟩)
  · simpa [hi] using h
set_option maxRecDepth 65536 in
theorem w_c0 : (Jvm.Cond.code x code maxLocals ret).before args0 about1 = true := code_word (m := ⟨1, 1⟩) (meth := k1m1) (c := k1c1) (by decide +kernel) rfl rfl rfl (by decide +kernel)
set_option maxRecDepth 65536 in
theorem w_c1 : (Jvm.Cond.code ({ cls := "com/example/gridpost/gridpost/store/State", name := "ended", desc := "()Z" } : Jvm.MethodName) prog_41_method_5_code (1 : Nat) (Option.some Jvm.ClassFile.FieldType.boolean)).before args0 about1 = true := code_word (m := ⟨6, 0⟩) (meth := k6m0) (c := k6c0) (by decide +kernel) rfl rfl rfl (by decide +kernel)
def codes1 : List Jvm.Cond := [Jvm.Cond.code x code maxLocals ret, Jvm.Cond.code ({ cls := "com/example/gridpost/gridpost/store/State", name := "ended", desc := "()Z" } : Jvm.MethodName) prog_41_method_5_code (1 : Nat) (Option.some Jvm.ClassFile.FieldType.boolean)]
set_option maxRecDepth 65536 in
theorem codes_eq : words1.filter isCode = codes1 := rfl
theorem w_codes : ∀ c ∈ words1.filter isCode, c.before args0 about1 = true := by
  rw [codes_eq]
  intro c hc
  simp only [codes1, List.mem_cons, List.not_mem_nil, or_false] at hc
  rcases hc with rfl | rfl
  · exact w_c0
  · exact w_c1
set_option maxRecDepth 65536 in
theorem w_t1 : (words1.take 24).all (fun c => isCode c || c.before args0 about1) = true := by decide +kernel
set_option maxRecDepth 65536 in
theorem w_t2 : (words1.drop 24).all (fun c => isCode c || c.before args0 about1) = true := by decide +kernel
theorem w_tables : (allAtoms (Jvm.Cond.code x code maxLocals ret :: tables_1)).before args0 about1 = true := by
  rw [allAtoms_all]
  show words1.all (fun c => c.before args0 about1) = true
  refine all_split ?_ w_codes
  rw [← List.take_append_drop 24 words1, List.all_append, w_t1, w_t2]
  rfl
set_option maxRecDepth 65536 in
theorem w_case : (Jvm.Cond.and given_1 narrow_1).before args0 about1 = true := by decide +kernel
theorem w_applies : (headSpec (Jvm.Cond.code x code maxLocals ret :: tables_1) room_1).applies x e0.platform about1 = true :=
  (Spec.applies_iff w_frames).mpr ⟨w_running, w_runnable, w_alone, w_named, w_hears, w_ripe, w_room, w_tables⟩
theorem atStart : AtStart classFile x code maxLocals ret World_1 tables_1 room_1 Calls_1 rest_1 Pre_1 launch0 p0 e0 about1 theMethod args0 below0 :=
  ⟨lists_1, trivial, launch0.admits_env _ _ _, launch0.least_env, fairChoices_fair.cas, fairChoices_fair.clock, w_frames, w_args, w_heap, w_applies, trivial, trivial, w_case⟩
end start1
theorem witness_1 : WitnessClaimed_1 := ⟨start1.p0, start1.e0, start1.about1, start1.theMethod, start1.args0, start1.below0, start1.atStart⟩
end Jvm.Pilot.@@N@@
