import JvmDerived
import JvmDerived.Pilot.@@N@@Statement
import JvmDerived.Pilot.@@N@@Code
set_option linter.unusedVariables false
set_option linter.unusedSimpArgs false
namespace Jvm.RoadKit
open Sem ClassFile Op Lib Jvm.Stand Jvm.Free Jvm.LawKit
section Own
variable {p : Program} {l : Launch} {e : Env} {R : Room} {s s' : State} {m : MethodId} {args : Array Value} {below : List Frame} {meth : Method} {c : Code} {T : State} {locs : List Loc} {cells slots : Nat} {Z : State} {a0 : Array Value} {h : Heap} {K : Outcome → State → Prop} {Q : Option Value → Heap → List Loc → Prop}
/-- from the state A the run comes to an end that K allows -/
def OwnOk (p : Program) (e : Env) (below : List Frame) (K : Outcome → State → Prop) (A : State) : Prop :=
  ∃ s₂ o, Steps p.tables e below A s₂ ∧ s₂.status = .running ∧ Ended s₂ below o ∧ K o s₂
theorem own_up {A B : State} (h : ∀ t, Steps p.tables e below B t → Steps p.tables e below A t) (k : OwnOk p e below K B) : OwnOk p e below K A := by
  obtain ⟨s₂, o, h1, h2⟩ := k
  exact ⟨s₂, o, h _ h1, h2⟩
theorem own_to {A B : State} (h : Steps p.tables e below A B) (k : OwnOk p e below K B) : OwnOk p e below K A := own_up (fun _ q => h.trans q) k
theorem own_rem64 (x y : Int64) : x - (x / y) * y = x % y := by
  apply Int64.toInt_inj.mp
  have h1 := Int64.le_toInt (x % y)
  have h2 := Int64.toInt_lt (x % y)
  rw [Int64.toInt_sub, Int64.toInt_mul, Int64.toInt_div, Int.bmod_mul_bmod, Int.sub_bmod_bmod, Int.mul_comm (x.toInt.tdiv y.toInt), ← Int.tmod_def, ← Int64.toInt_mod]
  exact Int.bmod_eq_of_le_mul_two (by omega) (by omega)
theorem own_ldiv {g : JFrame} {target : State} (X : Stand p l e R s m args below meth c T locs cells slots) (hx : p.tables.exec = Jvm.exec) (hg : g.method = m) {x y : Int64} {rest : List Value} (hd : decode c.code g.pc = .ok (.ldiv, 1)) (hs : g.stack = .long y :: .long x :: rest) (hy : y ≠ 0)
    (hr : Steps p.tables e below (T.setTop { g with pc := g.pc + 1, stack := .long (x / y) :: rest }) target) : Steps p.tables e below (T.setTop g) target := by
  have h := X.here
  subst hg
  jvm_step h [h.top, hx, hd, hs, hy, ldiv.wp_sem]
  exact hr
theorem own_lrem {g : JFrame} {target : State} (X : Stand p l e R s m args below meth c T locs cells slots) (hx : p.tables.exec = Jvm.exec) (hg : g.method = m) {x y : Int64} {rest : List Value} (hd : decode c.code g.pc = .ok (.lrem, 1)) (hs : g.stack = .long y :: .long x :: rest) (hy : y ≠ 0)
    (hr : Steps p.tables e below (T.setTop { g with pc := g.pc + 1, stack := .long (x % y) :: rest }) target) : Steps p.tables e below (T.setTop g) target := by
  have h := X.here
  rw [← own_rem64] at hr
  subst hg
  jvm_step h [h.top, hx, hd, hs, hy, lrem.wp_sem]
  exact hr
theorem own_ar {h1 h2 : Heap} {b : Addr} {cl : Cell} (q : h1 = h2) (r : h2[b]? = some cl) : h1[b]? = some cl := by rw [q]; exact r
theorem own_n0 {n0 : Nat} (X : Old Z n0 h) : n0 ≤ h.size := X.1 ▸ X.2.1
theorem own_ref_eq {a b : Addr} (q : a = b) : Value.ref a = Value.ref b := congrArg Value.ref q
theorem own_ref_ne {a b : Addr} (q : ¬ a = b) : ¬ Value.ref a = Value.ref b := fun r => q (Value.ref.inj r)
theorem own_jtlt {x y : Int64} (h : x < y) : ifCond.holds .lt (lcmpW x y) = true ∧ ifCond.holds .ge (lcmpW x y) = false ∧ ifCond.holds .gt (lcmpW y x) = true ∧ ifCond.holds .le (lcmpW y x) = false := by
  have q1 : lcmpW x y < 0 := by rw [lcW]; exact (lc_lt x y).mpr h
  have q2 : (0 : Int32) < lcmpW y x := by rw [lcW]; exact (lc_gt y x).mpr h
  exact ⟨(if0 _ _).trans (tlt q1).1, (if0 _ _).trans (tlt q1).2.1, (if0 _ _).trans (tlt q2).2.2.1, (if0 _ _).trans (tlt q2).2.2.2⟩
theorem own_jflt {x y : Int64} (h : ¬ x < y) : ifCond.holds .lt (lcmpW x y) = false ∧ ifCond.holds .ge (lcmpW x y) = true ∧ ifCond.holds .gt (lcmpW y x) = false ∧ ifCond.holds .le (lcmpW y x) = true := by
  have q1 : ¬ lcmpW x y < 0 := by rw [lcW]; exact fun q => h ((lc_lt x y).mp q)
  have q2 : ¬ (0 : Int32) < lcmpW y x := by rw [lcW]; exact fun q => h ((lc_gt y x).mp q)
  exact ⟨(if0 _ _).trans (flt q1).1, (if0 _ _).trans (flt q1).2.1, (if0 _ _).trans (flt q2).2.2.1, (if0 _ _).trans (flt q2).2.2.2⟩
theorem own_jteq {x y : Int64} (h : x = y) : ifCond.holds .eq (lcmpW x y) = true ∧ ifCond.holds .ne (lcmpW x y) = false := by
  have q1 : lcmpW x y = 0 := by rw [lcW]; exact (lc_eq x y).mpr h
  exact ⟨(if0 _ _).trans (teq q1).1, (if0 _ _).trans (teq q1).2⟩
theorem own_jfeq {x y : Int64} (h : ¬ x = y) : ifCond.holds .eq (lcmpW x y) = false ∧ ifCond.holds .ne (lcmpW x y) = true := by
  have q1 : ¬ lcmpW x y = 0 := by rw [lcW]; exact fun q => h ((lc_eq x y).mp q)
  exact ⟨(if0 _ _).trans (feq q1).1, (if0 _ _).trans (feq q1).2⟩
theorem own_fldEq {t : Term} {a : Addr} {C n d : String} {z : Int32} (ev : t.eval args Z none [] Z = some (.ref a)) (q : (Cond.eq (.field t C n d) (.int z)).value args Z none Z [] = some true) : Fld Z Z.heap a C n d (.int z) := by
  obtain ⟨x, y, h1, h2, h3, h4⟩ := cmp_v (Or.inl q)
  have e2 : y = .int z := by simpa [Term.eval] using h2.symm
  subst e2
  obtain ⟨w, rfl⟩ := h4
  have hw : w = z := by
    have q' := q
    rw [Cond.eq_ints h1 h2] at q'
    exact of_decide_eq_true (Option.some.inj q')
  subst hw
  rw [fld_at ev] at h1
  exact Fld.start h1
/-- the end of a body that interns nothing -/
def own_K (s : State) (Q : Option Value → Heap → List Loc → Prop) (k n : Nat) (o : Outcome) (u : State) : Prop := ∃ v L, o = .returned v ∧ Q v u.heap L ∧ FrameEnd s o u L k n
/-- a body's contract -/
def own_Met (l : Launch) (Z : State) (y : MethodName) (bytes : ByteArray) (maxL : Nat) (ret : Option FieldType) (rm : Room) (as' : Array Value) (h0 : Heap) (Q : Option Value → Heap → List Loc → Prop) : Prop :=
  ∀ ws, MetFree l y (head1 (Cond.code y bytes maxL ret :: ws) rm) (fun a U => a = as' ∧ Z.Warmed39 U.vm ∧ U.heap = h0) (fun _ _ _ _ _ => True) (fun _ U o U' => own_K U Q rm.cells rm.slots o U')
theorem own_body {y : MethodName} {bytes : ByteArray} {maxL : Nat} {ret : Option FieldType} {rm : Room} {as' : Array Value} {L0 : Array Slot}
    (hpl : plainFor y = true) (ef : ∀ m, entryFrame m as' maxL = mkF m 0 L0 [])
    (body : ∀ (p : Program) (e : Env) (s : State) (m : MethodId) (below : List Frame) (meth : Method) (c : Code) (s₁ : State), p.tables.exec = Jvm.exec → c.code = bytes → c.maxLocals = maxL → Z.Warmed39 s.vm → s.vm.findClass y.cls = some m.cls → meth.name = y.name → meth.sig.returnType = ret → meth.locks = false →
      Stand p l e rm s m as' below meth c s₁ [] 0 0 → s₁.heap = h → OwnOk p e below (own_K s Q rm.cells rm.slots) (s₁.setTop (mkF m 0 L0 []))) :
    own_Met l Z y bytes maxL ret rm as' h Q := by
  intro ws
  refine MetFree.of_bodySF hpl hisR ?_
  intro p e s m args below meth c s₁ Bd hml0 hP hK
  obtain ⟨rfl, hZ, hh⟩ := hP
  have q := body p e s m below meth c s₁ Bd.exec Bd.bytes hml0 hZ (findClass_of_methodNamed Bd.named) (name_of_methodNamed Bd.named Bd.method).1 Bd.returns Bd.notSynchronized (Stand.of_body Bd) (by rw [← hh, Bd.state]; rfl)
  rw [← ef] at q
  exact q
theorem own_ret (X : Stand p l e R s m args below meth c T locs cells slots) {F : JFrame} {v : Option Value} (hv : meth.sig.returnType = none → v = none) (hlk : meth.locks = false)
    (st : ∀ fs, (∀ (f : JFrame) (acts : List Action), f.method = m → f.locked = none → f.entered = [] → (doReturn e (T.setTop f) acts v).1 = T.setFrames fs) → Steps p.tables e below (T.setTop F) (T.setFrames fs))
    (eT : T.heap = h) (hQ : Q v h locs) {k n : Nat} (hk : cells ≤ k) (hn : slots ≤ n) : OwnOk p e below (own_K s Q k n) (T.setTop F) := by
  obtain ⟨fs, hr, hrun, hended, hW, hsame⟩ := X.leave hv hlk
  refine ⟨_, _, st fs hr, hrun, hended, v, locs, rfl, ?_, ⟨_, rfl⟩, hW, hsame.mono hk hn⟩
  show Q v T.heap locs
  rw [eT]; exact hQ
theorem own_retN (X : Stand p l e R s m args below meth c T locs cells slots) (hx : p.tables.exec = Jvm.exec) {t : FieldType} (hret : meth.sig.returnType = some t) (ht : t = .boolean ∨ t = .byte ∨ t = .char ∨ t = .short) (hlk : meth.locks = false)
    {pc : Nat} {Ls : Array Slot} {z z' : Int32} {rest : List Value} (hd : decode c.code pc = .ok (.ireturn, 1)) (hz : nar t z = z') (eT : T.heap = h) {k n : Nat} (hk : cells ≤ k) (hn : slots ≤ n) (hQ : Q (some (.int z')) h locs) :
    OwnOk p e below (own_K s Q k n) (T.setTop (mkF m pc Ls (.int z :: rest))) := by
  subst hz
  exact own_ret X (fun q => by rw [hret] at q; cases q) hlk (fun fs hr => retN X hx hret ht hd hr) eT hQ hk hn
theorem own_retI (X : Stand p l e R s m args below meth c T locs cells slots) (hx : p.tables.exec = Jvm.exec) (hret : meth.sig.returnType = some .int) (hlk : meth.locks = false)
    {pc : Nat} {Ls : Array Slot} {z : Int32} {rest : List Value} (hd : decode c.code pc = .ok (.ireturn, 1)) (eT : T.heap = h) {k n : Nat} (hk : cells ≤ k) (hn : slots ≤ n) (hQ : Q (some (.int z)) h locs) :
    OwnOk p e below (own_K s Q k n) (T.setTop (mkF m pc Ls (.int z :: rest))) :=
  own_ret X (fun q => by rw [hret] at q; cases q) hlk (fun fs hr => retOut X hx hret rfl (Or.inl ⟨rfl, Or.inl rfl, z, rfl⟩) hd hr) eT hQ hk hn
theorem own_retJ (X : Stand p l e R s m args below meth c T locs cells slots) (hx : p.tables.exec = Jvm.exec) (hret : meth.sig.returnType = some .long) (hlk : meth.locks = false)
    {pc : Nat} {Ls : Array Slot} {z : Int64} {rest : List Value} (hd : decode c.code pc = .ok (.lreturn, 1)) (eT : T.heap = h) {k n : Nat} (hk : cells ≤ k) (hn : slots ≤ n) (hQ : Q (some (.long z)) h locs) :
    OwnOk p e below (own_K s Q k n) (T.setTop (mkF m pc Ls (.long z :: rest))) :=
  own_ret X (fun q => by rw [hret] at q; cases q) hlk (fun fs hr => retOut X hx hret rfl (Or.inr (Or.inl ⟨rfl, rfl, z, rfl⟩)) hd hr) eT hQ hk hn
theorem own_retR (X : Stand p l e R s m args below meth c T locs cells slots) (hx : p.tables.exec = Jvm.exec) {t : FieldType} (hret : meth.sig.returnType = some t) (ht : t.isReference = true) (hlk : meth.locks = false)
    {pc : Nat} {Ls : Array Slot} {w : Value} {rest : List Value} (hw : w.isRef = true) (hd : decode c.code pc = .ok (.areturn, 1)) (eT : T.heap = h) {k n : Nat} (hk : cells ≤ k) (hn : slots ≤ n) (hQ : Q (some w) h locs) :
    OwnOk p e below (own_K s Q k n) (T.setTop (mkF m pc Ls (w :: rest))) :=
  own_ret X (fun q => by rw [hret] at q; cases q) hlk (fun fs hr => retOut X hx hret (by rcases ref_cases hw with rfl | ⟨a, rfl⟩ <;> cases t <;> rfl) (Or.inr (Or.inr (Or.inr (Or.inr ⟨rfl, ht, hw⟩)))) hd hr) eT hQ hk hn
theorem own_retV (X : Stand p l e R s m args below meth c T locs cells slots) (hx : p.tables.exec = Jvm.exec) (hret : meth.sig.returnType = none) (hlk : meth.locks = false)
    {pc : Nat} {Ls : Array Slot} (hd : decode c.code pc = .ok (.return_, 1)) (eT : T.heap = h) {k n : Nat} (hk : cells ≤ k) (hn : slots ≤ n) (hQ : Q none h locs) :
    OwnOk p e below (own_K s Q k n) (T.setTop (mkF m pc Ls [])) :=
  own_ret X (fun _ => rfl) hlk (fun fs hr => X.returnOut hx hret hd hr) eT hQ hk hn
/-- who pays a call: Back, in the form that backOf and the pasted String laws have -/
def own_Bk (l : Launch) (R : Room) (p : Program) (e : Env) (below : List Frame) (s : State) (args : Array Value) (y : MethodName) (len W : Nat) (as' : Array Value) (h : Heap) (kc ks : Nat) (Q : Option Value → Heap → List Loc → Prop) : Prop :=
  Back l R p e below s args y len W (fun A a => a = as' ∧ A.U.heap = h ∧ A.cells + kc ≤ R.cells ∧ A.slots + ks ≤ R.slots) (fun A _ v B => ∃ L, Q v B.U.heap L ∧ B.locs = A.locs ++ L ∧ B.cells = A.cells + kc ∧ B.slots = A.slots + ks)
theorem own_bk {y : MethodName} {bytes : ByteArray} {maxL : Nat} {ret : Option FieldType} {rm : Room} {len W : Nat} {as' : Array Value} (hM : own_Met l Z y bytes maxL ret rm as' h Q) (hZ : Z.Warmed39 s.vm) (w4 : (Cond.code y bytes maxL ret).before a0 Z = true) (w3 : (Cond.initialized y.cls).before a0 Z = true) (hf : rm.frames + 1 ≤ R.frames) (hl : W + (maxL + 11) + rm.locals ≤ R.locals) :
    own_Bk l R p e below s args y len W as' h rm.cells rm.slots Q := backOf (W := W) (hM []) hZ w4 w3 hf hl
/-- a static call -/
theorem own_callSB (X : Stand p l e R s m args below meth c T locs cells slots) (hx : p.tables.exec = Jvm.exec) (hZ : Z.Warmed39 s.vm) {own : String} {index : Nat} {y : MethodName} {bytes : ByteArray} {maxL : Nat} {ret : Option FieldType}
    (hown : s.vm.findClass own = some m.cls) (w1 : (Cond.methodLink own index y).before a0 Z = true) (w2 : (Cond.static y).before a0 Z = true) (w3 : (Cond.initialized y.cls).before a0 Z = true) (w4 : (Cond.code y bytes maxL ret).before a0 Z = true)
    (hy : y.cls ≠ "java/lang/invoke/MethodHandle" ∧ y.cls ≠ "java/lang/invoke/VarHandle") {W kc ks : Nat} {as' : Array Value} {Q' : Option Value → Heap → List Loc → Prop} (hB : own_Bk l R p e below s args y 3 W as' h kc ks Q') (eT : T.heap = h)
    {pc : Nat} {ls : Array Slot} {st argsL rest : List Value} (hsize : ls.size = c.maxLocals) (hlen : ∀ sig, parseMethodDescriptor y.desc = some sig → argsL.length = sig.parameters.length) (has : argsL.toArray = as') (hst : st = argsL.reverse ++ rest)
    (hW : (rest.map fun v => v.category).sum = W) (hd : decode c.code pc = .ok (.invokestatic index, 3)) (hc : cells + kc ≤ R.cells) (hs : slots + ks ≤ R.slots)
    (k : ∀ (T' : State) (v : Option Value) (L : List Loc), Stand p l e R s m args below meth c T' (locs ++ L) (cells + kc) (slots + ks) → Q' v T'.heap L → OwnOk p e below K (T'.setTop (mkF m (pc + 3) ls (v.toList ++ rest)))) :
    OwnOk p e below K (T.setTop (mkF m pc ls st)) := by
  obtain ⟨v, _, ⟨T2, L2, k2, n2⟩, -, X2, ⟨Lc, hQ, l2, y2, z2⟩, st2⟩ := Jvm.LawKit.callS X hx hown (mvT hZ w1) (mvT hZ w2) (mvT hZ w3) (mvT hZ w4) hy hB
    (g := mkF m pc ls st) rfl hsize (argsL := argsL) (rest := rest) hlen hst (by show 2 * 0 + _ ≤ _; rw [hW]; omega) hd (fun _ _ => ⟨has, eT, hc, hs⟩)
  dsimp only [Pt.U, Pt.locs, Pt.cells, Pt.slots] at X2 l2 y2 z2 st2 hQ
  subst l2 y2 z2
  exact own_up st2 (k _ _ _ X2 hQ)
theorem own_callS (X : Stand p l e R s m args below meth c T locs cells slots) (hx : p.tables.exec = Jvm.exec) (hZ : Z.Warmed39 s.vm) {own : String} {index : Nat} {y : MethodName} {bytes : ByteArray} {maxL : Nat} {ret : Option FieldType}
    (hown : s.vm.findClass own = some m.cls) (w1 : (Cond.methodLink own index y).before a0 Z = true) (w2 : (Cond.static y).before a0 Z = true) (w3 : (Cond.initialized y.cls).before a0 Z = true) (w4 : (Cond.code y bytes maxL ret).before a0 Z = true)
    (hy : y.cls ≠ "java/lang/invoke/MethodHandle" ∧ y.cls ≠ "java/lang/invoke/VarHandle") {rm : Room} {as' : Array Value} {Q' : Option Value → Heap → List Loc → Prop} (hM : own_Met l Z y bytes maxL ret rm as' h Q') (eT : T.heap = h)
    {pc W : Nat} {ls : Array Slot} {st argsL rest : List Value} (hsize : ls.size = c.maxLocals) (hlen : ∀ sig, parseMethodDescriptor y.desc = some sig → argsL.length = sig.parameters.length) (has : argsL.toArray = as') (hst : st = argsL.reverse ++ rest)
    (hW : (rest.map fun v => v.category).sum = W) (hd : decode c.code pc = .ok (.invokestatic index, 3)) (hf : rm.frames + 1 ≤ R.frames) (hl : W + (maxL + 11) + rm.locals ≤ R.locals) (hc : cells + rm.cells ≤ R.cells) (hs : slots + rm.slots ≤ R.slots)
    (k : ∀ (T' : State) (v : Option Value) (L : List Loc), Stand p l e R s m args below meth c T' (locs ++ L) (cells + rm.cells) (slots + rm.slots) → Q' v T'.heap L → OwnOk p e below K (T'.setTop (mkF m (pc + 3) ls (v.toList ++ rest)))) :
    OwnOk p e below K (T.setTop (mkF m pc ls st)) := own_callSB X hx hZ hown w1 w2 w3 w4 hy (own_bk hM hZ w4 w3 hf hl) eT hsize hlen has hst hW hd hc hs k
/-- a constructor -/
theorem own_callCB (X : Stand p l e R s m args below meth c T locs cells slots) (hx : p.tables.exec = Jvm.exec) (hZ : Z.Warmed39 s.vm) {own : String} {index : Nat} {y : MethodName} {bytes : ByteArray} {maxL : Nat} (hy1 : y.name = "<init>")
    (hown : s.vm.findClass own = some m.cls) (w1 : (Cond.methodLink own index y).before a0 Z = true) (w2 : (Cond.instanceMethod y).before a0 Z = true) (w4 : (Cond.code y bytes maxL none).before a0 Z = true)
    (hy : y.cls ≠ "java/lang/invoke/MethodHandle" ∧ y.cls ≠ "java/lang/invoke/VarHandle") {W kc ks : Nat} {as' : Array Value} {Q' : Option Value → Heap → List Loc → Prop} (hB : own_Bk l R p e below s args y 3 W as' h kc ks Q') (eT : T.heap = h)
    {pc : Nat} {ls : Array Slot} {a : Addr} {st argsL rest : List Value} (hsize : ls.size = c.maxLocals) (hlen : ∀ sig, parseMethodDescriptor y.desc = some sig → argsL.length = sig.parameters.length) (has : (Value.ref a :: argsL).toArray = as') (hst : st = argsL.reverse ++ .ref a :: rest)
    (hW : (rest.map fun v => v.category).sum = W) (hd : decode c.code pc = .ok (.invokespecial index, 3)) (hc : cells + kc ≤ R.cells) (hs : slots + ks ≤ R.slots)
    (k : ∀ (T' : State) (v : Option Value) (L : List Loc), Stand p l e R s m args below meth c T' (locs ++ L) (cells + kc) (slots + ks) → Q' v T'.heap L → OwnOk p e below K (T'.setTop (mkF m (pc + 3) ls (v.toList ++ rest)))) :
    OwnOk p e below K (T.setTop (mkF m pc ls st)) := by
  obtain ⟨v, _, ⟨T2, L2, k2, n2⟩, -, X2, ⟨Lc, hQ, l2, y2, z2⟩, st2⟩ := X.specialBack hx hy1 hown (mvT hZ w1) (mvT hZ w2) (mvT hZ w4) hy hB
    (g := mkF m pc ls st) rfl hsize (Steps.refl _) (a := a) (argsL := argsL) (rest := rest) hlen hst (by show 2 * 0 + _ ≤ _; rw [hW]; omega) hd (fun _ _ => ⟨has, eT, hc, hs⟩)
  dsimp only [Pt.U, Pt.locs, Pt.cells, Pt.slots] at X2 l2 y2 z2 st2 hQ
  subst l2 y2 z2
  exact own_to st2 (k _ _ _ X2 hQ)
theorem own_callC (X : Stand p l e R s m args below meth c T locs cells slots) (hx : p.tables.exec = Jvm.exec) (hZ : Z.Warmed39 s.vm) {own : String} {index : Nat} {y : MethodName} {bytes : ByteArray} {maxL : Nat} (hy1 : y.name = "<init>")
    (hown : s.vm.findClass own = some m.cls) (w1 : (Cond.methodLink own index y).before a0 Z = true) (w2 : (Cond.instanceMethod y).before a0 Z = true) (w3 : (Cond.initialized y.cls).before a0 Z = true) (w4 : (Cond.code y bytes maxL none).before a0 Z = true)
    (hy : y.cls ≠ "java/lang/invoke/MethodHandle" ∧ y.cls ≠ "java/lang/invoke/VarHandle") {rm : Room} {as' : Array Value} {Q' : Option Value → Heap → List Loc → Prop} (hM : own_Met l Z y bytes maxL none rm as' h Q') (eT : T.heap = h)
    {pc W : Nat} {ls : Array Slot} {a : Addr} {st argsL rest : List Value} (hsize : ls.size = c.maxLocals) (hlen : ∀ sig, parseMethodDescriptor y.desc = some sig → argsL.length = sig.parameters.length) (has : (Value.ref a :: argsL).toArray = as') (hst : st = argsL.reverse ++ .ref a :: rest)
    (hW : (rest.map fun v => v.category).sum = W) (hd : decode c.code pc = .ok (.invokespecial index, 3)) (hf : rm.frames + 1 ≤ R.frames) (hl : W + (maxL + 11) + rm.locals ≤ R.locals) (hc : cells + rm.cells ≤ R.cells) (hs : slots + rm.slots ≤ R.slots)
    (k : ∀ (T' : State) (v : Option Value) (L : List Loc), Stand p l e R s m args below meth c T' (locs ++ L) (cells + rm.cells) (slots + rm.slots) → Q' v T'.heap L → OwnOk p e below K (T'.setTop (mkF m (pc + 3) ls (v.toList ++ rest)))) :
    OwnOk p e below K (T.setTop (mkF m pc ls st)) := own_callCB X hx hZ hy1 hown w1 w2 w4 hy (own_bk hM hZ w4 w3 hf hl) eT hsize hlen has hst hW hd hc hs k
/-- an instance method: the body that the receiver's class selects -/
theorem own_callVB (X : Stand p l e R s m args below meth c T locs cells slots) (hx : p.tables.exec = Jvm.exec) (hZ : Z.Warmed39 s.vm) {own C : String} {index : Nat} {y z : MethodName}
    (hown : s.vm.findClass own = some m.cls) (w1 : (Cond.methodLink own index y).before a0 Z = true) (w2 : (Cond.declares y).before a0 Z = true) (hnf : NotFace s y) (w5 : (Cond.selects C y z).before a0 Z = true) (w6 : (Cond.instanceMethod z).before a0 Z = true)
    (hy : y.cls ≠ "java/lang/invoke/MethodHandle" ∧ y.cls ≠ "java/lang/invoke/VarHandle") {W kc ks : Nat} {as' : Array Value} {Q' : Option Value → Heap → List Loc → Prop} (hB : own_Bk l R p e below s args z 3 W as' h kc ks Q') (eT : T.heap = h)
    {pc : Nat} {ls : Array Slot} {a : Addr} {st argsL rest : List Value} (E : Exa Z h a C) (hsize : ls.size = c.maxLocals) (hlen : ∀ sig, parseMethodDescriptor y.desc = some sig → argsL.length = sig.parameters.length) (has : (Value.ref a :: argsL).toArray = as') (hst : st = argsL.reverse ++ .ref a :: rest)
    (hW : (rest.map fun v => v.category).sum = W) (hd : decode c.code pc = .ok (.invokevirtual index, 3)) (hc : cells + kc ≤ R.cells) (hs : slots + ks ≤ R.slots)
    (k : ∀ (T' : State) (v : Option Value) (L : List Loc), Stand p l e R s m args below meth c T' (locs ++ L) (cells + kc) (slots + ks) → Q' v T'.heap L → OwnOk p e below K (T'.setTop (mkF m (pc + 3) ls (v.toList ++ rest)))) :
    OwnOk p e below K (T.setTop (mkF m pc ls st)) := by
  obtain ⟨cq, kq, qa, qb, qc⟩ := isOf hZ eT E
  obtain ⟨v, _, ⟨T2, L2, k2, n2⟩, -, X2, ⟨Lc, hQ, l2, y2, z2⟩, st2⟩ := X.virtualBack hx (y := y) (z := z) hown (mvT hZ w1) (mvT hZ w2) hnf (mvT hZ w5) (mvT hZ w6) hy hB qa qc
    (g := mkF m pc ls st) rfl hsize (Steps.refl _) (argsL := argsL) (rest := rest) hlen hst (by show 2 * 0 + _ ≤ _; rw [hW]; omega) hd (fun _ _ => ⟨has, eT, hc, hs⟩)
  dsimp only [Pt.U, Pt.locs, Pt.cells, Pt.slots] at X2 l2 y2 z2 st2 hQ
  subst l2 y2 z2
  exact own_to st2 (k _ _ _ X2 hQ)
theorem own_callV (X : Stand p l e R s m args below meth c T locs cells slots) (hx : p.tables.exec = Jvm.exec) (hZ : Z.Warmed39 s.vm) {own C : String} {index : Nat} {y z : MethodName} {bytes : ByteArray} {maxL : Nat} {ret : Option FieldType}
    (hown : s.vm.findClass own = some m.cls) (w1 : (Cond.methodLink own index y).before a0 Z = true) (w2 : (Cond.declares y).before a0 Z = true) (hnf : NotFace s y) (w5 : (Cond.selects C y z).before a0 Z = true) (w6 : (Cond.instanceMethod z).before a0 Z = true) (w3 : (Cond.initialized z.cls).before a0 Z = true) (w4 : (Cond.code z bytes maxL ret).before a0 Z = true)
    (hy : y.cls ≠ "java/lang/invoke/MethodHandle" ∧ y.cls ≠ "java/lang/invoke/VarHandle") {rm : Room} {as' : Array Value} {Q' : Option Value → Heap → List Loc → Prop} (hM : own_Met l Z z bytes maxL ret rm as' h Q') (eT : T.heap = h)
    {pc W : Nat} {ls : Array Slot} {a : Addr} {st argsL rest : List Value} (E : Exa Z h a C) (hsize : ls.size = c.maxLocals) (hlen : ∀ sig, parseMethodDescriptor y.desc = some sig → argsL.length = sig.parameters.length) (has : (Value.ref a :: argsL).toArray = as') (hst : st = argsL.reverse ++ .ref a :: rest)
    (hW : (rest.map fun v => v.category).sum = W) (hd : decode c.code pc = .ok (.invokevirtual index, 3)) (hf : rm.frames + 1 ≤ R.frames) (hl : W + (maxL + 11) + rm.locals ≤ R.locals) (hc : cells + rm.cells ≤ R.cells) (hs : slots + rm.slots ≤ R.slots)
    (k : ∀ (T' : State) (v : Option Value) (L : List Loc), Stand p l e R s m args below meth c T' (locs ++ L) (cells + rm.cells) (slots + rm.slots) → Q' v T'.heap L → OwnOk p e below K (T'.setTop (mkF m (pc + 3) ls (v.toList ++ rest)))) :
    OwnOk p e below K (T.setTop (mkF m pc ls st)) := own_callVB X hx hZ hown w1 w2 hnf w5 w6 hy (own_bk hM hZ w4 w3 hf hl) eT E hsize hlen has hst hW hd hc hs k
end Own
end Jvm.RoadKit
namespace Jvm.RoadKit
open Sem ClassFile Op Lib Jvm.Stand Jvm.Free Jvm.LawKit
section OwnX
variable {p : Program} {l : Launch} {e : Env} {R : Room} {s s' : State} {m : MethodId} {args : Array Value} {below : List Frame} {meth : Method} {c : Code} {T : State} {locs : List Loc} {cells slots : Nat} {Z : State} {a0 : Array Value} {h : Heap} {K : Outcome → State → Prop} {Q : Option Value → Heap → List Loc → Prop}
theorem own_declares {y : MethodName} {bytes : ByteArray} {maxL : Nat} {ret : Option FieldType} (w6 : (Cond.instanceMethod y).before a0 Z = true) (w4 : (Cond.code y bytes maxL ret).before a0 Z = true) : (Cond.declares y).before a0 Z = true := by
  obtain ⟨mk, methM, hnamed, hmethM, hst, hab⟩ := Cond.instanceMethod_spec w6
  obtain ⟨methM', cM, hm', -, -, -, -, -, -, hsig⟩ := Cond.code_spec hnamed w4
  cases hmethM.symm.trans hm'
  simp [Cond.before, Cond.holds, Cond.value, hnamed, hmethM, hst, hsig]
theorem own_nf {y y1 : MethodName} (h : NotFace s y1) (hc : y1.cls = y.cls) (w : (Cond.instanceMethod y1).before a0 s = true) : NotFace s y := fun r0 h0 => by
  obtain ⟨mk, methM, hnamed, -, -, -⟩ := Cond.instanceMethod_spec w
  obtain ⟨kr, q1, q2⟩ := h mk hnamed
  have e1 := findClass_of_methodNamed hnamed
  have e2 := findClass_of_methodNamed h0
  rw [hc] at e1
  have e3 : mk.cls = r0.cls := Option.some.inj (e1.symm.trans e2)
  exact ⟨kr, e3 ▸ q1, q2⟩
theorem own_sameMethod {y : MethodName} (hnf : NotFace Z y) (w6 : (Cond.instanceMethod y).before a0 Z = true) (hy : y.cls ≠ "java/lang/invoke/MethodHandle" ∧ y.cls ≠ "java/lang/invoke/VarHandle") : (Cond.sameMethod y.cls y.cls y.name y.desc).before a0 Z = true := by
  obtain ⟨mk, methM, hnamed, -, -, -⟩ := Cond.instanceMethod_spec w6
  obtain ⟨kr, q1, q2⟩ := hnf mk hnamed
  have e1 := findClass_of_methodNamed hnamed
  have e2 := State.methodFound?_of_named hnamed hy
  have e3 : Z.methodNamed? ⟨y.cls, y.name, y.desc⟩ = some mk := hnamed
  simp [Cond.before, Cond.holds, Cond.value, e1, e2, e3, q1, q2]
/-- super.m(..) -/
theorem own_callUB (X : Stand p l e R s m args below meth c T locs cells slots) (hx : p.tables.exec = Jvm.exec) (hZ : Z.Warmed39 s.vm) {own C : String} {index : Nat} {y : MethodName} {bytes : ByteArray} {maxL : Nat} {ret : Option FieldType}
    (hown : s.vm.findClass own = some m.cls) (w1 : (Cond.methodLink own index y).before a0 Z = true) (w2 : (Cond.sameMethod y.cls y.cls y.name y.desc).before a0 Z = true) (w3 : (Cond.instanceMethod y).before a0 Z = true) (w4 : (Cond.superclass own y.cls).before a0 Z = true) (hn : y.name ≠ "<init>") (wc : (Cond.code y bytes maxL ret).before a0 Z = true)
    {W kc ks : Nat} {as' : Array Value} {Q' : Option Value → Heap → List Loc → Prop} (hB : own_Bk l R p e below s args y 3 W as' h kc ks Q') (eT : T.heap = h)
    {pc : Nat} {ls : Array Slot} {a : Addr} {st argsL rest : List Value} (E : Exa Z h a C) (hsize : ls.size = c.maxLocals) (hlen : ∀ sig, parseMethodDescriptor y.desc = some sig → argsL.length = sig.parameters.length) (has : (Value.ref a :: argsL).toArray = as') (hst : st = argsL.reverse ++ .ref a :: rest)
    (hW : (rest.map fun v => v.category).sum = W) (hd : decode c.code pc = .ok (.invokespecial index, 3)) (hc : cells + kc ≤ R.cells) (hs : slots + ks ≤ R.slots)
    (k : ∀ (T' : State) (v : Option Value) (L : List Loc), Stand p l e R s m args below meth c T' (locs ++ L) (cells + kc) (slots + ks) → Q' v T'.heap L → OwnOk p e below K (T'.setTop (mkF m (pc + 3) ls (v.toList ++ rest)))) :
    OwnOk p e below K (T.setTop (mkF m pc ls st)) := by
  obtain ⟨v, _, ⟨T2, L2, k2, n2⟩, -, X2, ⟨Lc, hQ, l2, y2, z2⟩, st2⟩ := superBack X hx hZ (y := y) hown w1 w2 w3 w4 hn hB eT (Ins.self E)
    (g := mkF m pc ls st) rfl hsize wc (argsL := argsL) (rest := rest) hlen hst (by show 2 * 0 + _ ≤ _; rw [hW]; omega) hd (fun _ _ => ⟨has, eT, hc, hs⟩)
  dsimp only [Pt.U, Pt.locs, Pt.cells, Pt.slots] at X2 l2 y2 z2 st2 hQ
  subst l2 y2 z2
  exact own_to st2 (k _ _ _ X2 hQ)
/-- an array's ints by a function -/
def own_F (n : Nat) (f : Nat → Int32) : List Value := (List.range n).map fun j => Value.int (f j)
theorem own_F_len (n : Nat) (f : Nat → Int32) : (own_F n f).length = n := by simp [own_F]
theorem own_F_get {n : Nat} {f : Nat → Int32} {j : Nat} (hj : j < n) : (own_F n f)[j]? = some (.int (f j)) := by simp [own_F, hj]
theorem own_F_out {n : Nat} {f : Nat → Int32} {j : Nat} (hj : n ≤ j) : (own_F n f)[j]? = none := by rw [List.getElem?_eq_none]; rw [own_F_len]; exact hj
theorem own_F_at {n : Nat} {f : Nat → Int32} {d : Value} {j : Nat} (hj : j < n) : (own_F n f).getD j d = .int (f j) := by rw [List.getD_eq_getElem?_getD, own_F_get hj]; rfl
theorem own_F_congr {n : Nat} {f g : Nat → Int32} (h : ∀ j, j < n → f j = g j) : own_F n f = own_F n g := List.map_congr_left fun j hj => by rw [h j (List.mem_range.mp hj)]
theorem own_F_set {n : Nat} {f : Nat → Int32} {i : Nat} {v : Int32} : (own_F n f).set i (.int v) = own_F n (fun j => if j = i then v else f j) := by
  apply List.ext_getElem?
  intro j
  by_cases hj : j < n
  · rw [own_F_get hj, List.getElem?_set]
    by_cases q : i = j
    · subst q; simp [own_F_len, hj]
    · have q' : ¬ j = i := fun z => q z.symm
      simp [q, q', own_F_get hj]
  · rw [own_F_out (Nat.le_of_not_lt hj), List.getElem?_eq_none]
    rw [List.length_set, own_F_len]; omega
theorem own_newF {a : Addr} {k : ClassId} {ty : FieldType} {z : Int32} (V : Arv Z h a k ty z [] (.int 0)) (n : Nat) : Arv Z h a k ty z (own_F n fun _ => 0) (.int 0) := V.pad fun i => by
  by_cases hi : i < n
  · rw [own_F_at hi]; rfl
  · rw [List.getD_eq_getElem?_getD, own_F_out (Nat.le_of_not_lt hi)]; rfl
theorem own_cl (n : Nat) (hn : n < 2147483648) : (Int32.ofNat n).toNatClampNeg = n := clamp_of rfl hn
theorem own_nn (n : Nat) (hn : n < 2147483648) : ¬ Int32.ofNat n < 0 := by
  rw [Int32.lt_iff_toInt_lt, toInt_of rfl hn]
  have : (0 : Int32).toInt = 0 := rfl
  omega
theorem own_lt {i n : Nat} (hi : i < n) (hn : n < 2147483648) : Int32.ofNat i < Int32.ofNat n := by
  rw [Int32.lt_iff_toInt_lt, toInt_of rfl hn, toInt_of rfl (by omega)]; omega
theorem own_nlt {i n : Nat} (hi : i ≤ n) (hn : n < 2147483648) : ¬ Int32.ofNat n < Int32.ofNat i := by
  rw [Int32.lt_iff_toInt_lt, toInt_of rfl hn, toInt_of rfl (by omega)]; omega
theorem own_shr0 (x : Int32) : x >>> ((0 : Int32) &&& 31) = x := by
  apply Int32.toBitVec_inj.mp
  simp [Int32.toBitVec_shiftRight]
theorem own_shl0 (x : Int32) : x <<< ((0 : Int32) &&& 31) = x := by
  apply Int32.toBitVec_inj.mp
  simp [Int32.toBitVec_shiftLeft]
theorem own_sub_le {i n : Nat} (hi : i ≤ n) (hn : n < 2147483648) : ¬ (0 : Int32) < Int32.ofNat i - Int32.ofNat n := by
  have e0 : (0 : Int32).toInt = 0 := rfl
  rw [Int32.lt_iff_toInt_lt, Int32.toInt_sub, toInt_of rfl hn, toInt_of rfl (by omega), Int.bmod_eq_of_le (by omega) (by omega), e0]; omega
theorem own_sub_gt {i n : Nat} (hi : n < i) (hn : i < 2147483648) : (0 : Int32) < Int32.ofNat i - Int32.ofNat n := by
  have e0 : (0 : Int32).toInt = 0 := rfl
  rw [Int32.lt_iff_toInt_lt, Int32.toInt_sub, toInt_of rfl hn, toInt_of rfl (by omega), Int.bmod_eq_of_le (by omega) (by omega), e0]; omega
theorem own_max18 {g : Nat} (hg : g ≤ 18) : (if (Int32.ofNat g) < (18 : Int32) then (18 : Int32) else (Int32.ofNat g)) = (18 : Int32) := by
  by_cases q : g = 18
  · subst q; rfl
  · exact if_pos (own_lt (i := g) (n := 18) (by omega) (by omega))
theorem own_min {i n : Nat} (hi : i ≤ n) (hn : n < 2147483648) : (if (Int32.ofNat i) < (Int32.ofNat n) then (Int32.ofNat i) else (Int32.ofNat n)) = Int32.ofNat i := by
  by_cases q : i = n
  · subst q; split <;> rfl
  · rw [if_pos (own_lt (by omega) hn)]
theorem own_ofNatEq {i n : Nat} (q : Int32.ofNat i = Int32.ofNat n) (hi : i < 2147483648) (hn : n < 2147483648) : i = n := by
  have := congrArg Int32.toInt q
  rw [toInt_of rfl hn, toInt_of rfl hi] at this; omega
theorem own_ofNat0 {i : Nat} (q : Int32.ofNat i = (0 : Int32)) (hi : i < 2147483648) : i = 0 := own_ofNatEq (n := 0) q hi (by omega)
/-- the place i lies in an array of n -/
theorem own_in {i n : Nat} (hi : i < n) (hn : n < 2147483648) : ¬ Int32.ofNat i < 0 ∧ Int32.ofNat i < Int32.ofNat n := ⟨own_nn i (by omega), own_lt hi hn⟩
theorem own_F_copy {n dp nn sp ns : Nat} {f g : Nat → Int32} (h1 : dp + nn ≤ n) (h2 : sp + nn ≤ ns) : (own_F n f).take dp ++ ((List.range nn).map fun i => (own_F ns g).getD (sp + i) (.int 0)) ++ (own_F n f).drop (dp + nn) = own_F n (fun j => if dp ≤ j ∧ j < dp + nn then g (sp + (j - dp)) else f j) := by
  apply List.ext_getElem?
  intro j
  by_cases hj : j < n
  · rw [own_F_get hj]
    by_cases q1 : j < dp
    · rw [List.append_assoc, List.getElem?_append_left (by rw [List.length_take, own_F_len]; omega), List.getElem?_take_of_lt q1, own_F_get hj, if_neg (by omega)]
    · by_cases q2 : j < dp + nn
      · rw [List.append_assoc, List.getElem?_append_right (by rw [List.length_take, own_F_len]; omega), List.getElem?_append_left (by rw [List.length_map, List.length_range, List.length_take, own_F_len]; omega), List.length_take, own_F_len, Nat.min_eq_left (by omega), if_pos ⟨by omega, q2⟩, List.getElem?_map, List.getElem?_range (by omega)]
        show some ((own_F ns g).getD (sp + (j - dp)) (.int 0)) = _
        rw [own_F_at (by omega)]
      · rw [List.getElem?_append_right (by rw [List.length_append, List.length_map, List.length_range, List.length_take, own_F_len]; omega), List.length_append, List.length_map, List.length_range, List.length_take, own_F_len, Nat.min_eq_left (by omega), List.getElem?_drop, if_neg (by omega)]
        rw [show dp + nn + (j - (dp + nn)) = j by omega, own_F_get hj]
  · rw [own_F_out (Nat.le_of_not_lt hj), List.getElem?_eq_none]
    rw [List.length_append, List.length_append, List.length_map, List.length_range, List.length_take, List.length_drop, own_F_len]
    omega
theorem own_cl3 {a b c : Nat} (ha : a < 2147483648) (hb : b < 2147483648) (hc : c < 2147483648) (h : a + b ≤ c) : (Int32.ofNat a).toNatClampNeg + (Int32.ofNat b).toNatClampNeg ≤ (Int32.ofNat c).toNatClampNeg := by rw [own_cl a ha, own_cl b hb, own_cl c hc]; exact h
theorem own_clF {a b n : Nat} {f : Nat → Int32} (ha : a < 2147483648) (hb : b < 2147483648) (h : a + b ≤ n) : (Int32.ofNat a).toNatClampNeg + (Int32.ofNat b).toNatClampNeg ≤ (own_F n f).length := by rw [own_cl a ha, own_cl b hb, own_F_len]; exact h
theorem own_F_copyI {n dp nn sp ns : Nat} {f g : Nat → Int32} (h1 : dp + nn ≤ n) (h2 : sp + nn ≤ ns) (b1 : dp < 2147483648) (b2 : nn < 2147483648) (b3 : sp < 2147483648) : (own_F n f).take (Int32.ofNat dp).toNatClampNeg ++ ((List.range (Int32.ofNat nn).toNatClampNeg).map fun i => (own_F ns g).getD ((Int32.ofNat sp).toNatClampNeg + i) (.int 0)) ++ (own_F n f).drop ((Int32.ofNat dp).toNatClampNeg + (Int32.ofNat nn).toNatClampNeg) = own_F n (fun j => if dp ≤ j ∧ j < dp + nn then g (sp + (j - dp)) else f j) := by
  rw [own_cl dp b1, own_cl nn b2, own_cl sp b3]
  exact own_F_copy h1 h2
end OwnX
end Jvm.RoadKit
namespace Jvm.RoadKit
open Sem Bundle ClassFile Op Lib Jvm.Stand Jvm.Free Jvm.LawKit
section OwnH
variable {p : Program} {l : Launch} {e : Env} {R : Room} {s s' : State} {m : MethodId} {args : Array Value} {below : List Frame} {meth : Method} {c : Code} {T : State} {locs : List Loc} {cells slots : Nat} {Z : State} {a0 : Array Value} {h h' : Heap} {EL : List (String × Nat)} {x : Addr} {ws : List Addr} {K : Outcome → State → Prop} {Q : Option Value → Heap → List Loc → Prop}
/-- the walk's base: the start with the tables at hand, the literals' invariant kept -/
def own_FrH (Z : State) (EL : List (String × Nat)) (s s' : State) (h : Heap) : Prop := ∃ (vm0 : Vm) (k0 : Nat), s' = s.setVm vm0 ∧ s.Since vm0 k0 ∧ k0 ≤ h.size ∧ CHr Z EL s.vm s.heap vm0 h
theorem own_FrH.start (hh : s.heap = h) (H : CHv Z EL s.vm h) : own_FrH Z EL s s h := ⟨s.vm, 0, rfl, (State.WarmedH.refl s).since 0, Nat.zero_le _, by rw [hh]; exact CHr.refl H⟩
theorem own_FrH.inv (B : own_FrH Z EL s s' h) : CHv Z EL s'.vm h := by
  obtain ⟨vm0, k0, rfl, h2, h3, h4⟩ := B
  exact h4.1
theorem own_FrH.ext (B : own_FrH Z EL s s' h) (E : Ext h h') : own_FrH Z EL s s' h' := by
  obtain ⟨vm0, k0, h1, h2, h3, h4⟩ := B
  exact ⟨vm0, k0, h1, h2, Nat.le_trans h3 E.1, h4.trans (CHr.ext E h4.1)⟩
theorem own_FrH.wr {a : Addr} {sl : Nat} {v : Value} (B : own_FrH Z EL s s' h) (W : Wr h h' a sl v) (S : Safe Z EL s'.vm h a) : own_FrH Z EL s s' h' := by
  obtain ⟨vm0, k0, rfl, h2, h3, h4⟩ := B
  exact ⟨vm0, k0, rfl, h2, Nat.le_trans h3 (Nat.le_of_eq W.size.symm), h4.trans (CHr.wr W S h4.1)⟩
theorem own_FrH.keep (B : own_FrH Z EL s s' h) (K : Keep h h' ws) (hs : ∀ x ∈ ws, Safe Z EL s'.vm h x) : own_FrH Z EL s s' h' := by
  obtain ⟨vm0, k0, rfl, h2, h3, h4⟩ := B
  exact ⟨vm0, k0, rfl, h2, Nat.le_trans h3 K.1, h4.trans (CHr.keep K hs h4.1)⟩
theorem own_FrH.sNew (B : own_FrH Z EL s s' h) (E : Ext h h') (hx : h.size ≤ x) : Safe Z EL s'.vm h' x := Safe.ext E B.inv (Safe.new hx)
theorem own_FrH.sNewK (B : own_FrH Z EL s s' h) (K : Keep h h' ws) (hs : ∀ x ∈ ws, Safe Z EL s'.vm h x) (hx : h.size ≤ x) : Safe Z EL s'.vm h' x := Safe.keep K hs B.inv (Safe.new hx)
theorem own_FrH.sExt (B : own_FrH Z EL s s' h) (E : Ext h h') (S : Safe Z EL s'.vm h x) : Safe Z EL s'.vm h' x := Safe.ext E B.inv S
theorem own_FrH.sWr {a : Addr} {sl : Nat} {v : Value} (B : own_FrH Z EL s s' h) (W : Wr h h' a sl v) (S : Safe Z EL s'.vm h a) (Sx : Safe Z EL s'.vm h x) : Safe Z EL s'.vm h' x := Safe.wr W S B.inv Sx
theorem own_FrH.sKeep (B : own_FrH Z EL s s' h) (K : Keep h h' ws) (hs : ∀ x ∈ ws, Safe Z EL s'.vm h x) (S : Safe Z EL s'.vm h x) : Safe Z EL s'.vm h' x := Safe.keep K hs B.inv S
theorem own_saf0 {vm : Vm} : ∀ x ∈ ([] : List Addr), Safe Z EL vm h x := fun _ q => by cases q
theorem own_safS {vm : Vm} {b : Addr} (S : Safe Z EL vm h b) (q : ∀ x ∈ ws, Safe Z EL vm h x) : ∀ x ∈ b :: ws, Safe Z EL vm h x := fun x hx => by
  rcases List.mem_cons.mp hx with rfl | hx
  · exact S
  · exact q x hx
theorem own_lt0 : ∀ x ∈ ([] : List Addr), x < h.size := fun _ q => by cases q
theorem own_ltS {b : Addr} (S : b < h.size) (q : ∀ x ∈ ws, x < h.size) : ∀ x ∈ b :: ws, x < h.size := fun x hx => by
  rcases List.mem_cons.mp hx with rfl | hx
  · exact S
  · exact q x hx
theorem own_safE {C : String} (hZ : Z.Warmed39 s'.vm) (E : Exa Z h x C) (h1 : C ≠ "java/lang/String") (h2 : C ≠ "[B") : Safe Z EL s'.vm h x := Safe.exa hZ.alike E h1 h2
/-- the end of a body that may intern and keeps the invariant -/
def own_KH (Z : State) (EL : List (String × Nat)) (s : State) (Q : Option Value → Heap → List Loc → Prop) (k n : Nat) (o : Outcome) (u : State) : Prop := ∃ v L, o = .returned v ∧ Q v u.heap L ∧ CHr Z EL s.vm s.heap u.vm u.heap ∧ ReturnedEndW s o u L k n
def own_MetH (l : Launch) (Z : State) (EL : List (String × Nat)) (sf : List Addr) (y : MethodName) (bytes : ByteArray) (maxL : Nat) (ret : Option FieldType) (rm : Room) (as' : Array Value) (h0 : Heap) (Q : Option Value → Heap → List Loc → Prop) : Prop :=
  ∀ ws, MetFree l y (head1 (Cond.code y bytes maxL ret :: ws) rm) (fun a U => a = as' ∧ Z.Warmed39 U.vm ∧ U.heap = h0 ∧ CHv Z EL U.vm h0 ∧ ∀ x ∈ sf, Safe Z EL U.vm h0 x) (fun _ _ _ _ _ => True) (fun _ U o U' => own_KH Z EL U Q rm.cells rm.slots o U')
theorem own_bodyH {sf : List Addr} {y : MethodName} {bytes : ByteArray} {maxL : Nat} {ret : Option FieldType} {rm : Room} {as' : Array Value} {L0 : Array Slot}
    (hpl : plainFor y = true) (ef : ∀ m, entryFrame m as' maxL = mkF m 0 L0 [])
    (body : ∀ (p : Program) (e : Env) (s : State) (m : MethodId) (below : List Frame) (meth : Method) (c : Code) (s₁ : State), p.tables.exec = Jvm.exec → c.code = bytes → c.maxLocals = maxL → Z.Warmed39 s.vm → s.vm.findClass y.cls = some m.cls → meth.name = y.name → meth.sig.returnType = ret → meth.locks = false →
      Stand p l e rm s m as' below meth c s₁ [] 0 0 → s₁.heap = h → own_FrH Z EL s s h → (∀ x ∈ sf, Safe Z EL s.vm h x) → OwnOk p e below (own_KH Z EL s Q rm.cells rm.slots) (s₁.setTop (mkF m 0 L0 []))) :
    own_MetH l Z EL sf y bytes maxL ret rm as' h Q := by
  intro ws
  refine MetFree.of_bodySF hpl hisR ?_
  intro p e s m args below meth c s₁ Bd hml0 hP hK
  obtain ⟨rfl, hZ, hh, hH, hsf⟩ := hP
  have q := body p e s m below meth c s₁ Bd.exec Bd.bytes hml0 hZ (findClass_of_methodNamed Bd.named) (name_of_methodNamed Bd.named Bd.method).1 Bd.returns Bd.notSynchronized (Stand.of_body Bd) (by rw [← hh, Bd.state]; rfl) (own_FrH.start hh hH) hsf
  rw [← ef] at q
  exact q
theorem own_retH (X : Stand p l e R s' m args below meth c T locs cells slots) (B : own_FrH Z EL s s' h) (hZ : Z.Warmed39 s'.vm) (hEL : EW Z a0 EL) {F : JFrame} {v : Option Value} (hv : meth.sig.returnType = none → v = none) (hlk : meth.locks = false)
    (st : ∀ fs, (∀ (f : JFrame) (acts : List Action), f.method = m → f.locked = none → f.entered = [] → (doReturn e (T.setTop f) acts v).1 = T.setFrames fs) → Steps p.tables e below (T.setTop F) (T.setFrames fs))
    (eT : T.heap = h) (hQ : Q v h locs) {k n : Nat} (hk : cells ≤ k) (hn : slots ≤ n) : OwnOk p e below (own_KH Z EL s Q k n) (T.setTop F) := by
  obtain ⟨vm0, k0, rfl, hS, hk0, hC⟩ := B
  obtain ⟨fs, hr, hrun, hended, hE⟩ := X.leaveW hS (by rw [eT]; exact hk0) hv hlk
  have hC2 := hC.trans (CHv.at X hZ hEL hC.1)
  refine ⟨_, _, st fs hr, hrun, hended, v, locs, rfl, ?_, ?_, hE.1, hE.2.1, hE.2.2.1, hE.2.2.2.mono hk hn⟩
  · show Q v T.heap locs
    rw [eT]; exact hQ
  · show CHr Z EL s.vm s.heap T.vm T.heap
    rw [eT]; exact hC2
theorem own_retNH (X : Stand p l e R s' m args below meth c T locs cells slots) (B : own_FrH Z EL s s' h) (hZ : Z.Warmed39 s'.vm) (hEL : EW Z a0 EL) (hx : p.tables.exec = Jvm.exec) {t : FieldType} (hret : meth.sig.returnType = some t) (ht : t = .boolean ∨ t = .byte ∨ t = .char ∨ t = .short) (hlk : meth.locks = false)
    {pc : Nat} {Ls : Array Slot} {z z' : Int32} {rest : List Value} (hd : decode c.code pc = .ok (.ireturn, 1)) (hz : nar t z = z') (eT : T.heap = h) {k n : Nat} (hk : cells ≤ k) (hn : slots ≤ n) (hQ : Q (some (.int z')) h locs) :
    OwnOk p e below (own_KH Z EL s Q k n) (T.setTop (mkF m pc Ls (.int z :: rest))) := by
  subst hz
  exact own_retH X B hZ hEL (fun q => by rw [hret] at q; cases q) hlk (fun fs hr => retN X hx hret ht hd hr) eT hQ hk hn
theorem own_retIH (X : Stand p l e R s' m args below meth c T locs cells slots) (B : own_FrH Z EL s s' h) (hZ : Z.Warmed39 s'.vm) (hEL : EW Z a0 EL) (hx : p.tables.exec = Jvm.exec) (hret : meth.sig.returnType = some .int) (hlk : meth.locks = false)
    {pc : Nat} {Ls : Array Slot} {z : Int32} {rest : List Value} (hd : decode c.code pc = .ok (.ireturn, 1)) (eT : T.heap = h) {k n : Nat} (hk : cells ≤ k) (hn : slots ≤ n) (hQ : Q (some (.int z)) h locs) :
    OwnOk p e below (own_KH Z EL s Q k n) (T.setTop (mkF m pc Ls (.int z :: rest))) :=
  own_retH X B hZ hEL (fun q => by rw [hret] at q; cases q) hlk (fun fs hr => retOut X hx hret rfl (Or.inl ⟨rfl, Or.inl rfl, z, rfl⟩) hd hr) eT hQ hk hn
theorem own_retJH (X : Stand p l e R s' m args below meth c T locs cells slots) (B : own_FrH Z EL s s' h) (hZ : Z.Warmed39 s'.vm) (hEL : EW Z a0 EL) (hx : p.tables.exec = Jvm.exec) (hret : meth.sig.returnType = some .long) (hlk : meth.locks = false)
    {pc : Nat} {Ls : Array Slot} {z : Int64} {rest : List Value} (hd : decode c.code pc = .ok (.lreturn, 1)) (eT : T.heap = h) {k n : Nat} (hk : cells ≤ k) (hn : slots ≤ n) (hQ : Q (some (.long z)) h locs) :
    OwnOk p e below (own_KH Z EL s Q k n) (T.setTop (mkF m pc Ls (.long z :: rest))) :=
  own_retH X B hZ hEL (fun q => by rw [hret] at q; cases q) hlk (fun fs hr => retOut X hx hret rfl (Or.inr (Or.inl ⟨rfl, rfl, z, rfl⟩)) hd hr) eT hQ hk hn
theorem own_retRH (X : Stand p l e R s' m args below meth c T locs cells slots) (B : own_FrH Z EL s s' h) (hZ : Z.Warmed39 s'.vm) (hEL : EW Z a0 EL) (hx : p.tables.exec = Jvm.exec) {t : FieldType} (hret : meth.sig.returnType = some t) (ht : t.isReference = true) (hlk : meth.locks = false)
    {pc : Nat} {Ls : Array Slot} {w : Value} {rest : List Value} (hw : w.isRef = true) (hd : decode c.code pc = .ok (.areturn, 1)) (eT : T.heap = h) {k n : Nat} (hk : cells ≤ k) (hn : slots ≤ n) (hQ : Q (some w) h locs) :
    OwnOk p e below (own_KH Z EL s Q k n) (T.setTop (mkF m pc Ls (w :: rest))) :=
  own_retH X B hZ hEL (fun q => by rw [hret] at q; cases q) hlk (fun fs hr => retOut X hx hret (by rcases ref_cases hw with rfl | ⟨a, rfl⟩ <;> cases t <;> rfl) (Or.inr (Or.inr (Or.inr (Or.inr ⟨rfl, ht, hw⟩)))) hd hr) eT hQ hk hn
theorem own_retVH (X : Stand p l e R s' m args below meth c T locs cells slots) (B : own_FrH Z EL s s' h) (hZ : Z.Warmed39 s'.vm) (hEL : EW Z a0 EL) (hx : p.tables.exec = Jvm.exec) (hret : meth.sig.returnType = none) (hlk : meth.locks = false)
    {pc : Nat} {Ls : Array Slot} (hd : decode c.code pc = .ok (.return_, 1)) (eT : T.heap = h) {k n : Nat} (hk : cells ≤ k) (hn : slots ≤ n) (hQ : Q none h locs) :
    OwnOk p e below (own_KH Z EL s Q k n) (T.setTop (mkF m pc Ls [])) :=
  own_retH X B hZ hEL (fun _ => rfl) hlk (fun fs hr => X.returnOut hx hret hd hr) eT hQ hk hn
/-- library's backOfSH, with addresses that the caller knows as safe -/
theorem own_backH {vm0 : Vm} {sf : List Addr} {y : MethodName} {bytes : ByteArray} {maxL : Nat} {ret : Option FieldType} {rm : Room} {len W : Nat} {as' : Array Value} (hM : own_MetH l Z EL sf y bytes maxL ret rm as' h Q)
    (hZ : Z.Warmed39 vm0) (wc : (Cond.code y bytes maxL ret).before a0 Z = true) (wz : (Cond.initialized y.cls).before a0 Z = true) (hf : rm.frames + 1 ≤ R.frames) (hl : W + (maxL + 11) + rm.locals ≤ R.locals) (hEL : EW Z a0 EL) (H : CHv Z EL vm0 h) (hsf : ∀ x ∈ sf, Safe Z EL vm0 h x) (hlt : ∀ x ∈ sf, x < h.size) :
    BackS l R p e below (s.setVm vm0) args y len W (fun A a => a = as' ∧ A.U.heap = h ∧ A.cells + rm.cells ≤ R.cells ∧ A.slots + rm.slots ≤ R.slots)
      (fun A _ v B => ∃ L, Q v B.U.heap L ∧ B.locs = A.locs ++ L ∧ B.cells = A.cells + rm.cells ∧ B.slots = A.slots + rm.slots ∧ CHr Z EL vm0 h B.U.vm B.U.heap) :=
  BackS.of_freeW (bytes := bytes) (maxL := maxL) (ret := ret) (E := fun _ first o t L k n => k = rm.cells ∧ n = rm.slots ∧ (∃ v, o = .returned v ∧ Q v t.heap L) ∧ CHr Z EL first.vm first.heap t.vm t.heap) (hM []) hf hl
    (fun m meth c A a Y hp => have hU : Z.Warmed39 A.U.vm := wtrans (s := s.setVm vm0) hZ Y.warmed
      ⟨by show (Cond.and _ .tt).before a A.U = true; rw [Cond.before_and, mv hU wc]; rfl, mv hU wc, mv hU wz, hp.2.2.1, hp.2.2.2⟩)
    (fun m meth c A a g mk Y hp => ⟨hp.1, wtrans (s := s.setVm vm0) hZ Y.warmed, hp.2.1, (CHv.at Y hZ hEL H).1, fun x hx => (CHv.at Y hZ hEL H).safe (hlt x hx) (hsf x hx)⟩) (fun _ _ _ _ _ _ _ _ _ => trivial)
    (fun _ _ _ _ ⟨v, L, h1, h2, h3, h4⟩ => ⟨L, _, _, h4, rfl, rfl, ⟨v, h1, h2⟩, h3⟩)
    (fun m meth c A a g mk v t L k n Y hp _ _ ⟨e1, e2, ⟨v', e3, e4⟩, e5⟩ => by
      cases e3; subst e1 e2
      refine ⟨L, e4, rfl, rfl, rfl, (CHv.at Y hZ hEL H).trans ?_⟩
      rw [← hp.2.1]; exact e5)
/-- a String constant is loaded: its text is known -/
theorem own_ldcH (X : Stand p l e R s' m args below meth c T locs cells slots) (B : own_FrH Z EL s s' h) (hx : p.tables.exec = Jvm.exec) (hZ : Z.Warmed39 s'.vm) (hEL : EW Z a0 EL) {own text : String} {index : Nat} (hown : s'.vm.findClass own = some m.cls) (hmem : (own, index) ∈ EL)
    (w : (Cond.stringLink own index text).before a0 Z = true) (wS : ∀ a ∈ Bundle.stringAtoms, a.before a0 Z = true) (eT : T.heap = h) {vs : List Value} {z : Int32} (ht : (∀ c ∈ text.toList, c.toNat < 256) ∧ text.toList.map (fun c => Value.int (Jvm.Lit.byteI c.toNat.toUInt16)) = vs) (hz : ¬ z < 0) (hl' : z.toNatClampNeg = vs.length)
    {pc : Nat} {ls : Array Slot} {st : List Value} (hd : decode c.code pc = .ok (.ldc index, 2)) {n : Nat} (hn : 4 * text.toList.length ≤ n) (hbig : n ≤ 536870912) (hc : cells + 2 ≤ R.cells) (hl : slots + (n + 4) ≤ R.slots)
    (k : ∀ (s'' : State) (a b : Addr) (kk : ClassId) (T' : State) (h' : Heap), Stand p l e R s'' m args below meth c T' locs (cells + 2) (slots + (n + 4)) → own_FrH Z EL s s'' h' → Z.Warmed39 s''.vm → s''.vm.findClass own = some m.cls → T'.heap = h' → Ext h h' →
      Exa Z h' a "java/lang/String" → Fld Z h' a "java/lang/String" "coder" "B" (.int 0) → Fld Z h' a "java/lang/String" "value" "[B" (.ref b) → Arv Z h' b kk .byte z vs (.int 0) → (∀ x, x < h.size → Safe Z EL s'.vm h x → Safe Z EL s''.vm h' x ∧ x ≠ a ∧ x ≠ b) → OwnOk p e below K (T'.setTop (mkF m (pc + 2) ls (.ref a :: st)))) :
    OwnOk p e below K (T.setTop (mkF m pc ls st)) := by
  obtain ⟨vm0, k0, rfl, hS, hk, hC⟩ := B
  obtain ⟨a, T', h', k1, b, kk, X', e', E, hS', hk', hZ', hown', q1, q2, q3, q4, q5, q6, hC', hL, hne, st'⟩ := ldcCH X hx hZ hown w wS eT hS hk hEL hmem hC.1 ht hz hl' (g := mkF m pc ls st) rfl hd hn hbig hc hl
  exact own_up st' (k _ a b kk T' h' X' ⟨_, _, rfl, hS', hk', hC.trans hC'⟩ hZ' hown' e' E q1 q2 q3 q4 (fun x hx S => have q := hC'.safe hx S; ⟨q, hne x q⟩))
theorem own_callSH (X : Stand p l e R s' m args below meth c T locs cells slots) (B : own_FrH Z EL s s' h) (hEL : EW Z a0 EL) {sf : List Addr} (hsf : ∀ x ∈ sf, Safe Z EL s'.vm h x) (hlt : ∀ x ∈ sf, x < h.size) (hx : p.tables.exec = Jvm.exec) (hZ : Z.Warmed39 s'.vm) {own : String} {index : Nat} {y : MethodName} {bytes : ByteArray} {maxL : Nat} {ret : Option FieldType}
    (hown : s'.vm.findClass own = some m.cls) (w1 : (Cond.methodLink own index y).before a0 Z = true) (w2 : (Cond.static y).before a0 Z = true) (w3 : (Cond.initialized y.cls).before a0 Z = true) (w4 : (Cond.code y bytes maxL ret).before a0 Z = true)
    (hy : y.cls ≠ "java/lang/invoke/MethodHandle" ∧ y.cls ≠ "java/lang/invoke/VarHandle") {rm : Room} {as' : Array Value} {Q' : Option Value → Heap → List Loc → Prop} (hM : own_MetH l Z EL sf y bytes maxL ret rm as' h Q') (eT : T.heap = h)
    {pc W : Nat} {ls : Array Slot} {st argsL rest : List Value} (hsize : ls.size = c.maxLocals) (hlen : ∀ sig, parseMethodDescriptor y.desc = some sig → argsL.length = sig.parameters.length) (has : argsL.toArray = as') (hst : st = argsL.reverse ++ rest)
    (hW : (rest.map fun v => v.category).sum = W) (hd : decode c.code pc = .ok (.invokestatic index, 3)) (hf : rm.frames + 1 ≤ R.frames) (hl : W + (maxL + 11) + rm.locals ≤ R.locals) (hc : cells + rm.cells ≤ R.cells) (hs : slots + rm.slots ≤ R.slots)
    (k : ∀ (s'' T' : State) (v : Option Value) (L : List Loc), Stand p l e R s'' m args below meth c T' (locs ++ L) (cells + rm.cells) (slots + rm.slots) → own_FrH Z EL s s'' T'.heap → Z.Warmed39 s''.vm → s''.vm.findClass own = some m.cls → Q' v T'.heap L → (∀ x, x < h.size → Safe Z EL s'.vm h x → Safe Z EL s''.vm T'.heap x) → OwnOk p e below K (T'.setTop (mkF m (pc + 3) ls (v.toList ++ rest)))) :
    OwnOk p e below K (T.setTop (mkF m pc ls st)) := by
  obtain ⟨vm0, k0, rfl, hS, hk, hC⟩ := B
  obtain ⟨v, _, ⟨T2, L2, k2, n2⟩, -, X2, hS2, hgr, ⟨Lc, hQ, l2, y2, z2, hC'⟩, st2⟩ := callSS X hx hown (mvT hZ w1) (mvT hZ w2) (mvT hZ w3) (mvT hZ w4) hy (own_backH (W := W) hM hZ w4 w3 hf hl hEL hC.1 hsf hlt)
    (g := mkF m pc ls st) rfl hsize (argsL := argsL) (rest := rest) hlen hst (by show 2 * 0 + _ ≤ _; rw [hW]; omega) hd (fun _ _ => ⟨has, eT, hc, hs⟩)
  dsimp only [Pt.U, Pt.locs, Pt.cells, Pt.slots] at X2 l2 y2 z2 st2 hQ hS2 hgr hC'
  subst l2 y2 z2
  exact own_to st2 (k _ _ _ _ X2 ⟨T2.vm, T2.heap.size, rfl, hS.trans hS2 (Nat.le_trans hk (eT ▸ hgr)), Nat.le_refl _, hC.trans hC'⟩ (State.Warmed39.trans (t := s.setVm vm0) hZ hS2.1) (by show T2.vm.findClass own = _; rw [hS2.1.alike.findClass]; exact hown) hQ (fun x hx S => hC'.safe hx S))
theorem own_callCH (X : Stand p l e R s' m args below meth c T locs cells slots) (B : own_FrH Z EL s s' h) (hEL : EW Z a0 EL) {sf : List Addr} (hsf : ∀ x ∈ sf, Safe Z EL s'.vm h x) (hlt : ∀ x ∈ sf, x < h.size) (hx : p.tables.exec = Jvm.exec) (hZ : Z.Warmed39 s'.vm) {own : String} {index : Nat} {y : MethodName} {bytes : ByteArray} {maxL : Nat} (hy1 : y.name = "<init>")
    (hown : s'.vm.findClass own = some m.cls) (w1 : (Cond.methodLink own index y).before a0 Z = true) (w2 : (Cond.instanceMethod y).before a0 Z = true) (w3 : (Cond.initialized y.cls).before a0 Z = true) (w4 : (Cond.code y bytes maxL none).before a0 Z = true)
    (hy : y.cls ≠ "java/lang/invoke/MethodHandle" ∧ y.cls ≠ "java/lang/invoke/VarHandle") {rm : Room} {as' : Array Value} {Q' : Option Value → Heap → List Loc → Prop} (hM : own_MetH l Z EL sf y bytes maxL none rm as' h Q') (eT : T.heap = h)
    {pc W : Nat} {ls : Array Slot} {a : Addr} {st argsL rest : List Value} (hsize : ls.size = c.maxLocals) (hlen : ∀ sig, parseMethodDescriptor y.desc = some sig → argsL.length = sig.parameters.length) (has : (Value.ref a :: argsL).toArray = as') (hst : st = argsL.reverse ++ .ref a :: rest)
    (hW : (rest.map fun v => v.category).sum = W) (hd : decode c.code pc = .ok (.invokespecial index, 3)) (hf : rm.frames + 1 ≤ R.frames) (hl : W + (maxL + 11) + rm.locals ≤ R.locals) (hc : cells + rm.cells ≤ R.cells) (hs : slots + rm.slots ≤ R.slots)
    (k : ∀ (s'' T' : State) (v : Option Value) (L : List Loc), Stand p l e R s'' m args below meth c T' (locs ++ L) (cells + rm.cells) (slots + rm.slots) → own_FrH Z EL s s'' T'.heap → Z.Warmed39 s''.vm → s''.vm.findClass own = some m.cls → Q' v T'.heap L → (∀ x, x < h.size → Safe Z EL s'.vm h x → Safe Z EL s''.vm T'.heap x) → OwnOk p e below K (T'.setTop (mkF m (pc + 3) ls (v.toList ++ rest)))) :
    OwnOk p e below K (T.setTop (mkF m pc ls st)) := by
  obtain ⟨vm0, k0, rfl, hS, hk, hC⟩ := B
  obtain ⟨v, _, ⟨T2, L2, k2, n2⟩, -, X2, hS2, hgr, ⟨Lc, hQ, l2, y2, z2, hC'⟩, st2⟩ := X.specialBackS hx hy1 hown (mvT hZ w1) (mvT hZ w2) (mvT hZ w4) hy (own_backH (W := W) hM hZ w4 w3 hf hl hEL hC.1 hsf hlt)
    (g := mkF m pc ls st) rfl hsize (Steps.refl _) (a := a) (argsL := argsL) (rest := rest) hlen hst (by show 2 * 0 + _ ≤ _; rw [hW]; omega) hd (fun _ _ => ⟨has, eT, hc, hs⟩)
  dsimp only [Pt.U, Pt.locs, Pt.cells, Pt.slots] at X2 l2 y2 z2 st2 hQ hS2 hgr hC'
  subst l2 y2 z2
  exact own_to st2 (k _ _ _ _ X2 ⟨T2.vm, T2.heap.size, rfl, hS.trans hS2 (Nat.le_trans hk (eT ▸ hgr)), Nat.le_refl _, hC.trans hC'⟩ (State.Warmed39.trans (t := s.setVm vm0) hZ hS2.1) (by show T2.vm.findClass own = _; rw [hS2.1.alike.findClass]; exact hown) hQ (fun x hx S => hC'.safe hx S))
theorem own_callVH (X : Stand p l e R s' m args below meth c T locs cells slots) (B : own_FrH Z EL s s' h) (hEL : EW Z a0 EL) {sf : List Addr} (hsf : ∀ x ∈ sf, Safe Z EL s'.vm h x) (hlt : ∀ x ∈ sf, x < h.size) (hx : p.tables.exec = Jvm.exec) (hZ : Z.Warmed39 s'.vm) {own C : String} {index : Nat} {y z : MethodName} {bytes : ByteArray} {maxL : Nat} {ret : Option FieldType}
    (hown : s'.vm.findClass own = some m.cls) (w1 : (Cond.methodLink own index y).before a0 Z = true) (w2 : (Cond.declares y).before a0 Z = true) (hnf : NotFace s' y) (w5 : (Cond.selects C y z).before a0 Z = true) (w6 : (Cond.instanceMethod z).before a0 Z = true) (w3 : (Cond.initialized z.cls).before a0 Z = true) (w4 : (Cond.code z bytes maxL ret).before a0 Z = true)
    (hy : y.cls ≠ "java/lang/invoke/MethodHandle" ∧ y.cls ≠ "java/lang/invoke/VarHandle") {rm : Room} {as' : Array Value} {Q' : Option Value → Heap → List Loc → Prop} (hM : own_MetH l Z EL sf z bytes maxL ret rm as' h Q') (eT : T.heap = h)
    {pc W : Nat} {ls : Array Slot} {a : Addr} {st argsL rest : List Value} (E : Exa Z h a C) (hsize : ls.size = c.maxLocals) (hlen : ∀ sig, parseMethodDescriptor y.desc = some sig → argsL.length = sig.parameters.length) (has : (Value.ref a :: argsL).toArray = as') (hst : st = argsL.reverse ++ .ref a :: rest)
    (hW : (rest.map fun v => v.category).sum = W) (hd : decode c.code pc = .ok (.invokevirtual index, 3)) (hf : rm.frames + 1 ≤ R.frames) (hl : W + (maxL + 11) + rm.locals ≤ R.locals) (hc : cells + rm.cells ≤ R.cells) (hs : slots + rm.slots ≤ R.slots)
    (k : ∀ (s'' T' : State) (v : Option Value) (L : List Loc), Stand p l e R s'' m args below meth c T' (locs ++ L) (cells + rm.cells) (slots + rm.slots) → own_FrH Z EL s s'' T'.heap → Z.Warmed39 s''.vm → s''.vm.findClass own = some m.cls → Q' v T'.heap L → (∀ x, x < h.size → Safe Z EL s'.vm h x → Safe Z EL s''.vm T'.heap x) → OwnOk p e below K (T'.setTop (mkF m (pc + 3) ls (v.toList ++ rest)))) :
    OwnOk p e below K (T.setTop (mkF m pc ls st)) := by
  obtain ⟨vm0, k0, rfl, hS, hk, hC⟩ := B
  obtain ⟨cq, kq, qa, qb, qc⟩ := isOf hZ eT E
  obtain ⟨v, _, ⟨T2, L2, k2, n2⟩, -, X2, hS2, hgr, ⟨Lc, hQ, l2, y2, z2, hC'⟩, st2⟩ := X.virtualBackS hx (y := y) (z := z) hown (mvT hZ w1) (mvT hZ w2) hnf (mvT hZ w5) (mvT hZ w6) hy (own_backH (W := W) hM hZ w4 w3 hf hl hEL hC.1 hsf hlt) qa qc
    (g := mkF m pc ls st) rfl hsize (Steps.refl _) (argsL := argsL) (rest := rest) hlen hst (by show 2 * 0 + _ ≤ _; rw [hW]; omega) hd (fun _ _ => ⟨has, eT, hc, hs⟩)
  dsimp only [Pt.U, Pt.locs, Pt.cells, Pt.slots] at X2 l2 y2 z2 st2 hQ hS2 hgr hC'
  subst l2 y2 z2
  exact own_to st2 (k _ _ _ _ X2 ⟨T2.vm, T2.heap.size, rfl, hS.trans hS2 (Nat.le_trans hk (eT ▸ hgr)), Nat.le_refl _, hC.trans hC'⟩ (State.Warmed39.trans (t := s.setVm vm0) hZ hS2.1) (by show T2.vm.findClass own = _; rw [hS2.1.alike.findClass]; exact hown) hQ (fun x hx S => hC'.safe hx S))
end OwnH
end Jvm.RoadKit
namespace Jvm.RoadKit
open Sem ClassFile Op Lib Jvm.Stand Jvm.Free Jvm.LawKit Jvm.Free.SBG
section OwnJ
variable {p : Program} {l : Launch} {e : Env} {R : Room} {s s' : State} {m : MethodId} {args : Array Value} {below : List Frame} {Z : State} {a0 : Array Value} {h : Heap} {W n0 : Nat}
/-- the j-th char of the decimal form of x, n = |x| -/
def own_dg (n : Nat) (x : Int32) (j : Nat) : Int32 := if j = 0 ∧ x < 0 then 45 else Int32.ofNat (48 + n / 10 ^ (SBG.digits n + GetChars.sgn x - 1 - j) % 10)
theorem own_dig_fits : ∀ d, d < 10 → fits .byte (.int (Int32.ofNat (48 + d))) = true := by decide
theorem own_dg_fits (n : Nat) (x : Int32) (j : Nat) : fits .byte (.int (own_dg n x j)) = true := by
  unfold own_dg
  split
  · rfl
  · exact own_dig_fits _ (Nat.mod_lt _ (by omega))
/-- Integer.stringSize -/
theorem own_ssBk (hZ : Z.Warmed39 s.vm) (wc : (Cond.code StrSize.ssN StrSize.ssB 4 (some .int)).before a0 Z = true) (wz : (Cond.initialized INT).before a0 Z = true) {x : Int32} {nn : Nat} (hn : nn ≤ 2 ^ 31) (hneg : (if x < 0 then x else -x) = negI nn) (hfr : 2 ≤ R.frames) (hlo : W + 55 ≤ R.locals) :
    own_Bk l R p e below s args StrSize.ssN 3 W #[.int x] h 0 0 (fun v h' L => v = some (.int (Int32.ofNat (SBG.digits nn + GetChars.sgn x))) ∧ Fr n0 L ∧ h' = h) := by
  refine Back.mono (StrSize.pays hfr hlo (mv hZ wc) (mv hZ wz)) (fun A a hp => ⟨by have := hp.2.2.1; omega, by have := hp.2.2.2; omega, x, hp.1⟩) (fun A a v B hp hq => ?_)
  obtain ⟨⟨q1, q2, q3, q4⟩, q5⟩ := hq
  refine ⟨[], ⟨?_, Fr.nil n0, by rw [q1]; exact hp.2.1⟩, by rw [q2, List.append_nil], q3, q4⟩
  rw [q5 x hp.1, strSizeOf_eq hn hneg]
/-- Integer.getChars -/
theorem own_gcBk (hZ : Z.Warmed39 s.vm) (wc : (Cond.code GetChars.gcN GetChars.gcB 7 (some .int)).before a0 Z = true) (wf1 : (Cond.fieldLink INT 83 INT "DigitOnes" "[B").before a0 Z = true) (wf2 : (Cond.fieldLink INT 87 INT "DigitTens" "[B").before a0 Z = true) (wz : (Cond.initialized INT).before a0 Z = true)
    (wl1 : (Cond.laysStatic INT "DigitOnes" "[B").before a0 Z = true) (wl2 : (Cond.laysStatic INT "DigitTens" "[B").before a0 Z = true) {d1 d2 t : Addr} {k1 k2 k : ClassId} {N : Int32} {cap idx nn : Nat} {f : Nat → Int32} {x : Int32}
    (S1 : Sta Z h INT "DigitOnes" "[B" (.ref d1)) (S2 : Sta Z h INT "DigitTens" "[B" (.ref d2)) (V1 : Arv Z h d1 k1 .byte (Int32.ofNat 100) (own_F 100 fun r => Int32.ofNat (48 + r % 10)) (.int 0)) (V2 : Arv Z h d2 k2 .byte (Int32.ofNat 100) (own_F 100 fun r => Int32.ofNat (48 + r / 10)) (.int 0))
    (V : Arv Z h t k .byte N (own_F cap f) (.int 0)) (hN : N = Int32.ofNat cap) (hcap : cap < 2147483648) (hn : nn ≤ 2 ^ 31) (hneg : (if x < 0 then x else -x) = negI nn) (hidx : idx ≤ cap) (hsz : SBG.digits nn + GetChars.sgn x ≤ idx) (ht1 : t ≠ d1) (ht2 : t ≠ d2) (ge : n0 ≤ t)
    (hfr : 2 ≤ R.frames) (hlo : W + 78 ≤ R.locals) :
    own_Bk l R p e below s args GetChars.gcN 3 W #[.int x, .int (Int32.ofNat idx), .ref t] h 0 0 (fun v h' L => (∃ z, v = some (.int z)) ∧ Fr n0 L ∧ Keep h h' [t] ∧ Arv Z h' t k .byte N (own_F cap fun q => if idx - (SBG.digits nn + GetChars.sgn x) ≤ q ∧ q < idx then own_dg nn x (q - (idx - (SBG.digits nn + GetChars.sgn x))) else f q) (.int 0)) := by
  intro m meth c P g ig mk a X hg hsize hdg hW hnm hp'
  obtain ⟨rfl, hh, r1, r2⟩ := hp'
  have al : Z.vm.Alike P.U.vm := hZ.alike.trans X.warmed.alike
  obtain ⟨D1, A1, -, z1, -, H1, -⟩ := V1
  obtain ⟨D2, A2, -, z2, -, H2, -⟩ := V2
  obtain ⟨C, A, qc, zc, Nn, Hs, Gf⟩ := V
  subst hN
  rw [own_cl _ hcap] at zc
  rw [own_cl 100 (by omega)] at z1 z2
  obtain ⟨cf1, i1, kk1, f1, st1, cell1, a1, a2, a3, a4, a5, a6, a7⟩ := S1
  obtain ⟨cf2, i2, kk2, f2, st2, cell2, b1, b2, b3, b4, b5, b6, b7⟩ := S2
  obtain ⟨c1, y1, j1, g1, e1, ce1, u1, u2, -⟩ := Cond.laysStatic_spec wl1
  obtain ⟨c2, y2, j2, g2, e2, ce2, v1, v2, -⟩ := Cond.laysStatic_spec wl2
  cases u1.symm.trans v1
  cases a1.symm.trans u2
  cases b1.symm.trans v2
  have hk := State.fieldFound?_class a1
  have hk2 := State.fieldFound?_class b1
  cases hk.symm.trans hk2
  cases a4.symm.trans b4
  have T1 : Tbl P.U "DigitOnes" st1 d1 D1 := by
    obtain ⟨k', w1, w2⟩ := State.fieldFound?_setVm (s := Z) al a1
    have w1' : P.U.fieldFound? INT "DigitOnes" "[B" = some (cf1, k', i1, f1) := w1
    refine ⟨cf1, i1, k', f1, cell1, w1', a2, by rw [w2]; exact a3, by rw [w2]; exact a4, by rw [hh]; exact a5, (fun q => by rw [q] at a6; cases a6), a7, by rw [hh]; exact A1.1, State.isArrayOf_alike al A1.2.1, A1.2.2, z1, fun r hr => ?_⟩
    have q := H1 r (by rw [z1]; exact hr)
    rw [own_F_at hr] at q
    rw [q]
    simp [iAt, Array.getD_eq_getD_getElem?, q]
  have T2 : Tbl P.U "DigitTens" st1 d2 D2 := by
    obtain ⟨k', w1, w2⟩ := State.fieldFound?_setVm (s := Z) al b1
    have w1' : P.U.fieldFound? INT "DigitTens" "[B" = some (cf1, k', i2, f2) := w1
    refine ⟨cf1, i2, k', f2, cell2, w1', b2, by rw [w2]; exact b3, by rw [w2]; exact b4, by rw [hh]; exact b5, (fun q => by rw [q] at b6; cases b6), b7, by rw [hh]; exact A2.1, State.isArrayOf_alike al A2.2.1, A2.2.2, z2, fun r hr => ?_⟩
    have q := H2 r (by rw [z2]; exact hr)
    rw [own_F_at hr] at q
    rw [q]
    simp [iAt, Array.getD_eq_getD_getElem?, q]
  have O1 : Ones D1 := fun r hr => by
    have q := H1 r (by rw [z1]; exact hr)
    rw [own_F_at hr] at q
    simp [iAt, Array.getD_eq_getD_getElem?, q]
  have O2 : Tens D2 := fun r hr => by
    have q := H2 r (by rw [z2]; exact hr)
    rw [own_F_at hr] at q
    simp [iAt, Array.getD_eq_getD_getElem?, q]
  have hst : t ≠ st1 := fun q => by
    subst q
    cases A.1.symm.trans a5
    rw [A.plain] at a6; cases a6
  let gg : GetChars.G := ⟨x, nn, idx, t, C, st1, d1, D1, d2, D2⟩
  have htab : GetChars.tab.before args s = true := by
    simp only [GetChars.tab, Cond.before_and, Bool.and_eq_true]
    exact ⟨mv hZ wc, mv hZ wf1, mv hZ wf2⟩
  obtain ⟨v, B, X', ⟨hv, hout, hc, hs, hsz', hkp, L, hL, hLb⟩, st⟩ := GetChars.pays gg W htab (mv hZ wz) hfr hlo m meth c P g ig mk _ X hg hsize hdg hW hnm
    ⟨rfl, by omega, by omega, rfl, by show P.U.heap[t]? = _; rw [hh]; exact A.1, State.isArrayOf_alike al A.2.1, A.2.2, by show C.slots.size < 2 ^ 31; rw [zc]; exact hcap, by show idx ≤ C.slots.size; rw [zc]; exact hidx, hsz, hn, hneg, T1, T2, hst, ht1, ht2⟩
  obtain ⟨o1, o2, o3⟩ := outCell_at gg O1 O2 hn hsz (by show idx ≤ C.slots.size; rw [zc]; exact hidx)
  have osz : (GetChars.outCell gg).slots.size = cap := by
    have q := digLoop_facts D1 D2 5 C nn idx
    show (if x < 0 then put (digLoop D1 D2 5 C nn idx).1 ((digLoop D1 D2 5 C nn idx).2 - 1) 45 else (digLoop D1 D2 5 C nn idx).1).slots.size = cap
    split
    · rw [(put_facts _ _ _).2.2, q.2.2.1, zc]
    · rw [q.2.2.1, zc]
  have ocl : (GetChars.outCell gg).cls = C.cls ∧ (GetChars.outCell gg).vm = C.vm := by
    have q := digLoop_facts D1 D2 5 C nn idx
    show (if x < 0 then put (digLoop D1 D2 5 C nn idx).1 ((digLoop D1 D2 5 C nn idx).2 - 1) 45 else (digLoop D1 D2 5 C nn idx).1).cls = C.cls ∧ (if x < 0 then put (digLoop D1 D2 5 C nn idx).1 ((digLoop D1 D2 5 C nn idx).2 - 1) 45 else (digLoop D1 D2 5 C nn idx).1).vm = C.vm
    split
    · exact ⟨((put_facts _ _ _).1).trans q.1, ((put_facts _ _ _).2.1).trans q.2.1⟩
    · exact ⟨q.1, q.2.1⟩
  have hdp := SBG.digits_pos nn
  have sg : GetChars.sgn x = if x < 0 then 1 else 0 := rfl
  have all : ∀ j, j < cap → (GetChars.outCell gg).slots[j]? = some (.int (if idx - (SBG.digits nn + GetChars.sgn x) ≤ j ∧ j < idx then own_dg nn x (j - (idx - (SBG.digits nn + GetChars.sgn x))) else f j)) := fun j hj => by
    by_cases hin : idx - (SBG.digits nn + GetChars.sgn x) ≤ j ∧ j < idx
    · rw [if_pos hin]
      unfold own_dg
      by_cases hneg0 : j - (idx - (SBG.digits nn + GetChars.sgn x)) = 0 ∧ x < 0
      · rw [if_pos hneg0]
        have q := o2 hneg0.2
        rw [if_pos hneg0.2] at sg
        have e1 : j = idx - SBG.digits nn - 1 := by have := hneg0.1; omega
        rw [e1]; exact q
      · rw [if_neg hneg0]
        by_cases hx : x < 0
        · rw [if_pos hx] at sg
          have hj0 : j - (idx - (SBG.digits nn + GetChars.sgn x)) ≠ 0 := fun q => hneg0 ⟨q, hx⟩
          have q := o1 (idx - 1 - j) (by show idx - 1 - j < SBG.digits nn; omega)
          have e1 : gg.idx - 1 - (idx - 1 - j) = j := by show idx - 1 - (idx - 1 - j) = j; omega
          rw [e1] at q
          rw [q]
          have e2 : SBG.digits nn + GetChars.sgn x - 1 - (j - (idx - (SBG.digits nn + GetChars.sgn x))) = idx - 1 - j := by omega
          rw [e2]
        · rw [if_neg hx] at sg
          have q := o1 (idx - 1 - j) (by show idx - 1 - j < SBG.digits nn; omega)
          have e1 : gg.idx - 1 - (idx - 1 - j) = j := by show idx - 1 - (idx - 1 - j) = j; omega
          rw [e1] at q
          rw [q]
          have e2 : SBG.digits nn + GetChars.sgn x - 1 - (j - (idx - (SBG.digits nn + GetChars.sgn x))) = idx - 1 - j := by omega
          rw [e2]
    · rw [if_neg hin, o3 j (by show j < idx - (SBG.digits nn + GetChars.sgn x) ∨ idx ≤ j; omega)]
      have q := Hs j (by rw [zc]; exact hj)
      rw [own_F_at hj] at q
      exact q
  refine ⟨v, B, X', ⟨L, ⟨⟨_, hv⟩, fun w hw => by rw [hLb w hw]; exact ge, ⟨?_, ?_, ?_⟩, ?_⟩, hL, hc, hs⟩, st⟩
  · rw [hsz', hh]; exact Nat.le_refl _
  · intro y cy hy hne
    exact hkp y cy (fun q => hne (by rw [q]; exact List.mem_singleton.mpr rfl)) (by rw [hh]; exact hy)
  · intro y cy hy
    by_cases q : y = t
    · subst q
      cases A.1.symm.trans hy
      exact ⟨_, hout, ocl.1, ocl.2, by rw [osz, zc]⟩
    · exact ⟨cy, hkp y cy q (by rw [hh]; exact hy), rfl, rfl, rfl⟩
  · refine ⟨GetChars.outCell gg, ⟨hout, ?_, by rw [ocl.2]; exact A.2.2⟩, ocl.1.trans qc, by rw [osz, own_cl _ hcap], Nn, fun j hj => ?_, fun j hj => ?_⟩
    · obtain ⟨w1, w2, w3, w4, w5⟩ := A.2.1
      exact ⟨by rw [ocl.2]; exact w1, w2, by rw [ocl.1]; exact w3, w4, w5⟩
    · rw [osz] at hj
      rw [own_F_at hj]; exact all j hj
    · rw [osz] at hj
      rw [own_F_at hj]
      split
      · exact own_dg_fits _ _ _
      · have q := Gf j (by rw [zc]; exact hj)
        rw [own_F_at hj] at q
        exact q
end OwnJ
end Jvm.RoadKit
namespace Jvm.RoadKit
open Sem ClassFile Op Lib Jvm.Stand Jvm.Free Jvm.LawKit Jvm.Free.SBG
section OwnT
variable {Z : State} {a0 : Array Value}
/-- one of Integer's digit tables, from the sheet's words -/
theorem own_tab {name : String} {rhs : Term} {F : Nat → Nat} (w1 : (Cond.initializedFor INT name "[B").before a0 Z = true) (w2 : (Cond.exactly (Term.static INT name "[B") "[B").before a0 Z = true)
    (w3 : (Cond.eq (.length (.static INT name "[B")) (.int 100)).before a0 Z = true) (wa : (Cond.arrayClass .byte).before a0 Z = true) (w4 : (Cond.all (.static INT name "[B") (.eq (.elem (.static INT name "[B") (.index 0)) rhs)).before a0 Z = true)
    (hrhs : ∀ r, r < 100 → rhs.eval a0 Z none [r] Z = some (.int (Int32.ofNat (F r)))) (hF : ∀ r, r < 100 → fits .byte (.int (Int32.ofNat (F r))) = true) :
    ∃ (d : Addr) (k : ClassId), Sta Z Z.heap INT name "[B" (.ref d) ∧ Arv Z Z.heap d k .byte (Int32.ofNat 100) (own_F 100 fun r => Int32.ofNat (F r)) (.int 0) ∧ d < Z.heap.size := by
  obtain ⟨d, cB, D, kB, hev, hfcB, hcellD, hkB, hstatD, hclsD, -⟩ := Cond.exactly_spec w2
  have hevAll : ∀ idx, (Term.static INT name "[B").eval a0 Z none idx Z = some (.ref d) := fun idx => by
    have : (Term.static INT name "[B").eval a0 Z none idx Z = (Term.static INT name "[B").eval a0 Z none [] Z := by simp only [Term.eval]
    rw [this]; exact hev
  have hl := Cond.eq_int w3 rfl
  obtain ⟨d', D', hev', harrAt, hlen⟩ := Term.length_spec hl
  cases hev.symm.trans hev'
  obtain ⟨hcellD', hknD, -, -⟩ := State.arrayAt?_spec harrAt
  cases hcellD.symm.trans hcellD'
  have h31 := length_lt hev harrAt hl
  have hsz : D.slots.size = 100 := by
    have h2 : Int32.ofNat D.slots.size = Int32.ofNat 100 := (Value.int.inj hlen).symm
    have := congrArg Int32.toInt h2
    rw [Int32.toInt_ofNat_small h31, Int32.toInt_ofNat_small (by omega)] at this; omega
  obtain ⟨cB', kB', comp, hnameB, hkB', hkindB⟩ := Cond.arrayClass_spec wa
  have eBA : ("[" ++ FieldType.toString .byte) = "[B" := by decide
  rw [eBA] at hnameB
  cases hfcB.symm.trans hnameB
  cases hkB.symm.trans hkB'
  have hat : ∀ r, r < 100 → D.slots[r]? = some (.int (Int32.ofNat (F r))) := fun r hr => by
    have q := Cond.all_elim (hevAll []) harrAt (Cond.before_iff.mp w4) r (by omega)
    have eL : (Term.elem (Term.static INT name "[B") (.index 0)).eval a0 Z none [r] Z = D.slots[r]? := elem_at (ix := .index 0) (hevAll [r]) harrAt (by omega) (by omega) rfl
    obtain ⟨x, y, h1, h2, h3, h4⟩ := cmp_v (Or.inl q)
    have e2 : y = .int (Int32.ofNat (F r)) := Option.some.inj (h2.symm.trans (hrhs r hr))
    subst e2
    obtain ⟨w, rfl⟩ := h4
    rw [Cond.eq_ints h1 h2] at q
    have hw : w = Int32.ofNat (F r) := of_decide_eq_true (Option.some.inj q)
    rw [← eL, h1, hw]
  refine ⟨d, D.cls, Sta.start hev (Or.inl w1), ⟨D, ⟨hcellD, ⟨(fun q h => by rw [h] at hstatD; cases hstatD), kB, (by rw [hclsD]; exact hkB), comp, hkindB⟩, hknD⟩, rfl, by rw [hsz]; rfl, by decide, fun j hj => ?_, fun j hj => ?_⟩, (Array.getElem?_eq_some_iff.mp hcellD).1⟩
  · rw [own_F_at (by omega)]; exact hat j (by omega)
  · rw [own_F_at (by omega)]; exact hF j (by omega)
theorem own_onesF : ∀ r, r < 100 → fits .byte (.int (Int32.ofNat (48 + r % 10))) = true := by decide +kernel
theorem own_tensF : ∀ r, r < 100 → fits .byte (.int (Int32.ofNat (48 + r / 10))) = true := by decide +kernel
/-- the two tables -/
theorem own_tabs (w : ∀ d ∈ [Cond.laysStatic INT "DigitOnes" "[B", Cond.initializedFor INT "DigitOnes" "[B", Cond.exactly (Term.static INT "DigitOnes" "[B") "[B", Cond.eq (.length (.static INT "DigitOnes" "[B")) (.int 100),
      Cond.all (.static INT "DigitOnes" "[B") (.eq (.elem (.static INT "DigitOnes" "[B") (.index 0)) (.add (.int 48) (.rem (.index 0) (.int 10)))),
      Cond.laysStatic INT "DigitTens" "[B", Cond.initializedFor INT "DigitTens" "[B", Cond.exactly (Term.static INT "DigitTens" "[B") "[B", Cond.eq (.length (.static INT "DigitTens" "[B")) (.int 100),
      Cond.all (.static INT "DigitTens" "[B") (.eq (.elem (.static INT "DigitTens" "[B") (.index 0)) (.add (.int 48) (.div (.index 0) (.int 10))))], d.before a0 Z = true) (wa : (Cond.arrayClass .byte).before a0 Z = true) :
    ∃ (d1 d2 : Addr) (k1 k2 : ClassId), Sta Z Z.heap INT "DigitOnes" "[B" (.ref d1) ∧ Sta Z Z.heap INT "DigitTens" "[B" (.ref d2) ∧ Arv Z Z.heap d1 k1 .byte (Int32.ofNat 100) (own_F 100 fun r => Int32.ofNat (48 + r % 10)) (.int 0) ∧ Arv Z Z.heap d2 k2 .byte (Int32.ofNat 100) (own_F 100 fun r => Int32.ofNat (48 + r / 10)) (.int 0) ∧
      (Cond.laysStatic INT "DigitOnes" "[B").before a0 Z = true ∧ (Cond.laysStatic INT "DigitTens" "[B").before a0 Z = true ∧ d1 < Z.heap.size ∧ d2 < Z.heap.size := by
  have q := fun i d (hi : _) => w d (List.mem_of_getElem? (i := i) hi)
  obtain ⟨d1, k1, a1, a2, a3⟩ := own_tab (F := fun r => 48 + r % 10) (q 1 _ rfl) (q 2 _ rfl) (q 3 _ rfl) wa (q 4 _ rfl) (fun r hr => by rw [← ones_num r hr]; rfl) own_onesF
  obtain ⟨d2, k2, b1, b2, b3⟩ := own_tab (F := fun r => 48 + r / 10) (q 6 _ rfl) (q 7 _ rfl) (q 8 _ rfl) wa (q 9 _ rfl) (fun r hr => by rw [← tens_num r hr]; rfl) own_tensF
  exact ⟨d1, d2, k1, k2, a1, b1, a2, b2, q 0 _ rfl, q 5 _ rfl, a3, b3⟩
/-- |x| -/
def own_ab (x : Int32) : Nat := x.toInt.natAbs
theorem own_ab_le (x : Int32) : own_ab x ≤ 2 ^ 31 := by
  have h1 := Int32.le_toInt x
  have h2 := Int32.toInt_lt x
  unfold own_ab; omega
theorem own_z32 : (0 : Int32).toInt = 0 := rfl
theorem own_z64 : (0 : Int64).toInt = 0 := rfl
theorem own_ab_neg (x : Int32) : (if x < 0 then x else -x) = negI (own_ab x) := by
  unfold negI own_ab
  by_cases h : x < 0
  · rw [if_pos h]
    rw [Int32.lt_iff_toInt_lt, own_z32] at h
    rw [show (-((x.toInt.natAbs : Nat) : Int)) = x.toInt by omega, Int32.ofInt_toInt]
  · rw [if_neg h]
    rw [Int32.lt_iff_toInt_lt, own_z32] at h
    rw [show (-((x.toInt.natAbs : Nat) : Int)) = -x.toInt by omega, Int32.ofInt_neg, Int32.ofInt_toInt]
theorem own_n64 {n : Nat} (h : n < 9223372036854775808) : (Int64.ofNat n).toInt = n := Int64.toInt_ofNat_of_lt h
theorem own_abJ (x : Int32) : (if x.toInt64 < 0 then -x.toInt64 else x.toInt64) = Int64.ofNat (own_ab x) := by
  have h1 := Int32.le_toInt x
  have h2 := Int32.toInt_lt x
  have e : x.toInt64.toInt = x.toInt := Int32.toInt_toInt64 x
  apply Int64.toInt_inj.mp
  rw [own_n64 (Nat.lt_of_le_of_lt (own_ab_le x) (by decide))]
  unfold own_ab
  by_cases h : x.toInt64 < 0
  · rw [if_pos h]
    rw [Int64.lt_iff_toInt_lt, own_z64, e] at h
    rw [Int64.toInt_neg, e, Int.bmod_eq_of_le (by omega) (by omega)]; omega
  · rw [if_neg h]
    rw [Int64.lt_iff_toInt_lt, own_z64, e] at h
    rw [e]; omega
theorem own_lt64 {n k : Nat} (hn : n < 9223372036854775808) (hk : k < 9223372036854775808) : Int64.ofNat n < Int64.ofNat k ↔ n < k := by
  rw [Int64.lt_iff_toInt_lt, own_n64 hn, own_n64 hk]; omega
theorem own_div64 {n k : Nat} (hn : n < 9223372036854775808) (hk : k < 9223372036854775808) : Int64.ofNat n / Int64.ofNat k = Int64.ofNat (n / k) := by
  have q : n / k ≤ n := Nat.div_le_self n k
  have q0 : (0 : Int) ≤ ((n / k : Nat) : Int) := Int.natCast_nonneg _
  apply Int64.toInt_inj.mp
  rw [Int64.toInt_div, own_n64 hn, own_n64 hk, own_n64 (by omega), ← Int.ofNat_tdiv, Int.bmod_eq_of_le (by omega) (by omega)]
theorem own_mod64 {n k : Nat} (hn : n < 9223372036854775808) (hk : k < 9223372036854775808) : Int64.ofNat n % Int64.ofNat k = Int64.ofNat (n % k) := by
  have q : n % k ≤ n := Nat.mod_le n k
  apply Int64.toInt_inj.mp
  rw [Int64.toInt_mod, own_n64 hn, own_n64 hk, own_n64 (by omega), ← Int.ofNat_tmod]
theorem own_pow_lt : ∀ e, e ≤ 9 → 10 ^ e < 9223372036854775808 := by decide
theorem own_pow_nz : ∀ e, e ≤ 9 → ¬ Int64.ofNat (10 ^ e) = 0 := by decide +kernel
/-- a decimal digit's char, as the law makes it -/
theorem own_digC : ∀ d, d < 10 → nar .char (((48 : Int32) + (Int64.ofNat d).toInt32).toUInt32.toUInt16.toUInt32.toInt32) = Int32.ofNat (48 + d) := by decide +kernel
/-- a Latin-1 char, as String.charAt reads it -/
def own_c8 (v : Int32) : Int32 := nar .char ((v &&& (255 : Int32)).toUInt32.toUInt16.toUInt32.toInt32)
theorem own_c8_dig : ∀ d, d < 10 → own_c8 (Int32.ofNat (48 + d)) = Int32.ofNat (48 + d) := by decide +kernel
theorem own_ch_dig : ∀ d, d < 10 → nar .char (Int32.ofNat (48 + d)) = Int32.ofNat (48 + d) := by decide +kernel
theorem own_c8_dg (n : Nat) (x : Int32) (j : Nat) : own_c8 (own_dg n x j) = own_dg n x j := by
  unfold own_dg
  split
  · decide
  · exact own_c8_dig _ (Nat.mod_lt _ (by omega))
theorem own_ch_dg (n : Nat) (x : Int32) (j : Nat) : nar .char (own_dg n x j) = own_dg n x j := by
  unfold own_dg
  split
  · decide
  · exact own_ch_dig _ (Nat.mod_lt _ (by omega))
/-- the length of the decimal form -/
def own_sz (x : Int32) : Nat := SBG.digits (own_ab x) + GetChars.sgn x
theorem own_sz_le (x : Int32) : own_sz x ≤ 11 := by
  have := SBG.digits_pos (own_ab x)
  unfold own_sz GetChars.sgn
  split <;> omega
theorem own_sz_pos (x : Int32) : 1 ≤ own_sz x := by
  have := SBG.digits_pos (own_ab x)
  unfold own_sz; omega
theorem own_n32 {n : Nat} (h : n < 2147483648) : (Int32.ofNat n).toInt = n := toInt_of rfl h
theorem own_andN (x m : Int32) (b : Nat) (hm : m = Int32.ofNat (2 ^ b - 1)) (hb : b < 32) : ∃ k, k < 2 ^ b ∧ x &&& m = Int32.ofNat k := by
  refine ⟨x.toBitVec.toNat % 2 ^ b, Nat.mod_lt _ (Nat.two_pow_pos b), ?_⟩
  subst hm
  have q1 : 2 ^ b ≤ 2 ^ 31 := Nat.pow_le_pow_right (by decide) (by omega)
  have q2 : x.toBitVec.toNat % 2 ^ b < 2 ^ b := Nat.mod_lt _ (Nat.two_pow_pos b)
  apply Int32.toBitVec_inj.mp
  apply BitVec.eq_of_toNat_eq
  rw [Int32.toBitVec_and, BitVec.toNat_and]
  show x.toBitVec.toNat &&& (BitVec.ofNat 32 (2 ^ b - 1)).toNat = (BitVec.ofNat 32 (x.toBitVec.toNat % 2 ^ b)).toNat
  rw [BitVec.toNat_ofNat, BitVec.toNat_ofNat, Nat.mod_eq_of_lt (by omega), Nat.mod_eq_of_lt (by omega), Nat.and_two_pow_sub_one_eq_mod]
theorem own_mod32 {a n : Nat} (ha : a < 2147483648) (hn : n < 2147483648) : Int32.ofNat a % Int32.ofNat n = Int32.ofNat (a % n) := by
  have q : a % n ≤ a := Nat.mod_le a n
  apply Int32.toInt_inj.mp
  rw [Int32.toInt_mod, own_n32 ha, own_n32 hn, own_n32 (by omega), ← Int.ofNat_tmod]
theorem own_idx (k : Int32) (n : Nat) (h1 : 0 < n) (h2 : n < 2147483648) : ∃ i, i < n ∧ (k &&& (2147483647 : Int32)) % (Int32.ofNat n) = Int32.ofNat i := by
  obtain ⟨a, ha, e⟩ := own_andN k 2147483647 31 rfl (by decide)
  exact ⟨a % n, Nat.mod_lt _ h1, by rw [e, own_mod32 ha h2]⟩
theorem own_nar_char (v : Int32) : nar .char (nar .char v) = nar .char v := by
  apply Int32.toBitVec_inj.mp
  apply BitVec.eq_of_toNat_eq
  simp [nar]
theorem own_c8_idem (v : Int32) : nar .char (own_c8 v) = own_c8 v := own_nar_char _
end OwnT
end Jvm.RoadKit
namespace Jvm.Pilot.@@N@@
open Jvm Jvm.ClassFile Sem Op Lib Jvm.Free Jvm.Stand Jvm.LawKit Jvm.RoadKit Bundle Jvm.Pilot.@@N@@.Jvm.D
theorem d1_0 : decode prog_12_method_1_code 0 = .ok (.aload_n 0, 1) := by decide +kernel
theorem d1_1 : decode prog_12_method_1_code 1 = .ok (.invokespecial 1, 3) := by decide +kernel
theorem d1_4 : decode prog_12_method_1_code 4 = .ok (.aload_n 0, 1) := by decide +kernel
theorem d1_5 : decode prog_12_method_1_code 5 = .ok (.iload_n 1, 1) := by decide +kernel
theorem d1_6 : decode prog_12_method_1_code 6 = .ok (.putfield 7, 3) := by decide +kernel
theorem d1_9 : decode prog_12_method_1_code 9 = .ok (.aload_n 0, 1) := by decide +kernel
theorem d1_10 : decode prog_12_method_1_code 10 = .ok (.iload_n 2, 1) := by decide +kernel
theorem d1_11 : decode prog_12_method_1_code 11 = .ok (.putfield 13, 3) := by decide +kernel
theorem d1_14 : decode prog_12_method_1_code 14 = .ok (.return_, 1) := by decide +kernel
theorem d3_0 : decode prog_12_method_4_code 0 = .ok (.new 16, 3) := by decide +kernel
theorem d3_3 : decode prog_12_method_4_code 3 = .ok (.dup, 1) := by decide +kernel
theorem d3_4 : decode prog_12_method_4_code 4 = .ok (.invokespecial 18, 3) := by decide +kernel
theorem d3_7 : decode prog_12_method_4_code 7 = .ok (.aload_n 0, 1) := by decide +kernel
theorem d3_8 : decode prog_12_method_4_code 8 = .ok (.getfield 7, 3) := by decide +kernel
theorem d3_11 : decode prog_12_method_4_code 11 = .ok (.invokevirtual 19, 3) := by decide +kernel
theorem d3_14 : decode prog_12_method_4_code 14 = .ok (.ldc 23, 2) := by decide +kernel
theorem d3_16 : decode prog_12_method_4_code 16 = .ok (.invokevirtual 25, 3) := by decide +kernel
theorem d3_19 : decode prog_12_method_4_code 19 = .ok (.aload_n 0, 1) := by decide +kernel
theorem d3_20 : decode prog_12_method_4_code 20 = .ok (.getfield 13, 3) := by decide +kernel
theorem d3_23 : decode prog_12_method_4_code 23 = .ok (.invokevirtual 19, 3) := by decide +kernel
theorem d3_26 : decode prog_12_method_4_code 26 = .ok (.invokevirtual 28, 3) := by decide +kernel
theorem d3_29 : decode prog_12_method_4_code 29 = .ok (.areturn, 1) := by decide +kernel
theorem d4_0 : decode jdk_67_method_1_code 0 = .ok (.aload_n 0, 1) := by decide +kernel
theorem d4_1 : decode jdk_67_method_1_code 1 = .ok (.bipush 16, 2) := by decide +kernel
theorem d4_3 : decode jdk_67_method_1_code 3 = .ok (.invokespecial 1, 3) := by decide +kernel
theorem d4_6 : decode jdk_67_method_1_code 6 = .ok (.return_, 1) := by decide +kernel
theorem d5_0 : decode jdk_68_method_2_code 0 = .ok (.aload_n 0, 1) := by decide +kernel
theorem d5_1 : decode jdk_68_method_2_code 1 = .ok (.invokespecial 3, 3) := by decide +kernel
theorem d5_4 : decode jdk_68_method_2_code 4 = .ok (.getstatic 18, 3) := by decide +kernel
theorem d5_7 : decode jdk_68_method_2_code 7 = .ok (.ifCond .eq 18, 3) := by decide +kernel
theorem d5_10 : decode jdk_68_method_2_code 10 = .ok (.aload_n 0, 1) := by decide +kernel
theorem d5_11 : decode jdk_68_method_2_code 11 = .ok (.iload_n 1, 1) := by decide +kernel
theorem d5_12 : decode jdk_68_method_2_code 12 = .ok (.newarray .byte, 2) := by decide +kernel
theorem d5_14 : decode jdk_68_method_2_code 14 = .ok (.putfield 15, 3) := by decide +kernel
theorem d5_17 : decode jdk_68_method_2_code 17 = .ok (.aload_n 0, 1) := by decide +kernel
theorem d5_18 : decode jdk_68_method_2_code 18 = .ok (.iconst 0, 1) := by decide +kernel
theorem d5_19 : decode jdk_68_method_2_code 19 = .ok (.putfield 22, 3) := by decide +kernel
theorem d5_22 : decode jdk_68_method_2_code 22 = .ok (.goto 16, 3) := by decide +kernel
theorem d5_38 : decode jdk_68_method_2_code 38 = .ok (.return_, 1) := by decide +kernel
theorem d6_0 : decode jdk_67_method_15_code 0 = .ok (.aload_n 0, 1) := by decide +kernel
theorem d6_1 : decode jdk_67_method_15_code 1 = .ok (.iload_n 1, 1) := by decide +kernel
theorem d6_2 : decode jdk_67_method_15_code 2 = .ok (.invokespecial 53, 3) := by decide +kernel
theorem d6_5 : decode jdk_67_method_15_code 5 = .ok (.pop, 1) := by decide +kernel
theorem d6_6 : decode jdk_67_method_15_code 6 = .ok (.aload_n 0, 1) := by decide +kernel
theorem d6_7 : decode jdk_67_method_15_code 7 = .ok (.areturn, 1) := by decide +kernel
theorem d7_0 : decode jdk_68_method_32_code 0 = .ok (.aload_n 0, 1) := by decide +kernel
theorem d7_1 : decode jdk_68_method_32_code 1 = .ok (.getfield 79, 3) := by decide +kernel
theorem d7_4 : decode jdk_68_method_32_code 4 = .ok (.istore_n 2, 1) := by decide +kernel
theorem d7_5 : decode jdk_68_method_32_code 5 = .ok (.iload_n 2, 1) := by decide +kernel
theorem d7_6 : decode jdk_68_method_32_code 6 = .ok (.iload_n 1, 1) := by decide +kernel
theorem d7_7 : decode jdk_68_method_32_code 7 = .ok (.invokestatic 245, 3) := by decide +kernel
theorem d7_10 : decode jdk_68_method_32_code 10 = .ok (.iadd, 1) := by decide +kernel
theorem d7_11 : decode jdk_68_method_32_code 11 = .ok (.istore_n 3, 1) := by decide +kernel
theorem d7_12 : decode jdk_68_method_32_code 12 = .ok (.aload_n 0, 1) := by decide +kernel
theorem d7_13 : decode jdk_68_method_32_code 13 = .ok (.iload_n 3, 1) := by decide +kernel
theorem d7_14 : decode jdk_68_method_32_code 14 = .ok (.invokevirtual 100, 3) := by decide +kernel
theorem d7_17 : decode jdk_68_method_32_code 17 = .ok (.aload_n 0, 1) := by decide +kernel
theorem d7_18 : decode jdk_68_method_32_code 18 = .ok (.invokevirtual 83, 3) := by decide +kernel
theorem d7_21 : decode jdk_68_method_32_code 21 = .ok (.ifCond .eq 16, 3) := by decide +kernel
theorem d7_24 : decode jdk_68_method_32_code 24 = .ok (.iload_n 1, 1) := by decide +kernel
theorem d7_25 : decode jdk_68_method_32_code 25 = .ok (.iload_n 3, 1) := by decide +kernel
theorem d7_26 : decode jdk_68_method_32_code 26 = .ok (.aload_n 0, 1) := by decide +kernel
theorem d7_27 : decode jdk_68_method_32_code 27 = .ok (.getfield 15, 3) := by decide +kernel
theorem d7_30 : decode jdk_68_method_32_code 30 = .ok (.invokestatic 248, 3) := by decide +kernel
theorem d7_33 : decode jdk_68_method_32_code 33 = .ok (.pop, 1) := by decide +kernel
theorem d7_34 : decode jdk_68_method_32_code 34 = .ok (.goto 14, 3) := by decide +kernel
theorem d7_48 : decode jdk_68_method_32_code 48 = .ok (.aload_n 0, 1) := by decide +kernel
theorem d7_49 : decode jdk_68_method_32_code 49 = .ok (.iload_n 3, 1) := by decide +kernel
theorem d7_50 : decode jdk_68_method_32_code 50 = .ok (.putfield 79, 3) := by decide +kernel
theorem d7_53 : decode jdk_68_method_32_code 53 = .ok (.aload_n 0, 1) := by decide +kernel
theorem d7_54 : decode jdk_68_method_32_code 54 = .ok (.areturn, 1) := by decide +kernel
theorem d9_0 : decode jdk_68_method_9_code 0 = .ok (.aload_n 0, 1) := by decide +kernel
theorem d9_1 : decode jdk_68_method_9_code 1 = .ok (.getfield 15, 3) := by decide +kernel
theorem d9_4 : decode jdk_68_method_9_code 4 = .ok (.arraylength, 1) := by decide +kernel
theorem d9_5 : decode jdk_68_method_9_code 5 = .ok (.aload_n 0, 1) := by decide +kernel
theorem d9_6 : decode jdk_68_method_9_code 6 = .ok (.getfield 22, 3) := by decide +kernel
theorem d9_9 : decode jdk_68_method_9_code 9 = .ok (.ishr, 1) := by decide +kernel
theorem d9_10 : decode jdk_68_method_9_code 10 = .ok (.istore_n 2, 1) := by decide +kernel
theorem d9_11 : decode jdk_68_method_9_code 11 = .ok (.iload_n 1, 1) := by decide +kernel
theorem d9_12 : decode jdk_68_method_9_code 12 = .ok (.iload_n 2, 1) := by decide +kernel
theorem d9_13 : decode jdk_68_method_9_code 13 = .ok (.isub, 1) := by decide +kernel
theorem d9_14 : decode jdk_68_method_9_code 14 = .ok (.ifCond .le 24, 3) := by decide +kernel
theorem d9_17 : decode jdk_68_method_9_code 17 = .ok (.aload_n 0, 1) := by decide +kernel
theorem d9_18 : decode jdk_68_method_9_code 18 = .ok (.aload_n 0, 1) := by decide +kernel
theorem d9_19 : decode jdk_68_method_9_code 19 = .ok (.getfield 15, 3) := by decide +kernel
theorem d9_22 : decode jdk_68_method_9_code 22 = .ok (.aload_n 0, 1) := by decide +kernel
theorem d9_23 : decode jdk_68_method_9_code 23 = .ok (.iload_n 1, 1) := by decide +kernel
theorem d9_24 : decode jdk_68_method_9_code 24 = .ok (.invokevirtual 104, 3) := by decide +kernel
theorem d9_27 : decode jdk_68_method_9_code 27 = .ok (.aload_n 0, 1) := by decide +kernel
theorem d9_28 : decode jdk_68_method_9_code 28 = .ok (.getfield 22, 3) := by decide +kernel
theorem d9_31 : decode jdk_68_method_9_code 31 = .ok (.ishl, 1) := by decide +kernel
theorem d9_32 : decode jdk_68_method_9_code 32 = .ok (.invokestatic 108, 3) := by decide +kernel
theorem d9_35 : decode jdk_68_method_9_code 35 = .ok (.putfield 15, 3) := by decide +kernel
theorem d9_38 : decode jdk_68_method_9_code 38 = .ok (.return_, 1) := by decide +kernel
theorem d10_0 : decode jdk_68_method_68_code 0 = .ok (.getstatic 18, 3) := by decide +kernel
theorem d10_3 : decode jdk_68_method_68_code 3 = .ok (.ifCond .eq 14, 3) := by decide +kernel
theorem d10_6 : decode jdk_68_method_68_code 6 = .ok (.aload_n 0, 1) := by decide +kernel
theorem d10_7 : decode jdk_68_method_68_code 7 = .ok (.getfield 22, 3) := by decide +kernel
theorem d10_10 : decode jdk_68_method_68_code 10 = .ok (.ifCond .ne 7, 3) := by decide +kernel
theorem d10_13 : decode jdk_68_method_68_code 13 = .ok (.iconst 1, 1) := by decide +kernel
theorem d10_14 : decode jdk_68_method_68_code 14 = .ok (.goto 4, 3) := by decide +kernel
theorem d10_18 : decode jdk_68_method_68_code 18 = .ok (.ireturn, 1) := by decide +kernel
theorem d12_0 : decode jdk_67_method_7_code 0 = .ok (.aload_n 0, 1) := by decide +kernel
theorem d12_1 : decode jdk_67_method_7_code 1 = .ok (.aload_n 1, 1) := by decide +kernel
theorem d12_2 : decode jdk_67_method_7_code 2 = .ok (.invokespecial 29, 3) := by decide +kernel
theorem d12_5 : decode jdk_67_method_7_code 5 = .ok (.pop, 1) := by decide +kernel
theorem d12_6 : decode jdk_67_method_7_code 6 = .ok (.aload_n 0, 1) := by decide +kernel
theorem d12_7 : decode jdk_67_method_7_code 7 = .ok (.areturn, 1) := by decide +kernel
theorem d13_0 : decode jdk_68_method_22_code 0 = .ok (.aload_n 1, 1) := by decide +kernel
theorem d13_1 : decode jdk_68_method_22_code 1 = .ok (.ifnonnull 8, 3) := by decide +kernel
theorem d13_9 : decode jdk_68_method_22_code 9 = .ok (.aload_n 1, 1) := by decide +kernel
theorem d13_10 : decode jdk_68_method_22_code 10 = .ok (.invokevirtual 32, 3) := by decide +kernel
theorem d13_13 : decode jdk_68_method_22_code 13 = .ok (.istore_n 2, 1) := by decide +kernel
theorem d13_14 : decode jdk_68_method_22_code 14 = .ok (.aload_n 0, 1) := by decide +kernel
theorem d13_15 : decode jdk_68_method_22_code 15 = .ok (.aload_n 0, 1) := by decide +kernel
theorem d13_16 : decode jdk_68_method_22_code 16 = .ok (.getfield 79, 3) := by decide +kernel
theorem d13_19 : decode jdk_68_method_22_code 19 = .ok (.iload_n 2, 1) := by decide +kernel
theorem d13_20 : decode jdk_68_method_22_code 20 = .ok (.iadd, 1) := by decide +kernel
theorem d13_21 : decode jdk_68_method_22_code 21 = .ok (.invokevirtual 100, 3) := by decide +kernel
theorem d13_24 : decode jdk_68_method_22_code 24 = .ok (.aload_n 0, 1) := by decide +kernel
theorem d13_25 : decode jdk_68_method_22_code 25 = .ok (.aload_n 0, 1) := by decide +kernel
theorem d13_26 : decode jdk_68_method_22_code 26 = .ok (.getfield 79, 3) := by decide +kernel
theorem d13_29 : decode jdk_68_method_22_code 29 = .ok (.aload_n 1, 1) := by decide +kernel
theorem d13_30 : decode jdk_68_method_22_code 30 = .ok (.invokevirtual 208, 3) := by decide +kernel
theorem d13_33 : decode jdk_68_method_22_code 33 = .ok (.aload_n 0, 1) := by decide +kernel
theorem d13_34 : decode jdk_68_method_22_code 34 = .ok (.dup, 1) := by decide +kernel
theorem d13_35 : decode jdk_68_method_22_code 35 = .ok (.getfield 79, 3) := by decide +kernel
theorem d13_38 : decode jdk_68_method_22_code 38 = .ok (.iload_n 2, 1) := by decide +kernel
theorem d13_39 : decode jdk_68_method_22_code 39 = .ok (.iadd, 1) := by decide +kernel
theorem d13_40 : decode jdk_68_method_22_code 40 = .ok (.putfield 79, 3) := by decide +kernel
theorem d13_43 : decode jdk_68_method_22_code 43 = .ok (.aload_n 0, 1) := by decide +kernel
theorem d13_44 : decode jdk_68_method_22_code 44 = .ok (.areturn, 1) := by decide +kernel
theorem d14_0 : decode jdk_42_method_54_code 0 = .ok (.aload_n 0, 1) := by decide +kernel
theorem d14_1 : decode jdk_42_method_54_code 1 = .ok (.getfield 9, 3) := by decide +kernel
theorem d14_4 : decode jdk_42_method_54_code 4 = .ok (.arraylength, 1) := by decide +kernel
theorem d14_5 : decode jdk_42_method_54_code 5 = .ok (.aload_n 0, 1) := by decide +kernel
theorem d14_6 : decode jdk_42_method_54_code 6 = .ok (.invokevirtual 335, 3) := by decide +kernel
theorem d14_9 : decode jdk_42_method_54_code 9 = .ok (.ishr, 1) := by decide +kernel
theorem d14_10 : decode jdk_42_method_54_code 10 = .ok (.ireturn, 1) := by decide +kernel
theorem d15_0 : decode jdk_42_method_152_code 0 = .ok (.getstatic 38, 3) := by decide +kernel
theorem d15_3 : decode jdk_42_method_152_code 3 = .ok (.ifCond .eq 10, 3) := by decide +kernel
theorem d15_6 : decode jdk_42_method_152_code 6 = .ok (.aload_n 0, 1) := by decide +kernel
theorem d15_7 : decode jdk_42_method_152_code 7 = .ok (.getfield 15, 3) := by decide +kernel
theorem d15_10 : decode jdk_42_method_152_code 10 = .ok (.goto 4, 3) := by decide +kernel
theorem d15_14 : decode jdk_42_method_152_code 14 = .ok (.ireturn, 1) := by decide +kernel
theorem d16_0 : decode jdk_68_method_73_code 0 = .ok (.aload_n 0, 1) := by decide +kernel
theorem d16_1 : decode jdk_68_method_73_code 1 = .ok (.aload_n 2, 1) := by decide +kernel
theorem d16_2 : decode jdk_68_method_73_code 2 = .ok (.invokevirtual 397, 3) := by decide +kernel
theorem d16_5 : decode jdk_68_method_73_code 5 = .ok (.aload_n 2, 1) := by decide +kernel
theorem d16_6 : decode jdk_68_method_73_code 6 = .ok (.aload_n 0, 1) := by decide +kernel
theorem d16_7 : decode jdk_68_method_73_code 7 = .ok (.getfield 15, 3) := by decide +kernel
theorem d16_10 : decode jdk_68_method_73_code 10 = .ok (.iload_n 1, 1) := by decide +kernel
theorem d16_11 : decode jdk_68_method_73_code 11 = .ok (.aload_n 0, 1) := by decide +kernel
theorem d16_12 : decode jdk_68_method_73_code 12 = .ok (.getfield 22, 3) := by decide +kernel
theorem d16_15 : decode jdk_68_method_73_code 15 = .ok (.invokevirtual 399, 3) := by decide +kernel
theorem d16_18 : decode jdk_68_method_73_code 18 = .ok (.return_, 1) := by decide +kernel
theorem d17_0 : decode jdk_68_method_71_code 0 = .ok (.getstatic 18, 3) := by decide +kernel
theorem d17_3 : decode jdk_68_method_71_code 3 = .ok (.ifCond .eq 18, 3) := by decide +kernel
theorem d17_6 : decode jdk_68_method_71_code 6 = .ok (.aload_n 0, 1) := by decide +kernel
theorem d17_7 : decode jdk_68_method_71_code 7 = .ok (.getfield 22, 3) := by decide +kernel
theorem d17_10 : decode jdk_68_method_71_code 10 = .ok (.aload_n 1, 1) := by decide +kernel
theorem d17_11 : decode jdk_68_method_71_code 11 = .ok (.invokevirtual 40, 3) := by decide +kernel
theorem d17_14 : decode jdk_68_method_71_code 14 = .ok (.if_icmp .eq 7, 3) := by decide +kernel
theorem d17_21 : decode jdk_68_method_71_code 21 = .ok (.return_, 1) := by decide +kernel
theorem d18_0 : decode jdk_42_method_147_code 0 = .ok (.aload_n 0, 1) := by decide +kernel
theorem d18_1 : decode jdk_42_method_147_code 1 = .ok (.invokevirtual 335, 3) := by decide +kernel
theorem d18_4 : decode jdk_42_method_147_code 4 = .ok (.iload_n 3, 1) := by decide +kernel
theorem d18_5 : decode jdk_42_method_147_code 5 = .ok (.if_icmp .ne 23, 3) := by decide +kernel
theorem d18_8 : decode jdk_42_method_147_code 8 = .ok (.aload_n 0, 1) := by decide +kernel
theorem d18_9 : decode jdk_42_method_147_code 9 = .ok (.getfield 9, 3) := by decide +kernel
theorem d18_12 : decode jdk_42_method_147_code 12 = .ok (.iconst 0, 1) := by decide +kernel
theorem d18_13 : decode jdk_42_method_147_code 13 = .ok (.aload_n 1, 1) := by decide +kernel
theorem d18_14 : decode jdk_42_method_147_code 14 = .ok (.iload_n 2, 1) := by decide +kernel
theorem d18_15 : decode jdk_42_method_147_code 15 = .ok (.iload_n 3, 1) := by decide +kernel
theorem d18_16 : decode jdk_42_method_147_code 16 = .ok (.ishl, 1) := by decide +kernel
theorem d18_17 : decode jdk_42_method_147_code 17 = .ok (.aload_n 0, 1) := by decide +kernel
theorem d18_18 : decode jdk_42_method_147_code 18 = .ok (.getfield 9, 3) := by decide +kernel
theorem d18_21 : decode jdk_42_method_147_code 21 = .ok (.arraylength, 1) := by decide +kernel
theorem d18_22 : decode jdk_42_method_147_code 22 = .ok (.invokestatic 212, 3) := by decide +kernel
theorem d18_25 : decode jdk_42_method_147_code 25 = .ok (.goto 18, 3) := by decide +kernel
theorem d18_43 : decode jdk_42_method_147_code 43 = .ok (.return_, 1) := by decide +kernel
theorem d19_0 : decode jdk_67_method_42_code 0 = .ok (.new 18, 3) := by decide +kernel
theorem d19_3 : decode jdk_67_method_42_code 3 = .ok (.dup, 1) := by decide +kernel
theorem d19_4 : decode jdk_67_method_42_code 4 = .ok (.aload_n 0, 1) := by decide +kernel
theorem d19_5 : decode jdk_67_method_42_code 5 = .ok (.invokespecial 137, 3) := by decide +kernel
theorem d19_8 : decode jdk_67_method_42_code 8 = .ok (.areturn, 1) := by decide +kernel
theorem d20_0 : decode jdk_42_method_53_code 0 = .ok (.aload_n 0, 1) := by decide +kernel
theorem d20_1 : decode jdk_42_method_53_code 1 = .ok (.aload_n 1, 1) := by decide +kernel
theorem d20_2 : decode jdk_42_method_53_code 2 = .ok (.aconst_null, 1) := by decide +kernel
theorem d20_3 : decode jdk_42_method_53_code 3 = .ok (.invokespecial 489, 3) := by decide +kernel
theorem d20_6 : decode jdk_42_method_53_code 6 = .ok (.return_, 1) := by decide +kernel
theorem d21_0 : decode jdk_42_method_150_code 0 = .ok (.aload_n 0, 1) := by decide +kernel
theorem d21_1 : decode jdk_42_method_150_code 1 = .ok (.invokespecial 1, 3) := by decide +kernel
theorem d21_4 : decode jdk_42_method_150_code 4 = .ok (.aload_n 1, 1) := by decide +kernel
theorem d21_5 : decode jdk_42_method_150_code 5 = .ok (.invokevirtual 552, 3) := by decide +kernel
theorem d21_8 : decode jdk_42_method_150_code 8 = .ok (.astore_n 3, 1) := by decide +kernel
theorem d21_9 : decode jdk_42_method_150_code 9 = .ok (.aload_n 1, 1) := by decide +kernel
theorem d21_10 : decode jdk_42_method_150_code 10 = .ok (.invokevirtual 549, 3) := by decide +kernel
theorem d21_13 : decode jdk_42_method_150_code 13 = .ok (.istore 4, 2) := by decide +kernel
theorem d21_15 : decode jdk_42_method_150_code 15 = .ok (.aload_n 1, 1) := by decide +kernel
theorem d21_16 : decode jdk_42_method_150_code 16 = .ok (.invokevirtual 1047, 3) := by decide +kernel
theorem d21_19 : decode jdk_42_method_150_code 19 = .ok (.ifCond .eq 22, 3) := by decide +kernel
theorem d21_22 : decode jdk_42_method_150_code 22 = .ok (.aload_n 0, 1) := by decide +kernel
theorem d21_23 : decode jdk_42_method_150_code 23 = .ok (.iconst 0, 1) := by decide +kernel
theorem d21_24 : decode jdk_42_method_150_code 24 = .ok (.putfield 15, 3) := by decide +kernel
theorem d21_27 : decode jdk_42_method_150_code 27 = .ok (.aload_n 0, 1) := by decide +kernel
theorem d21_28 : decode jdk_42_method_150_code 28 = .ok (.aload_n 3, 1) := by decide +kernel
theorem d21_29 : decode jdk_42_method_150_code 29 = .ok (.iconst 0, 1) := by decide +kernel
theorem d21_30 : decode jdk_42_method_150_code 30 = .ok (.iload 4, 2) := by decide +kernel
theorem d21_32 : decode jdk_42_method_150_code 32 = .ok (.invokestatic 54, 3) := by decide +kernel
theorem d21_35 : decode jdk_42_method_150_code 35 = .ok (.putfield 9, 3) := by decide +kernel
theorem d21_38 : decode jdk_42_method_150_code 38 = .ok (.goto 59, 3) := by decide +kernel
theorem d21_97 : decode jdk_42_method_150_code 97 = .ok (.return_, 1) := by decide +kernel
theorem d22_0 : decode jdk_68_method_64_code 0 = .ok (.aload_n 0, 1) := by decide +kernel
theorem d22_1 : decode jdk_68_method_64_code 1 = .ok (.getfield 15, 3) := by decide +kernel
theorem d22_4 : decode jdk_68_method_64_code 4 = .ok (.areturn, 1) := by decide +kernel
theorem d23_0 : decode jdk_67_method_93_code 0 = .ok (.aload_n 0, 1) := by decide +kernel
theorem d23_1 : decode jdk_67_method_93_code 1 = .ok (.invokespecial 343, 3) := by decide +kernel
theorem d23_4 : decode jdk_67_method_93_code 4 = .ok (.ireturn, 1) := by decide +kernel
theorem d24_0 : decode jdk_68_method_6_code 0 = .ok (.aload_n 0, 1) := by decide +kernel
theorem d24_1 : decode jdk_68_method_6_code 1 = .ok (.getfield 79, 3) := by decide +kernel
theorem d24_4 : decode jdk_68_method_6_code 4 = .ok (.ireturn, 1) := by decide +kernel
theorem d25_0 : decode jdk_65_method_132_code 0 = .ok (.iload_n 1, 1) := by decide +kernel
theorem d25_1 : decode jdk_65_method_132_code 1 = .ok (.ifCond .ne 9, 3) := by decide +kernel
theorem d25_4 : decode jdk_65_method_132_code 4 = .ok (.iload_n 2, 1) := by decide +kernel
theorem d25_5 : decode jdk_65_method_132_code 5 = .ok (.aload_n 0, 1) := by decide +kernel
theorem d25_6 : decode jdk_65_method_132_code 6 = .ok (.arraylength, 1) := by decide +kernel
theorem d25_7 : decode jdk_65_method_132_code 7 = .ok (.if_icmp .eq 10, 3) := by decide +kernel
theorem d25_10 : decode jdk_65_method_132_code 10 = .ok (.aload_n 0, 1) := by decide +kernel
theorem d25_11 : decode jdk_65_method_132_code 11 = .ok (.iload_n 1, 1) := by decide +kernel
theorem d25_12 : decode jdk_65_method_132_code 12 = .ok (.iload_n 2, 1) := by decide +kernel
theorem d25_13 : decode jdk_65_method_132_code 13 = .ok (.invokestatic 339, 3) := by decide +kernel
theorem d25_16 : decode jdk_65_method_132_code 16 = .ok (.areturn, 1) := by decide +kernel
theorem d25_17 : decode jdk_65_method_132_code 17 = .ok (.aload_n 0, 1) := by decide +kernel
theorem d25_18 : decode jdk_65_method_132_code 18 = .ok (.invokevirtual 310, 3) := by decide +kernel
theorem d25_21 : decode jdk_65_method_132_code 21 = .ok (.checkcast 311, 3) := by decide +kernel
theorem d25_24 : decode jdk_65_method_132_code 24 = .ok (.areturn, 1) := by decide +kernel
theorem d26_0 : decode jdk_65_method_133_code 0 = .ok (.iload_n 1, 1) := by decide +kernel
theorem d26_1 : decode jdk_65_method_133_code 1 = .ok (.iload_n 2, 1) := by decide +kernel
theorem d26_2 : decode jdk_65_method_133_code 2 = .ok (.invokestatic 343, 3) := by decide +kernel
theorem d26_5 : decode jdk_65_method_133_code 5 = .ok (.iload_n 2, 1) := by decide +kernel
theorem d26_6 : decode jdk_65_method_133_code 6 = .ok (.iload_n 1, 1) := by decide +kernel
theorem d26_7 : decode jdk_65_method_133_code 7 = .ok (.isub, 1) := by decide +kernel
theorem d26_8 : decode jdk_65_method_133_code 8 = .ok (.istore_n 3, 1) := by decide +kernel
theorem d26_9 : decode jdk_65_method_133_code 9 = .ok (.iload_n 3, 1) := by decide +kernel
theorem d26_10 : decode jdk_65_method_133_code 10 = .ok (.newarray .byte, 2) := by decide +kernel
theorem d26_12 : decode jdk_65_method_133_code 12 = .ok (.astore 4, 2) := by decide +kernel
theorem d26_14 : decode jdk_65_method_133_code 14 = .ok (.aload_n 0, 1) := by decide +kernel
theorem d26_15 : decode jdk_65_method_133_code 15 = .ok (.iload_n 1, 1) := by decide +kernel
theorem d26_16 : decode jdk_65_method_133_code 16 = .ok (.aload 4, 2) := by decide +kernel
theorem d26_18 : decode jdk_65_method_133_code 18 = .ok (.iconst 0, 1) := by decide +kernel
theorem d26_19 : decode jdk_65_method_133_code 19 = .ok (.aload_n 0, 1) := by decide +kernel
theorem d26_20 : decode jdk_65_method_133_code 20 = .ok (.arraylength, 1) := by decide +kernel
theorem d26_21 : decode jdk_65_method_133_code 21 = .ok (.iload_n 1, 1) := by decide +kernel
theorem d26_22 : decode jdk_65_method_133_code 22 = .ok (.isub, 1) := by decide +kernel
theorem d26_23 : decode jdk_65_method_133_code 23 = .ok (.iload_n 3, 1) := by decide +kernel
theorem d26_24 : decode jdk_65_method_133_code 24 = .ok (.invokestatic 304, 3) := by decide +kernel
theorem d26_27 : decode jdk_65_method_133_code 27 = .ok (.invokestatic 150, 3) := by decide +kernel
theorem d26_30 : decode jdk_65_method_133_code 30 = .ok (.aload 4, 2) := by decide +kernel
theorem d26_32 : decode jdk_65_method_133_code 32 = .ok (.areturn, 1) := by decide +kernel
theorem d27_0 : decode jdk_65_method_131_code 0 = .ok (.iload_n 1, 1) := by decide +kernel
theorem d27_1 : decode jdk_65_method_131_code 1 = .ok (.iload_n 0, 1) := by decide +kernel
theorem d27_2 : decode jdk_65_method_131_code 2 = .ok (.if_icmp .ge 35, 3) := by decide +kernel
theorem d27_37 : decode jdk_65_method_131_code 37 = .ok (.return_, 1) := by decide +kernel
theorem d28_0 : decode jdk_29_method_69_code 0 = .ok (.iload_n 0, 1) := by decide +kernel
theorem d28_1 : decode jdk_29_method_69_code 1 = .ok (.iload_n 1, 1) := by decide +kernel
theorem d28_2 : decode jdk_29_method_69_code 2 = .ok (.if_icmp .gt 7, 3) := by decide +kernel
theorem d28_5 : decode jdk_29_method_69_code 5 = .ok (.iload_n 0, 1) := by decide +kernel
theorem d28_6 : decode jdk_29_method_69_code 6 = .ok (.goto 4, 3) := by decide +kernel
theorem d28_9 : decode jdk_29_method_69_code 9 = .ok (.iload_n 1, 1) := by decide +kernel
theorem d28_10 : decode jdk_29_method_69_code 10 = .ok (.ireturn, 1) := by decide +kernel
theorem d29_0 : decode method_5_code 0 = .ok (.iload_n 0, 1) := by decide +kernel
theorem d29_1 : decode method_5_code 1 = .ok (.i2l, 1) := by decide +kernel
theorem d29_2 : decode method_5_code 2 = .ok (.invokestatic 43, 3) := by decide +kernel
theorem d29_5 : decode method_5_code 5 = .ok (.lstore_n 1, 1) := by decide +kernel
theorem d29_6 : decode method_5_code 6 = .ok (.lload_n 1, 1) := by decide +kernel
theorem d29_7 : decode method_5_code 7 = .ok (.invokestatic 55, 3) := by decide +kernel
theorem d29_10 : decode method_5_code 10 = .ok (.istore_n 3, 1) := by decide +kernel
theorem d29_11 : decode method_5_code 11 = .ok (.iload_n 0, 1) := by decide +kernel
theorem d29_12 : decode method_5_code 12 = .ok (.ifCond .ge 9, 3) := by decide +kernel
theorem d29_15 : decode method_5_code 15 = .ok (.iload_n 3, 1) := by decide +kernel
theorem d29_16 : decode method_5_code 16 = .ok (.iconst 1, 1) := by decide +kernel
theorem d29_17 : decode method_5_code 17 = .ok (.iadd, 1) := by decide +kernel
theorem d29_18 : decode method_5_code 18 = .ok (.goto 4, 3) := by decide +kernel
theorem d29_21 : decode method_5_code 21 = .ok (.iload_n 3, 1) := by decide +kernel
theorem d29_22 : decode method_5_code 22 = .ok (.ireturn, 1) := by decide +kernel
theorem d30_0 : decode jdk_29_method_61_code 0 = .ok (.lload_n 0, 1) := by decide +kernel
theorem d30_1 : decode jdk_29_method_61_code 1 = .ok (.lconst 0, 1) := by decide +kernel
theorem d30_2 : decode jdk_29_method_61_code 2 = .ok (.lcmp, 1) := by decide +kernel
theorem d30_3 : decode jdk_29_method_61_code 3 = .ok (.ifCond .ge 8, 3) := by decide +kernel
theorem d30_6 : decode jdk_29_method_61_code 6 = .ok (.lload_n 0, 1) := by decide +kernel
theorem d30_7 : decode jdk_29_method_61_code 7 = .ok (.lneg, 1) := by decide +kernel
theorem d30_8 : decode jdk_29_method_61_code 8 = .ok (.goto 4, 3) := by decide +kernel
theorem d30_11 : decode jdk_29_method_61_code 11 = .ok (.lload_n 0, 1) := by decide +kernel
theorem d30_12 : decode jdk_29_method_61_code 12 = .ok (.lreturn, 1) := by decide +kernel
theorem d31_0 : decode method_6_code 0 = .ok (.lload_n 0, 1) := by decide +kernel
theorem d31_1 : decode method_6_code 1 = .ok (.ldc2_w 53, 3) := by decide +kernel
theorem d31_4 : decode method_6_code 4 = .ok (.lcmp, 1) := by decide +kernel
theorem d31_5 : decode method_6_code 5 = .ok (.ifCond .ge 5, 3) := by decide +kernel
theorem d31_8 : decode method_6_code 8 = .ok (.iconst 1, 1) := by decide +kernel
theorem d31_9 : decode method_6_code 9 = .ok (.ireturn, 1) := by decide +kernel
theorem d31_10 : decode method_6_code 10 = .ok (.lload_n 0, 1) := by decide +kernel
theorem d31_11 : decode method_6_code 11 = .ok (.ldc2_w 59, 3) := by decide +kernel
theorem d31_14 : decode method_6_code 14 = .ok (.lcmp, 1) := by decide +kernel
theorem d31_15 : decode method_6_code 15 = .ok (.ifCond .ge 5, 3) := by decide +kernel
theorem d31_18 : decode method_6_code 18 = .ok (.iconst 2, 1) := by decide +kernel
theorem d31_19 : decode method_6_code 19 = .ok (.ireturn, 1) := by decide +kernel
theorem d31_20 : decode method_6_code 20 = .ok (.lload_n 0, 1) := by decide +kernel
theorem d31_21 : decode method_6_code 21 = .ok (.ldc2_w 61, 3) := by decide +kernel
theorem d31_24 : decode method_6_code 24 = .ok (.lcmp, 1) := by decide +kernel
theorem d31_25 : decode method_6_code 25 = .ok (.ifCond .ge 5, 3) := by decide +kernel
theorem d31_28 : decode method_6_code 28 = .ok (.iconst 3, 1) := by decide +kernel
theorem d31_29 : decode method_6_code 29 = .ok (.ireturn, 1) := by decide +kernel
theorem d31_30 : decode method_6_code 30 = .ok (.lload_n 0, 1) := by decide +kernel
theorem d31_31 : decode method_6_code 31 = .ok (.ldc2_w 63, 3) := by decide +kernel
theorem d31_34 : decode method_6_code 34 = .ok (.lcmp, 1) := by decide +kernel
theorem d31_35 : decode method_6_code 35 = .ok (.ifCond .ge 5, 3) := by decide +kernel
theorem d31_38 : decode method_6_code 38 = .ok (.iconst 4, 1) := by decide +kernel
theorem d31_39 : decode method_6_code 39 = .ok (.ireturn, 1) := by decide +kernel
theorem d31_40 : decode method_6_code 40 = .ok (.lload_n 0, 1) := by decide +kernel
theorem d31_41 : decode method_6_code 41 = .ok (.ldc2_w 65, 3) := by decide +kernel
theorem d31_44 : decode method_6_code 44 = .ok (.lcmp, 1) := by decide +kernel
theorem d31_45 : decode method_6_code 45 = .ok (.ifCond .ge 5, 3) := by decide +kernel
theorem d31_48 : decode method_6_code 48 = .ok (.iconst 5, 1) := by decide +kernel
theorem d31_49 : decode method_6_code 49 = .ok (.ireturn, 1) := by decide +kernel
theorem d31_50 : decode method_6_code 50 = .ok (.lload_n 0, 1) := by decide +kernel
theorem d31_51 : decode method_6_code 51 = .ok (.ldc2_w 67, 3) := by decide +kernel
theorem d31_54 : decode method_6_code 54 = .ok (.lcmp, 1) := by decide +kernel
theorem d31_55 : decode method_6_code 55 = .ok (.ifCond .ge 6, 3) := by decide +kernel
theorem d31_58 : decode method_6_code 58 = .ok (.bipush 6, 2) := by decide +kernel
theorem d31_60 : decode method_6_code 60 = .ok (.ireturn, 1) := by decide +kernel
theorem d31_61 : decode method_6_code 61 = .ok (.lload_n 0, 1) := by decide +kernel
theorem d31_62 : decode method_6_code 62 = .ok (.ldc2_w 69, 3) := by decide +kernel
theorem d31_65 : decode method_6_code 65 = .ok (.lcmp, 1) := by decide +kernel
theorem d31_66 : decode method_6_code 66 = .ok (.ifCond .ge 6, 3) := by decide +kernel
theorem d31_69 : decode method_6_code 69 = .ok (.bipush 7, 2) := by decide +kernel
theorem d31_71 : decode method_6_code 71 = .ok (.ireturn, 1) := by decide +kernel
theorem d31_72 : decode method_6_code 72 = .ok (.lload_n 0, 1) := by decide +kernel
theorem d31_73 : decode method_6_code 73 = .ok (.ldc2_w 71, 3) := by decide +kernel
theorem d31_76 : decode method_6_code 76 = .ok (.lcmp, 1) := by decide +kernel
theorem d31_77 : decode method_6_code 77 = .ok (.ifCond .ge 6, 3) := by decide +kernel
theorem d31_80 : decode method_6_code 80 = .ok (.bipush 8, 2) := by decide +kernel
theorem d31_82 : decode method_6_code 82 = .ok (.ireturn, 1) := by decide +kernel
theorem d31_83 : decode method_6_code 83 = .ok (.lload_n 0, 1) := by decide +kernel
theorem d31_84 : decode method_6_code 84 = .ok (.ldc2_w 73, 3) := by decide +kernel
theorem d31_87 : decode method_6_code 87 = .ok (.lcmp, 1) := by decide +kernel
theorem d31_88 : decode method_6_code 88 = .ok (.ifCond .ge 6, 3) := by decide +kernel
theorem d31_91 : decode method_6_code 91 = .ok (.bipush 9, 2) := by decide +kernel
theorem d31_93 : decode method_6_code 93 = .ok (.ireturn, 1) := by decide +kernel
theorem d31_94 : decode method_6_code 94 = .ok (.bipush 10, 2) := by decide +kernel
theorem d31_96 : decode method_6_code 96 = .ok (.ireturn, 1) := by decide +kernel
theorem d32_0 : decode jdk_42_method_56_code 0 = .ok (.aload_n 0, 1) := by decide +kernel
theorem d32_1 : decode jdk_42_method_56_code 1 = .ok (.invokevirtual 492, 3) := by decide +kernel
theorem d32_4 : decode jdk_42_method_56_code 4 = .ok (.ifCond .eq 12, 3) := by decide +kernel
theorem d32_7 : decode jdk_42_method_56_code 7 = .ok (.aload_n 0, 1) := by decide +kernel
theorem d32_8 : decode jdk_42_method_56_code 8 = .ok (.getfield 9, 3) := by decide +kernel
theorem d32_11 : decode jdk_42_method_56_code 11 = .ok (.iload_n 1, 1) := by decide +kernel
theorem d32_12 : decode jdk_42_method_56_code 12 = .ok (.invokestatic 495, 3) := by decide +kernel
theorem d32_15 : decode jdk_42_method_56_code 15 = .ok (.ireturn, 1) := by decide +kernel
theorem d33_0 : decode jdk_42_method_154_code 0 = .ok (.getstatic 38, 3) := by decide +kernel
theorem d33_3 : decode jdk_42_method_154_code 3 = .ok (.ifCond .eq 14, 3) := by decide +kernel
theorem d33_6 : decode jdk_42_method_154_code 6 = .ok (.aload_n 0, 1) := by decide +kernel
theorem d33_7 : decode jdk_42_method_154_code 7 = .ok (.getfield 15, 3) := by decide +kernel
theorem d33_10 : decode jdk_42_method_154_code 10 = .ok (.ifCond .ne 7, 3) := by decide +kernel
theorem d33_13 : decode jdk_42_method_154_code 13 = .ok (.iconst 1, 1) := by decide +kernel
theorem d33_14 : decode jdk_42_method_154_code 14 = .ok (.goto 4, 3) := by decide +kernel
theorem d33_18 : decode jdk_42_method_154_code 18 = .ok (.ireturn, 1) := by decide +kernel
theorem d34_0 : decode jdk_43_method_2_code 0 = .ok (.iload_n 1, 1) := by decide +kernel
theorem d34_1 : decode jdk_43_method_2_code 1 = .ok (.aload_n 0, 1) := by decide +kernel
theorem d34_2 : decode jdk_43_method_2_code 2 = .ok (.arraylength, 1) := by decide +kernel
theorem d34_3 : decode jdk_43_method_2_code 3 = .ok (.invokestatic 9, 3) := by decide +kernel
theorem d34_6 : decode jdk_43_method_2_code 6 = .ok (.aload_n 0, 1) := by decide +kernel
theorem d34_7 : decode jdk_43_method_2_code 7 = .ok (.iload_n 1, 1) := by decide +kernel
theorem d34_8 : decode jdk_43_method_2_code 8 = .ok (.baload, 1) := by decide +kernel
theorem d34_9 : decode jdk_43_method_2_code 9 = .ok (.sipush 255, 3) := by decide +kernel
theorem d34_12 : decode jdk_43_method_2_code 12 = .ok (.iand, 1) := by decide +kernel
theorem d34_13 : decode jdk_43_method_2_code 13 = .ok (.i2c, 1) := by decide +kernel
theorem d34_14 : decode jdk_43_method_2_code 14 = .ok (.ireturn, 1) := by decide +kernel
theorem d35_0 : decode jdk_42_method_155_code 0 = .ok (.iload_n 0, 1) := by decide +kernel
theorem d35_1 : decode jdk_42_method_155_code 1 = .ok (.iload_n 1, 1) := by decide +kernel
theorem d35_2 : decode jdk_42_method_155_code 2 = .ok (.getstatic 1053, 3) := by decide +kernel
theorem d35_5 : decode jdk_42_method_155_code 5 = .ok (.invokestatic 1059, 3) := by decide +kernel
theorem d35_8 : decode jdk_42_method_155_code 8 = .ok (.pop, 1) := by decide +kernel
theorem d35_9 : decode jdk_42_method_155_code 9 = .ok (.return_, 1) := by decide +kernel
theorem d36_0 : decode jdk_41_method_11_code 0 = .ok (.iload_n 0, 1) := by decide +kernel
theorem d36_1 : decode jdk_41_method_11_code 1 = .ok (.ifCond .lt 8, 3) := by decide +kernel
theorem d36_4 : decode jdk_41_method_11_code 4 = .ok (.iload_n 0, 1) := by decide +kernel
theorem d36_5 : decode jdk_41_method_11_code 5 = .ok (.iload_n 1, 1) := by decide +kernel
theorem d36_6 : decode jdk_41_method_11_code 6 = .ok (.if_icmp .lt 10, 3) := by decide +kernel
theorem d36_16 : decode jdk_41_method_11_code 16 = .ok (.iload_n 0, 1) := by decide +kernel
theorem d36_17 : decode jdk_41_method_11_code 17 = .ok (.ireturn, 1) := by decide +kernel
theorem d37_0 : decode method_3_code 0 = .ok (.iload 4, 2) := by decide +kernel
theorem d37_2 : decode method_3_code 2 = .ok (.iload_n 2, 1) := by decide +kernel
theorem d37_3 : decode method_3_code 3 = .ok (.if_icmp .ge 11, 3) := by decide +kernel
theorem d37_6 : decode method_3_code 6 = .ok (.iload_n 0, 1) := by decide +kernel
theorem d37_7 : decode method_3_code 7 = .ok (.iload_n 2, 1) := by decide +kernel
theorem d37_8 : decode method_3_code 8 = .ok (.iload 4, 2) := by decide +kernel
theorem d37_10 : decode method_3_code 10 = .ok (.invokestatic 37, 3) := by decide +kernel
theorem d37_13 : decode method_3_code 13 = .ok (.ireturn, 1) := by decide +kernel
theorem d37_14 : decode method_3_code 14 = .ok (.iload 4, 2) := by decide +kernel
theorem d37_16 : decode method_3_code 16 = .ok (.iload_n 2, 1) := by decide +kernel
theorem d37_17 : decode method_3_code 17 = .ok (.isub, 1) := by decide +kernel
theorem d37_18 : decode method_3_code 18 = .ok (.istore 5, 2) := by decide +kernel
theorem d37_20 : decode method_3_code 20 = .ok (.iload 5, 2) := by decide +kernel
theorem d37_22 : decode method_3_code 22 = .ok (.iconst 5, 1) := by decide +kernel
theorem d37_23 : decode method_3_code 23 = .ok (.if_icmp .ge 11, 3) := by decide +kernel
theorem d37_26 : decode method_3_code 26 = .ok (.ldc 41, 2) := by decide +kernel
theorem d37_28 : decode method_3_code 28 = .ok (.iload 5, 2) := by decide +kernel
theorem d37_30 : decode method_3_code 30 = .ok (.invokevirtual 29, 3) := by decide +kernel
theorem d37_33 : decode method_3_code 33 = .ok (.ireturn, 1) := by decide +kernel
theorem d37_34 : decode method_3_code 34 = .ok (.iload_n 1, 1) := by decide +kernel
theorem d37_35 : decode method_3_code 35 = .ok (.iload_n 3, 1) := by decide +kernel
theorem d37_36 : decode method_3_code 36 = .ok (.iload 5, 2) := by decide +kernel
theorem d37_38 : decode method_3_code 38 = .ok (.iconst 5, 1) := by decide +kernel
theorem d37_39 : decode method_3_code 39 = .ok (.isub, 1) := by decide +kernel
theorem d37_40 : decode method_3_code 40 = .ok (.invokestatic 37, 3) := by decide +kernel
theorem d37_43 : decode method_3_code 43 = .ok (.ireturn, 1) := by decide +kernel
theorem d38_0 : decode method_4_code 0 = .ok (.iload_n 0, 1) := by decide +kernel
theorem d38_1 : decode method_4_code 1 = .ok (.ifCond .ge 10, 3) := by decide +kernel
theorem d38_4 : decode method_4_code 4 = .ok (.iload_n 2, 1) := by decide +kernel
theorem d38_5 : decode method_4_code 5 = .ok (.ifCond .ne 6, 3) := by decide +kernel
theorem d38_8 : decode method_4_code 8 = .ok (.bipush 45, 2) := by decide +kernel
theorem d38_10 : decode method_4_code 10 = .ok (.ireturn, 1) := by decide +kernel
theorem d38_11 : decode method_4_code 11 = .ok (.iload_n 0, 1) := by decide +kernel
theorem d38_12 : decode method_4_code 12 = .ok (.i2l, 1) := by decide +kernel
theorem d38_13 : decode method_4_code 13 = .ok (.invokestatic 43, 3) := by decide +kernel
theorem d38_16 : decode method_4_code 16 = .ok (.lstore_n 3, 1) := by decide +kernel
theorem d38_17 : decode method_4_code 17 = .ok (.iload_n 0, 1) := by decide +kernel
theorem d38_18 : decode method_4_code 18 = .ok (.ifCond .ge 9, 3) := by decide +kernel
theorem d38_21 : decode method_4_code 21 = .ok (.iload_n 1, 1) := by decide +kernel
theorem d38_22 : decode method_4_code 22 = .ok (.iconst 1, 1) := by decide +kernel
theorem d38_23 : decode method_4_code 23 = .ok (.isub, 1) := by decide +kernel
theorem d38_24 : decode method_4_code 24 = .ok (.goto 4, 3) := by decide +kernel
theorem d38_27 : decode method_4_code 27 = .ok (.iload_n 1, 1) := by decide +kernel
theorem d38_28 : decode method_4_code 28 = .ok (.istore 5, 2) := by decide +kernel
theorem d38_30 : decode method_4_code 30 = .ok (.iload_n 0, 1) := by decide +kernel
theorem d38_31 : decode method_4_code 31 = .ok (.ifCond .ge 9, 3) := by decide +kernel
theorem d38_34 : decode method_4_code 34 = .ok (.iload_n 2, 1) := by decide +kernel
theorem d38_35 : decode method_4_code 35 = .ok (.iconst 1, 1) := by decide +kernel
theorem d38_36 : decode method_4_code 36 = .ok (.isub, 1) := by decide +kernel
theorem d38_37 : decode method_4_code 37 = .ok (.goto 4, 3) := by decide +kernel
theorem d38_40 : decode method_4_code 40 = .ok (.iload_n 2, 1) := by decide +kernel
theorem d38_41 : decode method_4_code 41 = .ok (.istore 6, 2) := by decide +kernel
theorem d38_43 : decode method_4_code 43 = .ok (.iload 5, 2) := by decide +kernel
theorem d38_45 : decode method_4_code 45 = .ok (.iconst 1, 1) := by decide +kernel
theorem d38_46 : decode method_4_code 46 = .ok (.isub, 1) := by decide +kernel
theorem d38_47 : decode method_4_code 47 = .ok (.iload 6, 2) := by decide +kernel
theorem d38_49 : decode method_4_code 49 = .ok (.isub, 1) := by decide +kernel
theorem d38_50 : decode method_4_code 50 = .ok (.invokestatic 49, 3) := by decide +kernel
theorem d38_53 : decode method_4_code 53 = .ok (.lstore 7, 2) := by decide +kernel
theorem d38_55 : decode method_4_code 55 = .ok (.lload_n 3, 1) := by decide +kernel
theorem d38_56 : decode method_4_code 56 = .ok (.lload 7, 2) := by decide +kernel
theorem d38_58 : decode method_4_code 58 = .ok (.ldiv, 1) := by decide +kernel
theorem d38_59 : decode method_4_code 59 = .ok (.ldc2_w 53, 3) := by decide +kernel
theorem d38_62 : decode method_4_code 62 = .ok (.lrem, 1) := by decide +kernel
theorem d38_63 : decode method_4_code 63 = .ok (.l2i, 1) := by decide +kernel
theorem d38_64 : decode method_4_code 64 = .ok (.istore 9, 2) := by decide +kernel
theorem d38_66 : decode method_4_code 66 = .ok (.bipush 48, 2) := by decide +kernel
theorem d38_68 : decode method_4_code 68 = .ok (.iload 9, 2) := by decide +kernel
theorem d38_70 : decode method_4_code 70 = .ok (.iadd, 1) := by decide +kernel
theorem d38_71 : decode method_4_code 71 = .ok (.i2c, 1) := by decide +kernel
theorem d38_72 : decode method_4_code 72 = .ok (.ireturn, 1) := by decide +kernel
theorem d39_0 : decode method_7_code 0 = .ok (.iload_n 0, 1) := by decide +kernel
theorem d39_1 : decode method_7_code 1 = .ok (.ifCond .gt 5, 3) := by decide +kernel
theorem d39_4 : decode method_7_code 4 = .ok (.lconst 1, 1) := by decide +kernel
theorem d39_5 : decode method_7_code 5 = .ok (.lreturn, 1) := by decide +kernel
theorem d39_6 : decode method_7_code 6 = .ok (.iload_n 0, 1) := by decide +kernel
theorem d39_7 : decode method_7_code 7 = .ok (.iconst 1, 1) := by decide +kernel
theorem d39_8 : decode method_7_code 8 = .ok (.if_icmp .ne 7, 3) := by decide +kernel
theorem d39_11 : decode method_7_code 11 = .ok (.ldc2_w 53, 3) := by decide +kernel
theorem d39_14 : decode method_7_code 14 = .ok (.lreturn, 1) := by decide +kernel
theorem d39_15 : decode method_7_code 15 = .ok (.iload_n 0, 1) := by decide +kernel
theorem d39_16 : decode method_7_code 16 = .ok (.iconst 2, 1) := by decide +kernel
theorem d39_17 : decode method_7_code 17 = .ok (.if_icmp .ne 7, 3) := by decide +kernel
theorem d39_20 : decode method_7_code 20 = .ok (.ldc2_w 59, 3) := by decide +kernel
theorem d39_23 : decode method_7_code 23 = .ok (.lreturn, 1) := by decide +kernel
theorem d39_24 : decode method_7_code 24 = .ok (.iload_n 0, 1) := by decide +kernel
theorem d39_25 : decode method_7_code 25 = .ok (.iconst 3, 1) := by decide +kernel
theorem d39_26 : decode method_7_code 26 = .ok (.if_icmp .ne 7, 3) := by decide +kernel
theorem d39_29 : decode method_7_code 29 = .ok (.ldc2_w 61, 3) := by decide +kernel
theorem d39_32 : decode method_7_code 32 = .ok (.lreturn, 1) := by decide +kernel
theorem d39_33 : decode method_7_code 33 = .ok (.iload_n 0, 1) := by decide +kernel
theorem d39_34 : decode method_7_code 34 = .ok (.iconst 4, 1) := by decide +kernel
theorem d39_35 : decode method_7_code 35 = .ok (.if_icmp .ne 7, 3) := by decide +kernel
theorem d39_38 : decode method_7_code 38 = .ok (.ldc2_w 63, 3) := by decide +kernel
theorem d39_41 : decode method_7_code 41 = .ok (.lreturn, 1) := by decide +kernel
theorem d39_42 : decode method_7_code 42 = .ok (.iload_n 0, 1) := by decide +kernel
theorem d39_43 : decode method_7_code 43 = .ok (.iconst 5, 1) := by decide +kernel
theorem d39_44 : decode method_7_code 44 = .ok (.if_icmp .ne 7, 3) := by decide +kernel
theorem d39_47 : decode method_7_code 47 = .ok (.ldc2_w 65, 3) := by decide +kernel
theorem d39_50 : decode method_7_code 50 = .ok (.lreturn, 1) := by decide +kernel
theorem d39_51 : decode method_7_code 51 = .ok (.iload_n 0, 1) := by decide +kernel
theorem d39_52 : decode method_7_code 52 = .ok (.bipush 6, 2) := by decide +kernel
theorem d39_54 : decode method_7_code 54 = .ok (.if_icmp .ne 7, 3) := by decide +kernel
theorem d39_57 : decode method_7_code 57 = .ok (.ldc2_w 67, 3) := by decide +kernel
theorem d39_60 : decode method_7_code 60 = .ok (.lreturn, 1) := by decide +kernel
theorem d39_61 : decode method_7_code 61 = .ok (.iload_n 0, 1) := by decide +kernel
theorem d39_62 : decode method_7_code 62 = .ok (.bipush 7, 2) := by decide +kernel
theorem d39_64 : decode method_7_code 64 = .ok (.if_icmp .ne 7, 3) := by decide +kernel
theorem d39_67 : decode method_7_code 67 = .ok (.ldc2_w 69, 3) := by decide +kernel
theorem d39_70 : decode method_7_code 70 = .ok (.lreturn, 1) := by decide +kernel
theorem d39_71 : decode method_7_code 71 = .ok (.iload_n 0, 1) := by decide +kernel
theorem d39_72 : decode method_7_code 72 = .ok (.bipush 8, 2) := by decide +kernel
theorem d39_74 : decode method_7_code 74 = .ok (.if_icmp .ne 7, 3) := by decide +kernel
theorem d39_77 : decode method_7_code 77 = .ok (.ldc2_w 71, 3) := by decide +kernel
theorem d39_80 : decode method_7_code 80 = .ok (.lreturn, 1) := by decide +kernel
theorem d39_81 : decode method_7_code 81 = .ok (.ldc2_w 73, 3) := by decide +kernel
theorem d39_84 : decode method_7_code 84 = .ok (.lreturn, 1) := by decide +kernel
theorem d40_0 : decode jdk_68_method_10_code 0 = .ok (.aload_n 0, 1) := by decide +kernel
theorem d40_1 : decode jdk_68_method_10_code 1 = .ok (.getfield 15, 3) := by decide +kernel
theorem d40_4 : decode jdk_68_method_10_code 4 = .ok (.arraylength, 1) := by decide +kernel
theorem d40_5 : decode jdk_68_method_10_code 5 = .ok (.istore_n 2, 1) := by decide +kernel
theorem d40_6 : decode jdk_68_method_10_code 6 = .ok (.iload_n 1, 1) := by decide +kernel
theorem d40_7 : decode jdk_68_method_10_code 7 = .ok (.aload_n 0, 1) := by decide +kernel
theorem d40_8 : decode jdk_68_method_10_code 8 = .ok (.getfield 22, 3) := by decide +kernel
theorem d40_11 : decode jdk_68_method_10_code 11 = .ok (.ishl, 1) := by decide +kernel
theorem d40_12 : decode jdk_68_method_10_code 12 = .ok (.istore_n 3, 1) := by decide +kernel
theorem d40_13 : decode jdk_68_method_10_code 13 = .ok (.iload_n 3, 1) := by decide +kernel
theorem d40_14 : decode jdk_68_method_10_code 14 = .ok (.iload_n 2, 1) := by decide +kernel
theorem d40_15 : decode jdk_68_method_10_code 15 = .ok (.isub, 1) := by decide +kernel
theorem d40_16 : decode jdk_68_method_10_code 16 = .ok (.istore 4, 2) := by decide +kernel
theorem d40_18 : decode jdk_68_method_10_code 18 = .ok (.iload_n 2, 1) := by decide +kernel
theorem d40_19 : decode jdk_68_method_10_code 19 = .ok (.iload 4, 2) := by decide +kernel
theorem d40_21 : decode jdk_68_method_10_code 21 = .ok (.iload_n 2, 1) := by decide +kernel
theorem d40_22 : decode jdk_68_method_10_code 22 = .ok (.iconst 2, 1) := by decide +kernel
theorem d40_23 : decode jdk_68_method_10_code 23 = .ok (.aload_n 0, 1) := by decide +kernel
theorem d40_24 : decode jdk_68_method_10_code 24 = .ok (.getfield 22, 3) := by decide +kernel
theorem d40_27 : decode jdk_68_method_10_code 27 = .ok (.ishl, 1) := by decide +kernel
theorem d40_28 : decode jdk_68_method_10_code 28 = .ok (.iadd, 1) := by decide +kernel
theorem d40_29 : decode jdk_68_method_10_code 29 = .ok (.invokestatic 114, 3) := by decide +kernel
theorem d40_32 : decode jdk_68_method_10_code 32 = .ok (.istore 5, 2) := by decide +kernel
theorem d40_34 : decode jdk_68_method_10_code 34 = .ok (.iload 5, 2) := by decide +kernel
theorem d40_36 : decode jdk_68_method_10_code 36 = .ok (.ldc 39, 2) := by decide +kernel
theorem d40_38 : decode jdk_68_method_10_code 38 = .ok (.if_icmp .ne 13, 3) := by decide +kernel
theorem d40_51 : decode jdk_68_method_10_code 51 = .ok (.iload 5, 2) := by decide +kernel
theorem d40_53 : decode jdk_68_method_10_code 53 = .ok (.aload_n 0, 1) := by decide +kernel
theorem d40_54 : decode jdk_68_method_10_code 54 = .ok (.getfield 22, 3) := by decide +kernel
theorem d40_57 : decode jdk_68_method_10_code 57 = .ok (.ishr, 1) := by decide +kernel
theorem d40_58 : decode jdk_68_method_10_code 58 = .ok (.ireturn, 1) := by decide +kernel
theorem d41_0 : decode jdk_48_method_27_code 0 = .ok (.iload_n 0, 1) := by decide +kernel
theorem d41_1 : decode jdk_48_method_27_code 1 = .ok (.iload_n 1, 1) := by decide +kernel
theorem d41_2 : decode jdk_48_method_27_code 2 = .ok (.iload_n 2, 1) := by decide +kernel
theorem d41_3 : decode jdk_48_method_27_code 3 = .ok (.invokestatic 194, 3) := by decide +kernel
theorem d41_6 : decode jdk_48_method_27_code 6 = .ok (.iadd, 1) := by decide +kernel
theorem d41_7 : decode jdk_48_method_27_code 7 = .ok (.istore_n 3, 1) := by decide +kernel
theorem d41_8 : decode jdk_48_method_27_code 8 = .ok (.iconst 0, 1) := by decide +kernel
theorem d41_9 : decode jdk_48_method_27_code 9 = .ok (.iload_n 3, 1) := by decide +kernel
theorem d41_10 : decode jdk_48_method_27_code 10 = .ok (.if_icmp .ge 11, 3) := by decide +kernel
theorem d41_13 : decode jdk_48_method_27_code 13 = .ok (.iload_n 3, 1) := by decide +kernel
theorem d41_14 : decode jdk_48_method_27_code 14 = .ok (.ldc 200, 2) := by decide +kernel
theorem d41_16 : decode jdk_48_method_27_code 16 = .ok (.if_icmp .gt 5, 3) := by decide +kernel
theorem d41_19 : decode jdk_48_method_27_code 19 = .ok (.iload_n 3, 1) := by decide +kernel
theorem d41_20 : decode jdk_48_method_27_code 20 = .ok (.ireturn, 1) := by decide +kernel
theorem d42_0 : decode jdk_29_method_65_code 0 = .ok (.iload_n 0, 1) := by decide +kernel
theorem d42_1 : decode jdk_29_method_65_code 1 = .ok (.iload_n 1, 1) := by decide +kernel
theorem d42_2 : decode jdk_29_method_65_code 2 = .ok (.if_icmp .lt 7, 3) := by decide +kernel
theorem d42_5 : decode jdk_29_method_65_code 5 = .ok (.iload_n 0, 1) := by decide +kernel
theorem d42_6 : decode jdk_29_method_65_code 6 = .ok (.goto 4, 3) := by decide +kernel
theorem d42_9 : decode jdk_29_method_65_code 9 = .ok (.iload_n 1, 1) := by decide +kernel
theorem d42_10 : decode jdk_29_method_65_code 10 = .ok (.ireturn, 1) := by decide +kernel
theorem d43_0 : decode jdk_65_method_121_code 0 = .ok (.iload_n 1, 1) := by decide +kernel
theorem d43_1 : decode jdk_65_method_121_code 1 = .ok (.aload_n 0, 1) := by decide +kernel
theorem d43_2 : decode jdk_65_method_121_code 2 = .ok (.arraylength, 1) := by decide +kernel
theorem d43_3 : decode jdk_65_method_121_code 3 = .ok (.if_icmp .ne 11, 3) := by decide +kernel
theorem d43_14 : decode jdk_65_method_121_code 14 = .ok (.iload_n 1, 1) := by decide +kernel
theorem d43_15 : decode jdk_65_method_121_code 15 = .ok (.newarray .byte, 2) := by decide +kernel
theorem d43_17 : decode jdk_65_method_121_code 17 = .ok (.astore_n 2, 1) := by decide +kernel
theorem d43_18 : decode jdk_65_method_121_code 18 = .ok (.aload_n 0, 1) := by decide +kernel
theorem d43_19 : decode jdk_65_method_121_code 19 = .ok (.iconst 0, 1) := by decide +kernel
theorem d43_20 : decode jdk_65_method_121_code 20 = .ok (.aload_n 2, 1) := by decide +kernel
theorem d43_21 : decode jdk_65_method_121_code 21 = .ok (.iconst 0, 1) := by decide +kernel
theorem d43_22 : decode jdk_65_method_121_code 22 = .ok (.aload_n 0, 1) := by decide +kernel
theorem d43_23 : decode jdk_65_method_121_code 23 = .ok (.arraylength, 1) := by decide +kernel
theorem d43_24 : decode jdk_65_method_121_code 24 = .ok (.iload_n 1, 1) := by decide +kernel
theorem d43_25 : decode jdk_65_method_121_code 25 = .ok (.invokestatic 304, 3) := by decide +kernel
theorem d43_28 : decode jdk_65_method_121_code 28 = .ok (.invokestatic 150, 3) := by decide +kernel
theorem d43_31 : decode jdk_65_method_121_code 31 = .ok (.aload_n 2, 1) := by decide +kernel
theorem d43_32 : decode jdk_65_method_121_code 32 = .ok (.areturn, 1) := by decide +kernel
theorem pd_0 : parseMethodDescriptor "(I)V" = some ⟨[.int], none⟩ := by decide +kernel
theorem pd_1 : parseMethodDescriptor "(II)I" = some ⟨[.int, .int], some .int⟩ := by decide +kernel
theorem pd_2 : parseMethodDescriptor "(III)I" = some ⟨[.int, .int, .int], some .int⟩ := by decide +kernel
theorem pd_3 : parseMethodDescriptor "(I)I" = some ⟨[.int], some .int⟩ := by decide +kernel
theorem pd_4 : parseMethodDescriptor "([BI)[B" = some ⟨[(.array .byte), .int], some (.array .byte)⟩ := by decide +kernel
theorem pd_5 : parseMethodDescriptor "()Z" = some ⟨[], some .boolean⟩ := by decide +kernel
theorem pd_6 : parseMethodDescriptor "(II[B)I" = some ⟨[.int, .int, (.array .byte)], some .int⟩ := by decide +kernel
theorem pd_7 : parseMethodDescriptor "(I)Ljava/lang/AbstractStringBuilder;" = some ⟨[.int], some (.object "java/lang/AbstractStringBuilder")⟩ := by decide +kernel
theorem pd_8 : parseMethodDescriptor "()B" = some ⟨[], some .byte⟩ := by decide +kernel
theorem pd_9 : parseMethodDescriptor "(Ljava/lang/String;)V" = some ⟨[(.object "java/lang/String")], none⟩ := by decide +kernel
theorem pd_10 : parseMethodDescriptor "([BIB)V" = some ⟨[(.array .byte), .int, .byte], none⟩ := by decide +kernel
theorem pd_11 : parseMethodDescriptor "()I" = some ⟨[], some .int⟩ := by decide +kernel
theorem pd_12 : parseMethodDescriptor "(ILjava/lang/String;)V" = some ⟨[.int, (.object "java/lang/String")], none⟩ := by decide +kernel
theorem pd_13 : parseMethodDescriptor "(Ljava/lang/String;)Ljava/lang/AbstractStringBuilder;" = some ⟨[(.object "java/lang/String")], some (.object "java/lang/AbstractStringBuilder")⟩ := by decide +kernel
theorem pd_14 : parseMethodDescriptor "(II)V" = some ⟨[.int, .int], none⟩ := by decide +kernel
theorem pd_15 : parseMethodDescriptor "([BII)[B" = some ⟨[(.array .byte), .int, .int], some (.array .byte)⟩ := by decide +kernel
theorem pd_16 : parseMethodDescriptor "()[B" = some ⟨[], some (.array .byte)⟩ := by decide +kernel
theorem pd_17 : parseMethodDescriptor "(Ljava/lang/AbstractStringBuilder;Ljava/lang/Void;)V" = some ⟨[(.object "java/lang/AbstractStringBuilder"), (.object "java/lang/Void")], none⟩ := by decide +kernel
theorem pd_18 : parseMethodDescriptor "(Ljava/lang/StringBuilder;)V" = some ⟨[(.object "java/lang/StringBuilder")], none⟩ := by decide +kernel
theorem pd_19 : parseMethodDescriptor "(J)J" = some ⟨[.long], some .long⟩ := by decide +kernel
theorem pd_20 : parseMethodDescriptor "(J)I" = some ⟨[.long], some .int⟩ := by decide +kernel
theorem pd_21 : parseMethodDescriptor "(I)J" = some ⟨[.int], some .long⟩ := by decide +kernel
theorem pd_22 : parseMethodDescriptor "(IILjava/util/function/BiFunction;)I" = some ⟨[.int, .int, (.object "java/util/function/BiFunction")], some .int⟩ := by decide +kernel
theorem pd_23 : parseMethodDescriptor "([BI)C" = some ⟨[(.array .byte), .int], some .char⟩ := by decide +kernel
theorem pd_24 : parseMethodDescriptor "()V" = some ⟨[], none⟩ := by decide +kernel
theorem pd_25 : parseMethodDescriptor "(I)Ljava/lang/StringBuilder;" = some ⟨[.int], some (.object "java/lang/StringBuilder")⟩ := by decide +kernel
theorem pd_26 : parseMethodDescriptor "(Ljava/lang/String;)Ljava/lang/StringBuilder;" = some ⟨[(.object "java/lang/String")], some (.object "java/lang/StringBuilder")⟩ := by decide +kernel
theorem pd_27 : parseMethodDescriptor "()Ljava/lang/String;" = some ⟨[], some (.object "java/lang/String")⟩ := by decide +kernel
theorem pd_28 : parseMethodDescriptor "(III)C" = some ⟨[.int, .int, .int], some .char⟩ := by decide +kernel
theorem pd_29 : parseMethodDescriptor "(I)C" = some ⟨[.int], some .char⟩ := by decide +kernel
theorem pd_30 : parseMethodDescriptor "(IIIII)C" = some ⟨[.int, .int, .int, .int, .int], some .char⟩ := by decide +kernel
theorem wd_0 {a0 : Array Value} {Z : State} (hw : ∀ d ∈ tables_1, d.before a0 Z = true) : (Jvm.Cond.classLink "com/example/winnower/winnower/narrowing/PairToStringPinLaw" (7 : Nat) "com/example/winnower/winnower/narrowing/Pair").before a0 Z = true := hw _ (List.mem_of_getElem? (i := 0) rfl)
theorem wd_1 {a0 : Array Value} {Z : State} (hw : ∀ d ∈ tables_1, d.before a0 Z = true) : (Jvm.Cond.instantiable "com/example/winnower/winnower/narrowing/Pair" (2 : Nat)).before a0 Z = true := hw _ (List.mem_of_getElem? (i := 1) rfl)
theorem wd_2 {a0 : Array Value} {Z : State} (hw : ∀ d ∈ tables_1, d.before a0 Z = true) : (Jvm.Cond.initialized "com/example/winnower/winnower/narrowing/Pair").before a0 Z = true := hw _ (List.mem_of_getElem? (i := 2) rfl)
theorem wd_3 {a0 : Array Value} {Z : State} (hw : ∀ d ∈ tables_1, d.before a0 Z = true) : (Jvm.Cond.methodLink "com/example/winnower/winnower/narrowing/PairToStringPinLaw" (9 : Nat) ({ cls := "com/example/winnower/winnower/narrowing/Pair", name := "<init>", desc := "(II)V" } : Jvm.MethodName)).before a0 Z = true := hw _ (List.mem_of_getElem? (i := 3) rfl)
theorem wd_4 {a0 : Array Value} {Z : State} (hw : ∀ d ∈ tables_1, d.before a0 Z = true) : (Jvm.Cond.instanceMethod ({ cls := "com/example/winnower/winnower/narrowing/Pair", name := "<init>", desc := "(II)V" } : Jvm.MethodName)).before a0 Z = true := hw _ (List.mem_of_getElem? (i := 4) rfl)
theorem wd_5 {a0 : Array Value} {Z : State} (hw : ∀ d ∈ tables_1, d.before a0 Z = true) : (Jvm.Cond.code ({ cls := "com/example/winnower/winnower/narrowing/Pair", name := "<init>", desc := "(II)V" } : Jvm.MethodName) prog_12_method_1_code (3 : Nat) (Option.none : Option Jvm.ClassFile.FieldType)).before a0 Z = true := hw _ (List.mem_of_getElem? (i := 5) rfl)
theorem wd_6 {a0 : Array Value} {Z : State} (hw : ∀ d ∈ tables_1, d.before a0 Z = true) : (Jvm.Cond.methodLink "com/example/winnower/winnower/narrowing/Pair" (1 : Nat) ({ cls := "java/lang/Object", name := "<init>", desc := "()V" } : Jvm.MethodName)).before a0 Z = true := hw _ (List.mem_of_getElem? (i := 6) rfl)
theorem wd_7 {a0 : Array Value} {Z : State} (hw : ∀ d ∈ tables_1, d.before a0 Z = true) : (Jvm.Cond.instanceMethod ({ cls := "java/lang/Object", name := "<init>", desc := "()V" } : Jvm.MethodName)).before a0 Z = true := hw _ (List.mem_of_getElem? (i := 7) rfl)
theorem wd_8 {a0 : Array Value} {Z : State} (hw : ∀ d ∈ tables_1, d.before a0 Z = true) : (Jvm.Cond.code ({ cls := "java/lang/Object", name := "<init>", desc := "()V" } : Jvm.MethodName) object_method_1_code (1 : Nat) (Option.none : Option Jvm.ClassFile.FieldType)).before a0 Z = true := hw _ (List.mem_of_getElem? (i := 8) rfl)
theorem wd_9 {a0 : Array Value} {Z : State} (hw : ∀ d ∈ tables_1, d.before a0 Z = true) : (Jvm.Cond.fieldLink "com/example/winnower/winnower/narrowing/Pair" (7 : Nat) "com/example/winnower/winnower/narrowing/Pair" "first" "I").before a0 Z = true := hw _ (List.mem_of_getElem? (i := 9) rfl)
theorem wd_10 {a0 : Array Value} {Z : State} (hw : ∀ d ∈ tables_1, d.before a0 Z = true) : (Jvm.Cond.laysFinal "com/example/winnower/winnower/narrowing/Pair" "com/example/winnower/winnower/narrowing/Pair" "first" "I").before a0 Z = true := hw _ (List.mem_of_getElem? (i := 10) rfl)
theorem wd_11 {a0 : Array Value} {Z : State} (hw : ∀ d ∈ tables_1, d.before a0 Z = true) : (Jvm.Cond.fieldLink "com/example/winnower/winnower/narrowing/Pair" (13 : Nat) "com/example/winnower/winnower/narrowing/Pair" "second" "I").before a0 Z = true := hw _ (List.mem_of_getElem? (i := 11) rfl)
theorem wd_12 {a0 : Array Value} {Z : State} (hw : ∀ d ∈ tables_1, d.before a0 Z = true) : (Jvm.Cond.laysFinal "com/example/winnower/winnower/narrowing/Pair" "com/example/winnower/winnower/narrowing/Pair" "second" "I").before a0 Z = true := hw _ (List.mem_of_getElem? (i := 12) rfl)
theorem wd_13 {a0 : Array Value} {Z : State} (hw : ∀ d ∈ tables_1, d.before a0 Z = true) : (Jvm.Cond.methodLink "com/example/winnower/winnower/narrowing/PairToStringPinLaw" (12 : Nat) ({ cls := "com/example/winnower/winnower/narrowing/Pair", name := "toString", desc := "()Ljava/lang/String;" } : Jvm.MethodName)).before a0 Z = true := hw _ (List.mem_of_getElem? (i := 13) rfl)
theorem wd_14 {a0 : Array Value} {Z : State} (hw : ∀ d ∈ tables_1, d.before a0 Z = true) : (Jvm.Cond.declares ({ cls := "com/example/winnower/winnower/narrowing/Pair", name := "toString", desc := "()Ljava/lang/String;" } : Jvm.MethodName)).before a0 Z = true := hw _ (List.mem_of_getElem? (i := 14) rfl)
theorem wd_15 {a0 : Array Value} {Z : State} (hw : ∀ d ∈ tables_1, d.before a0 Z = true) : (Jvm.Cond.instanceMethod ({ cls := "com/example/winnower/winnower/narrowing/Pair", name := "toString", desc := "()Ljava/lang/String;" } : Jvm.MethodName)).before a0 Z = true := hw _ (List.mem_of_getElem? (i := 15) rfl)
theorem wd_16 {a0 : Array Value} {Z : State} (hw : ∀ d ∈ tables_1, d.before a0 Z = true) : (Jvm.Cond.selects "com/example/winnower/winnower/narrowing/Pair" ({ cls := "com/example/winnower/winnower/narrowing/Pair", name := "toString", desc := "()Ljava/lang/String;" } : Jvm.MethodName) ({ cls := "com/example/winnower/winnower/narrowing/Pair", name := "toString", desc := "()Ljava/lang/String;" } : Jvm.MethodName)).before a0 Z = true := hw _ (List.mem_of_getElem? (i := 16) rfl)
theorem wd_17 {a0 : Array Value} {Z : State} (hw : ∀ d ∈ tables_1, d.before a0 Z = true) : (Jvm.Cond.code ({ cls := "com/example/winnower/winnower/narrowing/Pair", name := "toString", desc := "()Ljava/lang/String;" } : Jvm.MethodName) prog_12_method_4_code (1 : Nat) (Option.some (Jvm.ClassFile.FieldType.object "java/lang/String"))).before a0 Z = true := hw _ (List.mem_of_getElem? (i := 17) rfl)
theorem wd_18 {a0 : Array Value} {Z : State} (hw : ∀ d ∈ tables_1, d.before a0 Z = true) : (Jvm.Cond.classLink "com/example/winnower/winnower/narrowing/Pair" (16 : Nat) "java/lang/StringBuilder").before a0 Z = true := hw _ (List.mem_of_getElem? (i := 18) rfl)
theorem wd_19 {a0 : Array Value} {Z : State} (hw : ∀ d ∈ tables_1, d.before a0 Z = true) : (Jvm.Cond.instantiable "java/lang/StringBuilder" (4 : Nat)).before a0 Z = true := hw _ (List.mem_of_getElem? (i := 19) rfl)
theorem wd_20 {a0 : Array Value} {Z : State} (hw : ∀ d ∈ tables_1, d.before a0 Z = true) : (Jvm.Cond.initialized "java/lang/StringBuilder").before a0 Z = true := hw _ (List.mem_of_getElem? (i := 20) rfl)
theorem wd_21 {a0 : Array Value} {Z : State} (hw : ∀ d ∈ tables_1, d.before a0 Z = true) : (Jvm.Cond.methodLink "com/example/winnower/winnower/narrowing/Pair" (18 : Nat) ({ cls := "java/lang/StringBuilder", name := "<init>", desc := "()V" } : Jvm.MethodName)).before a0 Z = true := hw _ (List.mem_of_getElem? (i := 21) rfl)
theorem wd_22 {a0 : Array Value} {Z : State} (hw : ∀ d ∈ tables_1, d.before a0 Z = true) : (Jvm.Cond.instanceMethod ({ cls := "java/lang/StringBuilder", name := "<init>", desc := "()V" } : Jvm.MethodName)).before a0 Z = true := hw _ (List.mem_of_getElem? (i := 22) rfl)
theorem wd_23 {a0 : Array Value} {Z : State} (hw : ∀ d ∈ tables_1, d.before a0 Z = true) : (Jvm.Cond.code ({ cls := "java/lang/StringBuilder", name := "<init>", desc := "()V" } : Jvm.MethodName) jdk_67_method_1_code (1 : Nat) (Option.none : Option Jvm.ClassFile.FieldType)).before a0 Z = true := hw _ (List.mem_of_getElem? (i := 23) rfl)
theorem wd_24 {a0 : Array Value} {Z : State} (hw : ∀ d ∈ tables_1, d.before a0 Z = true) : (Jvm.Cond.methodLink "java/lang/StringBuilder" (1 : Nat) ({ cls := "java/lang/AbstractStringBuilder", name := "<init>", desc := "(I)V" } : Jvm.MethodName)).before a0 Z = true := hw _ (List.mem_of_getElem? (i := 24) rfl)
theorem wd_25 {a0 : Array Value} {Z : State} (hw : ∀ d ∈ tables_1, d.before a0 Z = true) : (Jvm.Cond.instanceMethod ({ cls := "java/lang/AbstractStringBuilder", name := "<init>", desc := "(I)V" } : Jvm.MethodName)).before a0 Z = true := hw _ (List.mem_of_getElem? (i := 25) rfl)
theorem wd_28 {a0 : Array Value} {Z : State} (hw : ∀ d ∈ tables_1, d.before a0 Z = true) : (Jvm.Cond.initialized "java/lang/AbstractStringBuilder").before a0 Z = true := hw _ (List.mem_of_getElem? (i := 28) rfl)
theorem wd_29 {a0 : Array Value} {Z : State} (hw : ∀ d ∈ tables_1, d.before a0 Z = true) : (Jvm.Cond.code ({ cls := "java/lang/AbstractStringBuilder", name := "<init>", desc := "(I)V" } : Jvm.MethodName) jdk_68_method_2_code (2 : Nat) (Option.none : Option Jvm.ClassFile.FieldType)).before a0 Z = true := hw _ (List.mem_of_getElem? (i := 29) rfl)
theorem wd_30 {a0 : Array Value} {Z : State} (hw : ∀ d ∈ tables_1, d.before a0 Z = true) : (Jvm.Cond.methodLink "java/lang/AbstractStringBuilder" (3 : Nat) ({ cls := "java/lang/Object", name := "<init>", desc := "()V" } : Jvm.MethodName)).before a0 Z = true := hw _ (List.mem_of_getElem? (i := 30) rfl)
theorem wd_31 {a0 : Array Value} {Z : State} (hw : ∀ d ∈ tables_1, d.before a0 Z = true) : (Jvm.Cond.fieldLink "java/lang/AbstractStringBuilder" (18 : Nat) "java/lang/String" "COMPACT_STRINGS" "Z").before a0 Z = true := hw _ (List.mem_of_getElem? (i := 31) rfl)
theorem wd_32 {a0 : Array Value} {Z : State} (hw : ∀ d ∈ tables_1, d.before a0 Z = true) : (Jvm.Cond.initialized "java/lang/String").before a0 Z = true := hw _ (List.mem_of_getElem? (i := 32) rfl)
theorem wd_33 {a0 : Array Value} {Z : State} (hw : ∀ d ∈ tables_1, d.before a0 Z = true) : (Jvm.Cond.arrayClass Jvm.ClassFile.FieldType.byte).before a0 Z = true := hw _ (List.mem_of_getElem? (i := 33) rfl)
theorem wd_34 {a0 : Array Value} {Z : State} (hw : ∀ d ∈ tables_1, d.before a0 Z = true) : (Jvm.Cond.fieldLink "java/lang/AbstractStringBuilder" (15 : Nat) "java/lang/AbstractStringBuilder" "value" "[B").before a0 Z = true := hw _ (List.mem_of_getElem? (i := 34) rfl)
theorem wd_35 {a0 : Array Value} {Z : State} (hw : ∀ d ∈ tables_1, d.before a0 Z = true) : (Jvm.Cond.lays "java/lang/StringBuilder" "java/lang/AbstractStringBuilder" "value" "[B").before a0 Z = true := hw _ (List.mem_of_getElem? (i := 35) rfl)
theorem wd_36 {a0 : Array Value} {Z : State} (hw : ∀ d ∈ tables_1, d.before a0 Z = true) : (Jvm.Cond.fieldLink "java/lang/AbstractStringBuilder" (22 : Nat) "java/lang/AbstractStringBuilder" "coder" "B").before a0 Z = true := hw _ (List.mem_of_getElem? (i := 36) rfl)
theorem wd_37 {a0 : Array Value} {Z : State} (hw : ∀ d ∈ tables_1, d.before a0 Z = true) : (Jvm.Cond.lays "java/lang/StringBuilder" "java/lang/AbstractStringBuilder" "coder" "B").before a0 Z = true := hw _ (List.mem_of_getElem? (i := 37) rfl)
theorem wd_38 {a0 : Array Value} {Z : State} (hw : ∀ d ∈ tables_1, d.before a0 Z = true) : (Jvm.Cond.methodLink "com/example/winnower/winnower/narrowing/Pair" (19 : Nat) ({ cls := "java/lang/StringBuilder", name := "append", desc := "(I)Ljava/lang/StringBuilder;" } : Jvm.MethodName)).before a0 Z = true := hw _ (List.mem_of_getElem? (i := 38) rfl)
theorem wd_39 {a0 : Array Value} {Z : State} (hw : ∀ d ∈ tables_1, d.before a0 Z = true) : (Jvm.Cond.declares ({ cls := "java/lang/StringBuilder", name := "append", desc := "(I)Ljava/lang/StringBuilder;" } : Jvm.MethodName)).before a0 Z = true := hw _ (List.mem_of_getElem? (i := 39) rfl)
theorem wd_40 {a0 : Array Value} {Z : State} (hw : ∀ d ∈ tables_1, d.before a0 Z = true) : (Jvm.Cond.instanceMethod ({ cls := "java/lang/StringBuilder", name := "append", desc := "(I)Ljava/lang/StringBuilder;" } : Jvm.MethodName)).before a0 Z = true := hw _ (List.mem_of_getElem? (i := 40) rfl)
theorem wd_41 {a0 : Array Value} {Z : State} (hw : ∀ d ∈ tables_1, d.before a0 Z = true) : (Jvm.Cond.selects "java/lang/StringBuilder" ({ cls := "java/lang/StringBuilder", name := "append", desc := "(I)Ljava/lang/StringBuilder;" } : Jvm.MethodName) ({ cls := "java/lang/StringBuilder", name := "append", desc := "(I)Ljava/lang/StringBuilder;" } : Jvm.MethodName)).before a0 Z = true := hw _ (List.mem_of_getElem? (i := 41) rfl)
theorem wd_42 {a0 : Array Value} {Z : State} (hw : ∀ d ∈ tables_1, d.before a0 Z = true) : (Jvm.Cond.code ({ cls := "java/lang/StringBuilder", name := "append", desc := "(I)Ljava/lang/StringBuilder;" } : Jvm.MethodName) jdk_67_method_15_code (2 : Nat) (Option.some (Jvm.ClassFile.FieldType.object "java/lang/StringBuilder"))).before a0 Z = true := hw _ (List.mem_of_getElem? (i := 42) rfl)
theorem wd_43 {a0 : Array Value} {Z : State} (hw : ∀ d ∈ tables_1, d.before a0 Z = true) : (Jvm.Cond.methodLink "java/lang/StringBuilder" (53 : Nat) ({ cls := "java/lang/AbstractStringBuilder", name := "append", desc := "(I)Ljava/lang/AbstractStringBuilder;" } : Jvm.MethodName)).before a0 Z = true := hw _ (List.mem_of_getElem? (i := 43) rfl)
theorem wd_44 {a0 : Array Value} {Z : State} (hw : ∀ d ∈ tables_1, d.before a0 Z = true) : (Jvm.Cond.instanceMethod ({ cls := "java/lang/AbstractStringBuilder", name := "append", desc := "(I)Ljava/lang/AbstractStringBuilder;" } : Jvm.MethodName)).before a0 Z = true := hw _ (List.mem_of_getElem? (i := 44) rfl)
theorem wd_45 {a0 : Array Value} {Z : State} (hw : ∀ d ∈ tables_1, d.before a0 Z = true) : (Jvm.Cond.superclass "java/lang/StringBuilder" "java/lang/AbstractStringBuilder").before a0 Z = true := hw _ (List.mem_of_getElem? (i := 45) rfl)
theorem wd_47 {a0 : Array Value} {Z : State} (hw : ∀ d ∈ tables_1, d.before a0 Z = true) : (Jvm.Cond.code ({ cls := "java/lang/AbstractStringBuilder", name := "append", desc := "(I)Ljava/lang/AbstractStringBuilder;" } : Jvm.MethodName) jdk_68_method_32_code (4 : Nat) (Option.some (Jvm.ClassFile.FieldType.object "java/lang/AbstractStringBuilder"))).before a0 Z = true := hw _ (List.mem_of_getElem? (i := 47) rfl)
theorem wd_48 {a0 : Array Value} {Z : State} (hw : ∀ d ∈ tables_1, d.before a0 Z = true) : (Jvm.Cond.fieldLink "java/lang/AbstractStringBuilder" (79 : Nat) "java/lang/AbstractStringBuilder" "count" "I").before a0 Z = true := hw _ (List.mem_of_getElem? (i := 48) rfl)
theorem wd_49 {a0 : Array Value} {Z : State} (hw : ∀ d ∈ tables_1, d.before a0 Z = true) : (Jvm.Cond.lays "java/lang/StringBuilder" "java/lang/AbstractStringBuilder" "count" "I").before a0 Z = true := hw _ (List.mem_of_getElem? (i := 49) rfl)
theorem wd_50 {a0 : Array Value} {Z : State} (hw : ∀ d ∈ tables_1, d.before a0 Z = true) : (Jvm.Cond.methodLink "java/lang/AbstractStringBuilder" (245 : Nat) ({ cls := "java/lang/Integer", name := "stringSize", desc := "(I)I" } : Jvm.MethodName)).before a0 Z = true := hw _ (List.mem_of_getElem? (i := 50) rfl)
theorem wd_51 {a0 : Array Value} {Z : State} (hw : ∀ d ∈ tables_1, d.before a0 Z = true) : (Jvm.Cond.static ({ cls := "java/lang/Integer", name := "stringSize", desc := "(I)I" } : Jvm.MethodName)).before a0 Z = true := hw _ (List.mem_of_getElem? (i := 51) rfl)
theorem wd_52 {a0 : Array Value} {Z : State} (hw : ∀ d ∈ tables_1, d.before a0 Z = true) : (Jvm.Cond.initialized "java/lang/Integer").before a0 Z = true := hw _ (List.mem_of_getElem? (i := 52) rfl)
theorem wd_53 {a0 : Array Value} {Z : State} (hw : ∀ d ∈ tables_1, d.before a0 Z = true) : (Jvm.Cond.code ({ cls := "java/lang/Integer", name := "stringSize", desc := "(I)I" } : Jvm.MethodName) jdk_33_method_13_code (4 : Nat) (Option.some Jvm.ClassFile.FieldType.int)).before a0 Z = true := hw _ (List.mem_of_getElem? (i := 53) rfl)
theorem wd_54 {a0 : Array Value} {Z : State} (hw : ∀ d ∈ tables_1, d.before a0 Z = true) : (Jvm.Cond.methodLink "java/lang/AbstractStringBuilder" (100 : Nat) ({ cls := "java/lang/AbstractStringBuilder", name := "ensureCapacityInternal", desc := "(I)V" } : Jvm.MethodName)).before a0 Z = true := hw _ (List.mem_of_getElem? (i := 54) rfl)
theorem wd_55 {a0 : Array Value} {Z : State} (hw : ∀ d ∈ tables_1, d.before a0 Z = true) : (Jvm.Cond.instanceMethod ({ cls := "java/lang/AbstractStringBuilder", name := "ensureCapacityInternal", desc := "(I)V" } : Jvm.MethodName)).before a0 Z = true := hw _ (List.mem_of_getElem? (i := 55) rfl)
theorem wd_57 {a0 : Array Value} {Z : State} (hw : ∀ d ∈ tables_1, d.before a0 Z = true) : (Jvm.Cond.selects "java/lang/StringBuilder" ({ cls := "java/lang/AbstractStringBuilder", name := "ensureCapacityInternal", desc := "(I)V" } : Jvm.MethodName) ({ cls := "java/lang/AbstractStringBuilder", name := "ensureCapacityInternal", desc := "(I)V" } : Jvm.MethodName)).before a0 Z = true := hw _ (List.mem_of_getElem? (i := 57) rfl)
theorem wd_58 {a0 : Array Value} {Z : State} (hw : ∀ d ∈ tables_1, d.before a0 Z = true) : (Jvm.Cond.code ({ cls := "java/lang/AbstractStringBuilder", name := "ensureCapacityInternal", desc := "(I)V" } : Jvm.MethodName) jdk_68_method_9_code (3 : Nat) (Option.none : Option Jvm.ClassFile.FieldType)).before a0 Z = true := hw _ (List.mem_of_getElem? (i := 58) rfl)
theorem wd_59 {a0 : Array Value} {Z : State} (hw : ∀ d ∈ tables_1, d.before a0 Z = true) : (Jvm.Cond.methodLink "java/lang/AbstractStringBuilder" (83 : Nat) ({ cls := "java/lang/AbstractStringBuilder", name := "isLatin1", desc := "()Z" } : Jvm.MethodName)).before a0 Z = true := hw _ (List.mem_of_getElem? (i := 59) rfl)
theorem wd_60 {a0 : Array Value} {Z : State} (hw : ∀ d ∈ tables_1, d.before a0 Z = true) : (Jvm.Cond.declares ({ cls := "java/lang/AbstractStringBuilder", name := "isLatin1", desc := "()Z" } : Jvm.MethodName)).before a0 Z = true := hw _ (List.mem_of_getElem? (i := 60) rfl)
theorem wd_61 {a0 : Array Value} {Z : State} (hw : ∀ d ∈ tables_1, d.before a0 Z = true) : (Jvm.Cond.instanceMethod ({ cls := "java/lang/AbstractStringBuilder", name := "isLatin1", desc := "()Z" } : Jvm.MethodName)).before a0 Z = true := hw _ (List.mem_of_getElem? (i := 61) rfl)
theorem wd_62 {a0 : Array Value} {Z : State} (hw : ∀ d ∈ tables_1, d.before a0 Z = true) : (Jvm.Cond.selects "java/lang/StringBuilder" ({ cls := "java/lang/AbstractStringBuilder", name := "isLatin1", desc := "()Z" } : Jvm.MethodName) ({ cls := "java/lang/AbstractStringBuilder", name := "isLatin1", desc := "()Z" } : Jvm.MethodName)).before a0 Z = true := hw _ (List.mem_of_getElem? (i := 62) rfl)
theorem wd_63 {a0 : Array Value} {Z : State} (hw : ∀ d ∈ tables_1, d.before a0 Z = true) : (Jvm.Cond.code ({ cls := "java/lang/AbstractStringBuilder", name := "isLatin1", desc := "()Z" } : Jvm.MethodName) jdk_68_method_68_code (1 : Nat) (Option.some Jvm.ClassFile.FieldType.boolean)).before a0 Z = true := hw _ (List.mem_of_getElem? (i := 63) rfl)
theorem wd_64 {a0 : Array Value} {Z : State} (hw : ∀ d ∈ tables_1, d.before a0 Z = true) : (Jvm.Cond.methodLink "java/lang/AbstractStringBuilder" (248 : Nat) ({ cls := "java/lang/Integer", name := "getChars", desc := "(II[B)I" } : Jvm.MethodName)).before a0 Z = true := hw _ (List.mem_of_getElem? (i := 64) rfl)
theorem wd_65 {a0 : Array Value} {Z : State} (hw : ∀ d ∈ tables_1, d.before a0 Z = true) : (Jvm.Cond.static ({ cls := "java/lang/Integer", name := "getChars", desc := "(II[B)I" } : Jvm.MethodName)).before a0 Z = true := hw _ (List.mem_of_getElem? (i := 65) rfl)
theorem wd_66 {a0 : Array Value} {Z : State} (hw : ∀ d ∈ tables_1, d.before a0 Z = true) : (Jvm.Cond.code ({ cls := "java/lang/Integer", name := "getChars", desc := "(II[B)I" } : Jvm.MethodName) jdk_33_method_12_code (7 : Nat) (Option.some Jvm.ClassFile.FieldType.int)).before a0 Z = true := hw _ (List.mem_of_getElem? (i := 66) rfl)
theorem wd_67 {a0 : Array Value} {Z : State} (hw : ∀ d ∈ tables_1, d.before a0 Z = true) : (Jvm.Cond.fieldLink "java/lang/Integer" (83 : Nat) "java/lang/Integer" "DigitOnes" "[B").before a0 Z = true := hw _ (List.mem_of_getElem? (i := 67) rfl)
theorem wd_68 {a0 : Array Value} {Z : State} (hw : ∀ d ∈ tables_1, d.before a0 Z = true) : (Jvm.Cond.stringLink "com/example/winnower/winnower/narrowing/Pair" (23 : Nat) " and ").before a0 Z = true := hw _ (List.mem_of_getElem? (i := 68) rfl)
theorem wd_69 {a0 : Array Value} {Z : State} (hw : ∀ d ∈ tables_1, d.before a0 Z = true) : (Jvm.Cond.instantiable "java/lang/String" (4 : Nat)).before a0 Z = true := hw _ (List.mem_of_getElem? (i := 69) rfl)
theorem wd_70 {a0 : Array Value} {Z : State} (hw : ∀ d ∈ tables_1, d.before a0 Z = true) : (Jvm.Cond.laysFinal "java/lang/String" "java/lang/String" "value" "[B").before a0 Z = true := hw _ (List.mem_of_getElem? (i := 70) rfl)
theorem wd_71 {a0 : Array Value} {Z : State} (hw : ∀ d ∈ tables_1, d.before a0 Z = true) : (Jvm.Cond.laysFinal "java/lang/String" "java/lang/String" "coder" "B").before a0 Z = true := hw _ (List.mem_of_getElem? (i := 71) rfl)
theorem wd_72 {a0 : Array Value} {Z : State} (hw : ∀ d ∈ tables_1, d.before a0 Z = true) : (Jvm.Cond.soleField "java/lang/String" "value").before a0 Z = true := hw _ (List.mem_of_getElem? (i := 72) rfl)
theorem wd_73 {a0 : Array Value} {Z : State} (hw : ∀ d ∈ tables_1, d.before a0 Z = true) : (Jvm.Cond.soleField "java/lang/String" "coder").before a0 Z = true := hw _ (List.mem_of_getElem? (i := 73) rfl)
theorem wd_74 {a0 : Array Value} {Z : State} (hw : ∀ d ∈ tables_1, d.before a0 Z = true) : (Jvm.Cond.methodLink "com/example/winnower/winnower/narrowing/Pair" (25 : Nat) ({ cls := "java/lang/StringBuilder", name := "append", desc := "(Ljava/lang/String;)Ljava/lang/StringBuilder;" } : Jvm.MethodName)).before a0 Z = true := hw _ (List.mem_of_getElem? (i := 74) rfl)
theorem wd_75 {a0 : Array Value} {Z : State} (hw : ∀ d ∈ tables_1, d.before a0 Z = true) : (Jvm.Cond.declares ({ cls := "java/lang/StringBuilder", name := "append", desc := "(Ljava/lang/String;)Ljava/lang/StringBuilder;" } : Jvm.MethodName)).before a0 Z = true := hw _ (List.mem_of_getElem? (i := 75) rfl)
theorem wd_76 {a0 : Array Value} {Z : State} (hw : ∀ d ∈ tables_1, d.before a0 Z = true) : (Jvm.Cond.instanceMethod ({ cls := "java/lang/StringBuilder", name := "append", desc := "(Ljava/lang/String;)Ljava/lang/StringBuilder;" } : Jvm.MethodName)).before a0 Z = true := hw _ (List.mem_of_getElem? (i := 76) rfl)
theorem wd_77 {a0 : Array Value} {Z : State} (hw : ∀ d ∈ tables_1, d.before a0 Z = true) : (Jvm.Cond.selects "java/lang/StringBuilder" ({ cls := "java/lang/StringBuilder", name := "append", desc := "(Ljava/lang/String;)Ljava/lang/StringBuilder;" } : Jvm.MethodName) ({ cls := "java/lang/StringBuilder", name := "append", desc := "(Ljava/lang/String;)Ljava/lang/StringBuilder;" } : Jvm.MethodName)).before a0 Z = true := hw _ (List.mem_of_getElem? (i := 77) rfl)
theorem wd_78 {a0 : Array Value} {Z : State} (hw : ∀ d ∈ tables_1, d.before a0 Z = true) : (Jvm.Cond.code ({ cls := "java/lang/StringBuilder", name := "append", desc := "(Ljava/lang/String;)Ljava/lang/StringBuilder;" } : Jvm.MethodName) jdk_67_method_7_code (2 : Nat) (Option.some (Jvm.ClassFile.FieldType.object "java/lang/StringBuilder"))).before a0 Z = true := hw _ (List.mem_of_getElem? (i := 78) rfl)
theorem wd_79 {a0 : Array Value} {Z : State} (hw : ∀ d ∈ tables_1, d.before a0 Z = true) : (Jvm.Cond.methodLink "java/lang/StringBuilder" (29 : Nat) ({ cls := "java/lang/AbstractStringBuilder", name := "append", desc := "(Ljava/lang/String;)Ljava/lang/AbstractStringBuilder;" } : Jvm.MethodName)).before a0 Z = true := hw _ (List.mem_of_getElem? (i := 79) rfl)
theorem wd_80 {a0 : Array Value} {Z : State} (hw : ∀ d ∈ tables_1, d.before a0 Z = true) : (Jvm.Cond.instanceMethod ({ cls := "java/lang/AbstractStringBuilder", name := "append", desc := "(Ljava/lang/String;)Ljava/lang/AbstractStringBuilder;" } : Jvm.MethodName)).before a0 Z = true := hw _ (List.mem_of_getElem? (i := 80) rfl)
theorem wd_82 {a0 : Array Value} {Z : State} (hw : ∀ d ∈ tables_1, d.before a0 Z = true) : (Jvm.Cond.code ({ cls := "java/lang/AbstractStringBuilder", name := "append", desc := "(Ljava/lang/String;)Ljava/lang/AbstractStringBuilder;" } : Jvm.MethodName) jdk_68_method_22_code (3 : Nat) (Option.some (Jvm.ClassFile.FieldType.object "java/lang/AbstractStringBuilder"))).before a0 Z = true := hw _ (List.mem_of_getElem? (i := 82) rfl)
theorem wd_83 {a0 : Array Value} {Z : State} (hw : ∀ d ∈ tables_1, d.before a0 Z = true) : (Jvm.Cond.methodLink "java/lang/AbstractStringBuilder" (32 : Nat) ({ cls := "java/lang/String", name := "length", desc := "()I" } : Jvm.MethodName)).before a0 Z = true := hw _ (List.mem_of_getElem? (i := 83) rfl)
theorem wd_84 {a0 : Array Value} {Z : State} (hw : ∀ d ∈ tables_1, d.before a0 Z = true) : (Jvm.Cond.declares ({ cls := "java/lang/String", name := "length", desc := "()I" } : Jvm.MethodName)).before a0 Z = true := hw _ (List.mem_of_getElem? (i := 84) rfl)
theorem wd_85 {a0 : Array Value} {Z : State} (hw : ∀ d ∈ tables_1, d.before a0 Z = true) : (Jvm.Cond.instanceMethod ({ cls := "java/lang/String", name := "length", desc := "()I" } : Jvm.MethodName)).before a0 Z = true := hw _ (List.mem_of_getElem? (i := 85) rfl)
theorem wd_86 {a0 : Array Value} {Z : State} (hw : ∀ d ∈ tables_1, d.before a0 Z = true) : (Jvm.Cond.selects "java/lang/String" ({ cls := "java/lang/String", name := "length", desc := "()I" } : Jvm.MethodName) ({ cls := "java/lang/String", name := "length", desc := "()I" } : Jvm.MethodName)).before a0 Z = true := hw _ (List.mem_of_getElem? (i := 86) rfl)
theorem wd_87 {a0 : Array Value} {Z : State} (hw : ∀ d ∈ tables_1, d.before a0 Z = true) : (Jvm.Cond.code ({ cls := "java/lang/String", name := "length", desc := "()I" } : Jvm.MethodName) jdk_42_method_54_code (1 : Nat) (Option.some Jvm.ClassFile.FieldType.int)).before a0 Z = true := hw _ (List.mem_of_getElem? (i := 87) rfl)
theorem wd_88 {a0 : Array Value} {Z : State} (hw : ∀ d ∈ tables_1, d.before a0 Z = true) : (Jvm.Cond.fieldLink "java/lang/String" (9 : Nat) "java/lang/String" "value" "[B").before a0 Z = true := hw _ (List.mem_of_getElem? (i := 88) rfl)
theorem wd_89 {a0 : Array Value} {Z : State} (hw : ∀ d ∈ tables_1, d.before a0 Z = true) : (Jvm.Cond.methodLink "java/lang/String" (335 : Nat) ({ cls := "java/lang/String", name := "coder", desc := "()B" } : Jvm.MethodName)).before a0 Z = true := hw _ (List.mem_of_getElem? (i := 89) rfl)
theorem wd_90 {a0 : Array Value} {Z : State} (hw : ∀ d ∈ tables_1, d.before a0 Z = true) : (Jvm.Cond.declares ({ cls := "java/lang/String", name := "coder", desc := "()B" } : Jvm.MethodName)).before a0 Z = true := hw _ (List.mem_of_getElem? (i := 90) rfl)
theorem wd_91 {a0 : Array Value} {Z : State} (hw : ∀ d ∈ tables_1, d.before a0 Z = true) : (Jvm.Cond.instanceMethod ({ cls := "java/lang/String", name := "coder", desc := "()B" } : Jvm.MethodName)).before a0 Z = true := hw _ (List.mem_of_getElem? (i := 91) rfl)
theorem wd_92 {a0 : Array Value} {Z : State} (hw : ∀ d ∈ tables_1, d.before a0 Z = true) : (Jvm.Cond.selects "java/lang/String" ({ cls := "java/lang/String", name := "coder", desc := "()B" } : Jvm.MethodName) ({ cls := "java/lang/String", name := "coder", desc := "()B" } : Jvm.MethodName)).before a0 Z = true := hw _ (List.mem_of_getElem? (i := 92) rfl)
theorem wd_93 {a0 : Array Value} {Z : State} (hw : ∀ d ∈ tables_1, d.before a0 Z = true) : (Jvm.Cond.code ({ cls := "java/lang/String", name := "coder", desc := "()B" } : Jvm.MethodName) jdk_42_method_152_code (1 : Nat) (Option.some Jvm.ClassFile.FieldType.byte)).before a0 Z = true := hw _ (List.mem_of_getElem? (i := 93) rfl)
theorem wd_94 {a0 : Array Value} {Z : State} (hw : ∀ d ∈ tables_1, d.before a0 Z = true) : (Jvm.Cond.fieldLink "java/lang/String" (38 : Nat) "java/lang/String" "COMPACT_STRINGS" "Z").before a0 Z = true := hw _ (List.mem_of_getElem? (i := 94) rfl)
theorem wd_95 {a0 : Array Value} {Z : State} (hw : ∀ d ∈ tables_1, d.before a0 Z = true) : (Jvm.Cond.fieldLink "java/lang/String" (15 : Nat) "java/lang/String" "coder" "B").before a0 Z = true := hw _ (List.mem_of_getElem? (i := 95) rfl)
theorem wd_96 {a0 : Array Value} {Z : State} (hw : ∀ d ∈ tables_1, d.before a0 Z = true) : (Jvm.Cond.methodLink "java/lang/AbstractStringBuilder" (208 : Nat) ({ cls := "java/lang/AbstractStringBuilder", name := "putStringAt", desc := "(ILjava/lang/String;)V" } : Jvm.MethodName)).before a0 Z = true := hw _ (List.mem_of_getElem? (i := 96) rfl)
theorem wd_97 {a0 : Array Value} {Z : State} (hw : ∀ d ∈ tables_1, d.before a0 Z = true) : (Jvm.Cond.instanceMethod ({ cls := "java/lang/AbstractStringBuilder", name := "putStringAt", desc := "(ILjava/lang/String;)V" } : Jvm.MethodName)).before a0 Z = true := hw _ (List.mem_of_getElem? (i := 97) rfl)
theorem wd_99 {a0 : Array Value} {Z : State} (hw : ∀ d ∈ tables_1, d.before a0 Z = true) : (Jvm.Cond.selects "java/lang/StringBuilder" ({ cls := "java/lang/AbstractStringBuilder", name := "putStringAt", desc := "(ILjava/lang/String;)V" } : Jvm.MethodName) ({ cls := "java/lang/AbstractStringBuilder", name := "putStringAt", desc := "(ILjava/lang/String;)V" } : Jvm.MethodName)).before a0 Z = true := hw _ (List.mem_of_getElem? (i := 99) rfl)
theorem wd_100 {a0 : Array Value} {Z : State} (hw : ∀ d ∈ tables_1, d.before a0 Z = true) : (Jvm.Cond.code ({ cls := "java/lang/AbstractStringBuilder", name := "putStringAt", desc := "(ILjava/lang/String;)V" } : Jvm.MethodName) jdk_68_method_73_code (3 : Nat) (Option.none : Option Jvm.ClassFile.FieldType)).before a0 Z = true := hw _ (List.mem_of_getElem? (i := 100) rfl)
theorem wd_101 {a0 : Array Value} {Z : State} (hw : ∀ d ∈ tables_1, d.before a0 Z = true) : (Jvm.Cond.methodLink "java/lang/AbstractStringBuilder" (397 : Nat) ({ cls := "java/lang/AbstractStringBuilder", name := "inflateIfNeededFor", desc := "(Ljava/lang/String;)V" } : Jvm.MethodName)).before a0 Z = true := hw _ (List.mem_of_getElem? (i := 101) rfl)
theorem wd_102 {a0 : Array Value} {Z : State} (hw : ∀ d ∈ tables_1, d.before a0 Z = true) : (Jvm.Cond.instanceMethod ({ cls := "java/lang/AbstractStringBuilder", name := "inflateIfNeededFor", desc := "(Ljava/lang/String;)V" } : Jvm.MethodName)).before a0 Z = true := hw _ (List.mem_of_getElem? (i := 102) rfl)
theorem wd_104 {a0 : Array Value} {Z : State} (hw : ∀ d ∈ tables_1, d.before a0 Z = true) : (Jvm.Cond.selects "java/lang/StringBuilder" ({ cls := "java/lang/AbstractStringBuilder", name := "inflateIfNeededFor", desc := "(Ljava/lang/String;)V" } : Jvm.MethodName) ({ cls := "java/lang/AbstractStringBuilder", name := "inflateIfNeededFor", desc := "(Ljava/lang/String;)V" } : Jvm.MethodName)).before a0 Z = true := hw _ (List.mem_of_getElem? (i := 104) rfl)
theorem wd_105 {a0 : Array Value} {Z : State} (hw : ∀ d ∈ tables_1, d.before a0 Z = true) : (Jvm.Cond.code ({ cls := "java/lang/AbstractStringBuilder", name := "inflateIfNeededFor", desc := "(Ljava/lang/String;)V" } : Jvm.MethodName) jdk_68_method_71_code (2 : Nat) (Option.none : Option Jvm.ClassFile.FieldType)).before a0 Z = true := hw _ (List.mem_of_getElem? (i := 105) rfl)
theorem wd_106 {a0 : Array Value} {Z : State} (hw : ∀ d ∈ tables_1, d.before a0 Z = true) : (Jvm.Cond.methodLink "java/lang/AbstractStringBuilder" (40 : Nat) ({ cls := "java/lang/String", name := "coder", desc := "()B" } : Jvm.MethodName)).before a0 Z = true := hw _ (List.mem_of_getElem? (i := 106) rfl)
theorem wd_107 {a0 : Array Value} {Z : State} (hw : ∀ d ∈ tables_1, d.before a0 Z = true) : (Jvm.Cond.methodLink "java/lang/AbstractStringBuilder" (399 : Nat) ({ cls := "java/lang/String", name := "getBytes", desc := "([BIB)V" } : Jvm.MethodName)).before a0 Z = true := hw _ (List.mem_of_getElem? (i := 107) rfl)
theorem wd_108 {a0 : Array Value} {Z : State} (hw : ∀ d ∈ tables_1, d.before a0 Z = true) : (Jvm.Cond.declares ({ cls := "java/lang/String", name := "getBytes", desc := "([BIB)V" } : Jvm.MethodName)).before a0 Z = true := hw _ (List.mem_of_getElem? (i := 108) rfl)
theorem wd_109 {a0 : Array Value} {Z : State} (hw : ∀ d ∈ tables_1, d.before a0 Z = true) : (Jvm.Cond.instanceMethod ({ cls := "java/lang/String", name := "getBytes", desc := "([BIB)V" } : Jvm.MethodName)).before a0 Z = true := hw _ (List.mem_of_getElem? (i := 109) rfl)
theorem wd_110 {a0 : Array Value} {Z : State} (hw : ∀ d ∈ tables_1, d.before a0 Z = true) : (Jvm.Cond.selects "java/lang/String" ({ cls := "java/lang/String", name := "getBytes", desc := "([BIB)V" } : Jvm.MethodName) ({ cls := "java/lang/String", name := "getBytes", desc := "([BIB)V" } : Jvm.MethodName)).before a0 Z = true := hw _ (List.mem_of_getElem? (i := 110) rfl)
theorem wd_111 {a0 : Array Value} {Z : State} (hw : ∀ d ∈ tables_1, d.before a0 Z = true) : (Jvm.Cond.code ({ cls := "java/lang/String", name := "getBytes", desc := "([BIB)V" } : Jvm.MethodName) jdk_42_method_147_code (4 : Nat) (Option.none : Option Jvm.ClassFile.FieldType)).before a0 Z = true := hw _ (List.mem_of_getElem? (i := 111) rfl)
theorem wd_112 {a0 : Array Value} {Z : State} (hw : ∀ d ∈ tables_1, d.before a0 Z = true) : (Jvm.Cond.methodLink "java/lang/String" (212 : Nat) ({ cls := "java/lang/System", name := "arraycopy", desc := "(Ljava/lang/Object;ILjava/lang/Object;II)V" } : Jvm.MethodName)).before a0 Z = true := hw _ (List.mem_of_getElem? (i := 112) rfl)
theorem wd_113 {a0 : Array Value} {Z : State} (hw : ∀ d ∈ tables_1, d.before a0 Z = true) : (Jvm.Cond.static ({ cls := "java/lang/System", name := "arraycopy", desc := "(Ljava/lang/Object;ILjava/lang/Object;II)V" } : Jvm.MethodName)).before a0 Z = true := hw _ (List.mem_of_getElem? (i := 113) rfl)
theorem wd_114 {a0 : Array Value} {Z : State} (hw : ∀ d ∈ tables_1, d.before a0 Z = true) : (Jvm.Cond.initialized "java/lang/System").before a0 Z = true := hw _ (List.mem_of_getElem? (i := 114) rfl)
theorem wd_115 {a0 : Array Value} {Z : State} (hw : ∀ d ∈ tables_1, d.before a0 Z = true) : (Jvm.Cond.native ({ cls := "java/lang/System", name := "arraycopy", desc := "(Ljava/lang/Object;ILjava/lang/Object;II)V" } : Jvm.MethodName)).before a0 Z = true := hw _ (List.mem_of_getElem? (i := 115) rfl)
theorem wd_116 {a0 : Array Value} {Z : State} (hw : ∀ d ∈ tables_1, d.before a0 Z = true) : (Jvm.Cond.methodLink "com/example/winnower/winnower/narrowing/Pair" (28 : Nat) ({ cls := "java/lang/StringBuilder", name := "toString", desc := "()Ljava/lang/String;" } : Jvm.MethodName)).before a0 Z = true := hw _ (List.mem_of_getElem? (i := 116) rfl)
theorem wd_117 {a0 : Array Value} {Z : State} (hw : ∀ d ∈ tables_1, d.before a0 Z = true) : (Jvm.Cond.declares ({ cls := "java/lang/StringBuilder", name := "toString", desc := "()Ljava/lang/String;" } : Jvm.MethodName)).before a0 Z = true := hw _ (List.mem_of_getElem? (i := 117) rfl)
theorem wd_118 {a0 : Array Value} {Z : State} (hw : ∀ d ∈ tables_1, d.before a0 Z = true) : (Jvm.Cond.instanceMethod ({ cls := "java/lang/StringBuilder", name := "toString", desc := "()Ljava/lang/String;" } : Jvm.MethodName)).before a0 Z = true := hw _ (List.mem_of_getElem? (i := 118) rfl)
theorem wd_119 {a0 : Array Value} {Z : State} (hw : ∀ d ∈ tables_1, d.before a0 Z = true) : (Jvm.Cond.selects "java/lang/StringBuilder" ({ cls := "java/lang/StringBuilder", name := "toString", desc := "()Ljava/lang/String;" } : Jvm.MethodName) ({ cls := "java/lang/StringBuilder", name := "toString", desc := "()Ljava/lang/String;" } : Jvm.MethodName)).before a0 Z = true := hw _ (List.mem_of_getElem? (i := 119) rfl)
theorem wd_120 {a0 : Array Value} {Z : State} (hw : ∀ d ∈ tables_1, d.before a0 Z = true) : (Jvm.Cond.code ({ cls := "java/lang/StringBuilder", name := "toString", desc := "()Ljava/lang/String;" } : Jvm.MethodName) jdk_67_method_42_code (1 : Nat) (Option.some (Jvm.ClassFile.FieldType.object "java/lang/String"))).before a0 Z = true := hw _ (List.mem_of_getElem? (i := 120) rfl)
theorem wd_121 {a0 : Array Value} {Z : State} (hw : ∀ d ∈ tables_1, d.before a0 Z = true) : (Jvm.Cond.classLink "java/lang/StringBuilder" (18 : Nat) "java/lang/String").before a0 Z = true := hw _ (List.mem_of_getElem? (i := 121) rfl)
theorem wd_122 {a0 : Array Value} {Z : State} (hw : ∀ d ∈ tables_1, d.before a0 Z = true) : (Jvm.Cond.methodLink "java/lang/StringBuilder" (137 : Nat) ({ cls := "java/lang/String", name := "<init>", desc := "(Ljava/lang/StringBuilder;)V" } : Jvm.MethodName)).before a0 Z = true := hw _ (List.mem_of_getElem? (i := 122) rfl)
theorem wd_123 {a0 : Array Value} {Z : State} (hw : ∀ d ∈ tables_1, d.before a0 Z = true) : (Jvm.Cond.instanceMethod ({ cls := "java/lang/String", name := "<init>", desc := "(Ljava/lang/StringBuilder;)V" } : Jvm.MethodName)).before a0 Z = true := hw _ (List.mem_of_getElem? (i := 123) rfl)
theorem wd_125 {a0 : Array Value} {Z : State} (hw : ∀ d ∈ tables_1, d.before a0 Z = true) : (Jvm.Cond.code ({ cls := "java/lang/String", name := "<init>", desc := "(Ljava/lang/StringBuilder;)V" } : Jvm.MethodName) jdk_42_method_53_code (2 : Nat) (Option.none : Option Jvm.ClassFile.FieldType)).before a0 Z = true := hw _ (List.mem_of_getElem? (i := 125) rfl)
theorem wd_126 {a0 : Array Value} {Z : State} (hw : ∀ d ∈ tables_1, d.before a0 Z = true) : (Jvm.Cond.methodLink "java/lang/String" (489 : Nat) ({ cls := "java/lang/String", name := "<init>", desc := "(Ljava/lang/AbstractStringBuilder;Ljava/lang/Void;)V" } : Jvm.MethodName)).before a0 Z = true := hw _ (List.mem_of_getElem? (i := 126) rfl)
theorem wd_127 {a0 : Array Value} {Z : State} (hw : ∀ d ∈ tables_1, d.before a0 Z = true) : (Jvm.Cond.instanceMethod ({ cls := "java/lang/String", name := "<init>", desc := "(Ljava/lang/AbstractStringBuilder;Ljava/lang/Void;)V" } : Jvm.MethodName)).before a0 Z = true := hw _ (List.mem_of_getElem? (i := 127) rfl)
theorem wd_128 {a0 : Array Value} {Z : State} (hw : ∀ d ∈ tables_1, d.before a0 Z = true) : (Jvm.Cond.code ({ cls := "java/lang/String", name := "<init>", desc := "(Ljava/lang/AbstractStringBuilder;Ljava/lang/Void;)V" } : Jvm.MethodName) jdk_42_method_150_code (5 : Nat) (Option.none : Option Jvm.ClassFile.FieldType)).before a0 Z = true := hw _ (List.mem_of_getElem? (i := 128) rfl)
theorem wd_129 {a0 : Array Value} {Z : State} (hw : ∀ d ∈ tables_1, d.before a0 Z = true) : (Jvm.Cond.methodLink "java/lang/String" (1 : Nat) ({ cls := "java/lang/Object", name := "<init>", desc := "()V" } : Jvm.MethodName)).before a0 Z = true := hw _ (List.mem_of_getElem? (i := 129) rfl)
theorem wd_130 {a0 : Array Value} {Z : State} (hw : ∀ d ∈ tables_1, d.before a0 Z = true) : (Jvm.Cond.methodLink "java/lang/String" (552 : Nat) ({ cls := "java/lang/AbstractStringBuilder", name := "getValue", desc := "()[B" } : Jvm.MethodName)).before a0 Z = true := hw _ (List.mem_of_getElem? (i := 130) rfl)
theorem wd_131 {a0 : Array Value} {Z : State} (hw : ∀ d ∈ tables_1, d.before a0 Z = true) : (Jvm.Cond.declares ({ cls := "java/lang/AbstractStringBuilder", name := "getValue", desc := "()[B" } : Jvm.MethodName)).before a0 Z = true := hw _ (List.mem_of_getElem? (i := 131) rfl)
theorem wd_132 {a0 : Array Value} {Z : State} (hw : ∀ d ∈ tables_1, d.before a0 Z = true) : (Jvm.Cond.instanceMethod ({ cls := "java/lang/AbstractStringBuilder", name := "getValue", desc := "()[B" } : Jvm.MethodName)).before a0 Z = true := hw _ (List.mem_of_getElem? (i := 132) rfl)
theorem wd_133 {a0 : Array Value} {Z : State} (hw : ∀ d ∈ tables_1, d.before a0 Z = true) : (Jvm.Cond.selects "java/lang/StringBuilder" ({ cls := "java/lang/AbstractStringBuilder", name := "getValue", desc := "()[B" } : Jvm.MethodName) ({ cls := "java/lang/AbstractStringBuilder", name := "getValue", desc := "()[B" } : Jvm.MethodName)).before a0 Z = true := hw _ (List.mem_of_getElem? (i := 133) rfl)
theorem wd_134 {a0 : Array Value} {Z : State} (hw : ∀ d ∈ tables_1, d.before a0 Z = true) : (Jvm.Cond.code ({ cls := "java/lang/AbstractStringBuilder", name := "getValue", desc := "()[B" } : Jvm.MethodName) jdk_68_method_64_code (1 : Nat) (Option.some (Jvm.ClassFile.FieldType.array Jvm.ClassFile.FieldType.byte))).before a0 Z = true := hw _ (List.mem_of_getElem? (i := 134) rfl)
theorem wd_135 {a0 : Array Value} {Z : State} (hw : ∀ d ∈ tables_1, d.before a0 Z = true) : (Jvm.Cond.methodLink "java/lang/String" (549 : Nat) ({ cls := "java/lang/AbstractStringBuilder", name := "length", desc := "()I" } : Jvm.MethodName)).before a0 Z = true := hw _ (List.mem_of_getElem? (i := 135) rfl)
theorem wd_136 {a0 : Array Value} {Z : State} (hw : ∀ d ∈ tables_1, d.before a0 Z = true) : (Jvm.Cond.declares ({ cls := "java/lang/AbstractStringBuilder", name := "length", desc := "()I" } : Jvm.MethodName)).before a0 Z = true := hw _ (List.mem_of_getElem? (i := 136) rfl)
theorem wd_137 {a0 : Array Value} {Z : State} (hw : ∀ d ∈ tables_1, d.before a0 Z = true) : (Jvm.Cond.instanceMethod ({ cls := "java/lang/AbstractStringBuilder", name := "length", desc := "()I" } : Jvm.MethodName)).before a0 Z = true := hw _ (List.mem_of_getElem? (i := 137) rfl)
theorem wd_138 {a0 : Array Value} {Z : State} (hw : ∀ d ∈ tables_1, d.before a0 Z = true) : (Jvm.Cond.selects "java/lang/StringBuilder" ({ cls := "java/lang/AbstractStringBuilder", name := "length", desc := "()I" } : Jvm.MethodName) ({ cls := "java/lang/StringBuilder", name := "length", desc := "()I" } : Jvm.MethodName)).before a0 Z = true := hw _ (List.mem_of_getElem? (i := 138) rfl)
theorem wd_139 {a0 : Array Value} {Z : State} (hw : ∀ d ∈ tables_1, d.before a0 Z = true) : (Jvm.Cond.instanceMethod ({ cls := "java/lang/StringBuilder", name := "length", desc := "()I" } : Jvm.MethodName)).before a0 Z = true := hw _ (List.mem_of_getElem? (i := 139) rfl)
theorem wd_140 {a0 : Array Value} {Z : State} (hw : ∀ d ∈ tables_1, d.before a0 Z = true) : (Jvm.Cond.code ({ cls := "java/lang/StringBuilder", name := "length", desc := "()I" } : Jvm.MethodName) jdk_67_method_93_code (1 : Nat) (Option.some Jvm.ClassFile.FieldType.int)).before a0 Z = true := hw _ (List.mem_of_getElem? (i := 140) rfl)
theorem wd_141 {a0 : Array Value} {Z : State} (hw : ∀ d ∈ tables_1, d.before a0 Z = true) : (Jvm.Cond.methodLink "java/lang/StringBuilder" (343 : Nat) ({ cls := "java/lang/AbstractStringBuilder", name := "length", desc := "()I" } : Jvm.MethodName)).before a0 Z = true := hw _ (List.mem_of_getElem? (i := 141) rfl)
theorem wd_142 {a0 : Array Value} {Z : State} (hw : ∀ d ∈ tables_1, d.before a0 Z = true) : (Jvm.Cond.code ({ cls := "java/lang/AbstractStringBuilder", name := "length", desc := "()I" } : Jvm.MethodName) jdk_68_method_6_code (1 : Nat) (Option.some Jvm.ClassFile.FieldType.int)).before a0 Z = true := hw _ (List.mem_of_getElem? (i := 142) rfl)
theorem wd_143 {a0 : Array Value} {Z : State} (hw : ∀ d ∈ tables_1, d.before a0 Z = true) : (Jvm.Cond.methodLink "java/lang/String" (1047 : Nat) ({ cls := "java/lang/AbstractStringBuilder", name := "isLatin1", desc := "()Z" } : Jvm.MethodName)).before a0 Z = true := hw _ (List.mem_of_getElem? (i := 143) rfl)
theorem wd_144 {a0 : Array Value} {Z : State} (hw : ∀ d ∈ tables_1, d.before a0 Z = true) : (Jvm.Cond.methodLink "java/lang/String" (54 : Nat) ({ cls := "java/util/Arrays", name := "copyOfRange", desc := "([BII)[B" } : Jvm.MethodName)).before a0 Z = true := hw _ (List.mem_of_getElem? (i := 144) rfl)
theorem wd_145 {a0 : Array Value} {Z : State} (hw : ∀ d ∈ tables_1, d.before a0 Z = true) : (Jvm.Cond.static ({ cls := "java/util/Arrays", name := "copyOfRange", desc := "([BII)[B" } : Jvm.MethodName)).before a0 Z = true := hw _ (List.mem_of_getElem? (i := 145) rfl)
theorem wd_146 {a0 : Array Value} {Z : State} (hw : ∀ d ∈ tables_1, d.before a0 Z = true) : (Jvm.Cond.initialized "java/util/Arrays").before a0 Z = true := hw _ (List.mem_of_getElem? (i := 146) rfl)
theorem wd_147 {a0 : Array Value} {Z : State} (hw : ∀ d ∈ tables_1, d.before a0 Z = true) : (Jvm.Cond.code ({ cls := "java/util/Arrays", name := "copyOfRange", desc := "([BII)[B" } : Jvm.MethodName) jdk_65_method_132_code (3 : Nat) (Option.some (Jvm.ClassFile.FieldType.array Jvm.ClassFile.FieldType.byte))).before a0 Z = true := hw _ (List.mem_of_getElem? (i := 147) rfl)
theorem wd_148 {a0 : Array Value} {Z : State} (hw : ∀ d ∈ tables_1, d.before a0 Z = true) : (Jvm.Cond.methodLink "java/util/Arrays" (339 : Nat) ({ cls := "java/util/Arrays", name := "copyOfRangeByte", desc := "([BII)[B" } : Jvm.MethodName)).before a0 Z = true := hw _ (List.mem_of_getElem? (i := 148) rfl)
theorem wd_149 {a0 : Array Value} {Z : State} (hw : ∀ d ∈ tables_1, d.before a0 Z = true) : (Jvm.Cond.static ({ cls := "java/util/Arrays", name := "copyOfRangeByte", desc := "([BII)[B" } : Jvm.MethodName)).before a0 Z = true := hw _ (List.mem_of_getElem? (i := 149) rfl)
theorem wd_150 {a0 : Array Value} {Z : State} (hw : ∀ d ∈ tables_1, d.before a0 Z = true) : (Jvm.Cond.code ({ cls := "java/util/Arrays", name := "copyOfRangeByte", desc := "([BII)[B" } : Jvm.MethodName) jdk_65_method_133_code (5 : Nat) (Option.some (Jvm.ClassFile.FieldType.array Jvm.ClassFile.FieldType.byte))).before a0 Z = true := hw _ (List.mem_of_getElem? (i := 150) rfl)
theorem wd_151 {a0 : Array Value} {Z : State} (hw : ∀ d ∈ tables_1, d.before a0 Z = true) : (Jvm.Cond.methodLink "java/util/Arrays" (343 : Nat) ({ cls := "java/util/Arrays", name := "checkLength", desc := "(II)V" } : Jvm.MethodName)).before a0 Z = true := hw _ (List.mem_of_getElem? (i := 151) rfl)
theorem wd_152 {a0 : Array Value} {Z : State} (hw : ∀ d ∈ tables_1, d.before a0 Z = true) : (Jvm.Cond.static ({ cls := "java/util/Arrays", name := "checkLength", desc := "(II)V" } : Jvm.MethodName)).before a0 Z = true := hw _ (List.mem_of_getElem? (i := 152) rfl)
theorem wd_153 {a0 : Array Value} {Z : State} (hw : ∀ d ∈ tables_1, d.before a0 Z = true) : (Jvm.Cond.code ({ cls := "java/util/Arrays", name := "checkLength", desc := "(II)V" } : Jvm.MethodName) jdk_65_method_131_code (2 : Nat) (Option.none : Option Jvm.ClassFile.FieldType)).before a0 Z = true := hw _ (List.mem_of_getElem? (i := 153) rfl)
theorem wd_154 {a0 : Array Value} {Z : State} (hw : ∀ d ∈ tables_1, d.before a0 Z = true) : (Jvm.Cond.methodLink "java/util/Arrays" (304 : Nat) ({ cls := "java/lang/Math", name := "min", desc := "(II)I" } : Jvm.MethodName)).before a0 Z = true := hw _ (List.mem_of_getElem? (i := 154) rfl)
theorem wd_155 {a0 : Array Value} {Z : State} (hw : ∀ d ∈ tables_1, d.before a0 Z = true) : (Jvm.Cond.static ({ cls := "java/lang/Math", name := "min", desc := "(II)I" } : Jvm.MethodName)).before a0 Z = true := hw _ (List.mem_of_getElem? (i := 155) rfl)
theorem wd_156 {a0 : Array Value} {Z : State} (hw : ∀ d ∈ tables_1, d.before a0 Z = true) : (Jvm.Cond.initialized "java/lang/Math").before a0 Z = true := hw _ (List.mem_of_getElem? (i := 156) rfl)
theorem wd_157 {a0 : Array Value} {Z : State} (hw : ∀ d ∈ tables_1, d.before a0 Z = true) : (Jvm.Cond.code ({ cls := "java/lang/Math", name := "min", desc := "(II)I" } : Jvm.MethodName) jdk_29_method_69_code (2 : Nat) (Option.some Jvm.ClassFile.FieldType.int)).before a0 Z = true := hw _ (List.mem_of_getElem? (i := 157) rfl)
theorem wd_158 {a0 : Array Value} {Z : State} (hw : ∀ d ∈ tables_1, d.before a0 Z = true) : (Jvm.Cond.methodLink "java/util/Arrays" (150 : Nat) ({ cls := "java/lang/System", name := "arraycopy", desc := "(Ljava/lang/Object;ILjava/lang/Object;II)V" } : Jvm.MethodName)).before a0 Z = true := hw _ (List.mem_of_getElem? (i := 158) rfl)
theorem wd_159 {a0 : Array Value} {Z : State} (hw : ∀ d ∈ tables_1, d.before a0 Z = true) : (Jvm.Cond.methodLink "com/example/winnower/winnower/narrowing/PairToStringPinLaw" (16 : Nat) ({ cls := "com/example/winnower/winnower/narrowing/PairToStringPinLaw", name := "decLen", desc := "(I)I" } : Jvm.MethodName)).before a0 Z = true := hw _ (List.mem_of_getElem? (i := 159) rfl)
theorem wd_160 {a0 : Array Value} {Z : State} (hw : ∀ d ∈ tables_1, d.before a0 Z = true) : (Jvm.Cond.static ({ cls := "com/example/winnower/winnower/narrowing/PairToStringPinLaw", name := "decLen", desc := "(I)I" } : Jvm.MethodName)).before a0 Z = true := hw _ (List.mem_of_getElem? (i := 160) rfl)
theorem wd_161 {a0 : Array Value} {Z : State} (hw : ∀ d ∈ tables_1, d.before a0 Z = true) : (Jvm.Cond.initialized "com/example/winnower/winnower/narrowing/PairToStringPinLaw").before a0 Z = true := hw _ (List.mem_of_getElem? (i := 161) rfl)
theorem wd_162 {a0 : Array Value} {Z : State} (hw : ∀ d ∈ tables_1, d.before a0 Z = true) : (Jvm.Cond.code ({ cls := "com/example/winnower/winnower/narrowing/PairToStringPinLaw", name := "decLen", desc := "(I)I" } : Jvm.MethodName) method_5_code (4 : Nat) (Option.some Jvm.ClassFile.FieldType.int)).before a0 Z = true := hw _ (List.mem_of_getElem? (i := 162) rfl)
theorem wd_163 {a0 : Array Value} {Z : State} (hw : ∀ d ∈ tables_1, d.before a0 Z = true) : (Jvm.Cond.methodLink "com/example/winnower/winnower/narrowing/PairToStringPinLaw" (43 : Nat) ({ cls := "java/lang/Math", name := "abs", desc := "(J)J" } : Jvm.MethodName)).before a0 Z = true := hw _ (List.mem_of_getElem? (i := 163) rfl)
theorem wd_164 {a0 : Array Value} {Z : State} (hw : ∀ d ∈ tables_1, d.before a0 Z = true) : (Jvm.Cond.static ({ cls := "java/lang/Math", name := "abs", desc := "(J)J" } : Jvm.MethodName)).before a0 Z = true := hw _ (List.mem_of_getElem? (i := 164) rfl)
theorem wd_165 {a0 : Array Value} {Z : State} (hw : ∀ d ∈ tables_1, d.before a0 Z = true) : (Jvm.Cond.code ({ cls := "java/lang/Math", name := "abs", desc := "(J)J" } : Jvm.MethodName) jdk_29_method_61_code (2 : Nat) (Option.some Jvm.ClassFile.FieldType.long)).before a0 Z = true := hw _ (List.mem_of_getElem? (i := 165) rfl)
theorem wd_166 {a0 : Array Value} {Z : State} (hw : ∀ d ∈ tables_1, d.before a0 Z = true) : (Jvm.Cond.methodLink "com/example/winnower/winnower/narrowing/PairToStringPinLaw" (55 : Nat) ({ cls := "com/example/winnower/winnower/narrowing/PairToStringPinLaw", name := "digits", desc := "(J)I" } : Jvm.MethodName)).before a0 Z = true := hw _ (List.mem_of_getElem? (i := 166) rfl)
theorem wd_167 {a0 : Array Value} {Z : State} (hw : ∀ d ∈ tables_1, d.before a0 Z = true) : (Jvm.Cond.static ({ cls := "com/example/winnower/winnower/narrowing/PairToStringPinLaw", name := "digits", desc := "(J)I" } : Jvm.MethodName)).before a0 Z = true := hw _ (List.mem_of_getElem? (i := 167) rfl)
theorem wd_168 {a0 : Array Value} {Z : State} (hw : ∀ d ∈ tables_1, d.before a0 Z = true) : (Jvm.Cond.code ({ cls := "com/example/winnower/winnower/narrowing/PairToStringPinLaw", name := "digits", desc := "(J)I" } : Jvm.MethodName) method_6_code (2 : Nat) (Option.some Jvm.ClassFile.FieldType.int)).before a0 Z = true := hw _ (List.mem_of_getElem? (i := 168) rfl)
theorem wd_169 {a0 : Array Value} {Z : State} (hw : ∀ d ∈ tables_1, d.before a0 Z = true) : (Jvm.Cond.constantLong "com/example/winnower/winnower/narrowing/PairToStringPinLaw" (53 : Nat) (10 : Int64)).before a0 Z = true := hw _ (List.mem_of_getElem? (i := 169) rfl)
theorem wd_170 {a0 : Array Value} {Z : State} (hw : ∀ d ∈ tables_1, d.before a0 Z = true) : (Jvm.Cond.methodLink "com/example/winnower/winnower/narrowing/PairToStringPinLaw" (22 : Nat) ({ cls := "java/lang/String", name := "length", desc := "()I" } : Jvm.MethodName)).before a0 Z = true := hw _ (List.mem_of_getElem? (i := 170) rfl)
theorem wd_171 {a0 : Array Value} {Z : State} (hw : ∀ d ∈ tables_1, d.before a0 Z = true) : (Jvm.Cond.constant "com/example/winnower/winnower/narrowing/PairToStringPinLaw" (28 : Nat) (2147483647 : Int32)).before a0 Z = true := hw _ (List.mem_of_getElem? (i := 171) rfl)
theorem wd_172 {a0 : Array Value} {Z : State} (hw : ∀ d ∈ tables_1, d.before a0 Z = true) : (Jvm.Cond.methodLink "com/example/winnower/winnower/narrowing/PairToStringPinLaw" (29 : Nat) ({ cls := "java/lang/String", name := "charAt", desc := "(I)C" } : Jvm.MethodName)).before a0 Z = true := hw _ (List.mem_of_getElem? (i := 172) rfl)
theorem wd_173 {a0 : Array Value} {Z : State} (hw : ∀ d ∈ tables_1, d.before a0 Z = true) : (Jvm.Cond.declares ({ cls := "java/lang/String", name := "charAt", desc := "(I)C" } : Jvm.MethodName)).before a0 Z = true := hw _ (List.mem_of_getElem? (i := 173) rfl)
theorem wd_174 {a0 : Array Value} {Z : State} (hw : ∀ d ∈ tables_1, d.before a0 Z = true) : (Jvm.Cond.instanceMethod ({ cls := "java/lang/String", name := "charAt", desc := "(I)C" } : Jvm.MethodName)).before a0 Z = true := hw _ (List.mem_of_getElem? (i := 174) rfl)
theorem wd_175 {a0 : Array Value} {Z : State} (hw : ∀ d ∈ tables_1, d.before a0 Z = true) : (Jvm.Cond.selects "java/lang/String" ({ cls := "java/lang/String", name := "charAt", desc := "(I)C" } : Jvm.MethodName) ({ cls := "java/lang/String", name := "charAt", desc := "(I)C" } : Jvm.MethodName)).before a0 Z = true := hw _ (List.mem_of_getElem? (i := 175) rfl)
theorem wd_176 {a0 : Array Value} {Z : State} (hw : ∀ d ∈ tables_1, d.before a0 Z = true) : (Jvm.Cond.code ({ cls := "java/lang/String", name := "charAt", desc := "(I)C" } : Jvm.MethodName) jdk_42_method_56_code (2 : Nat) (Option.some Jvm.ClassFile.FieldType.char)).before a0 Z = true := hw _ (List.mem_of_getElem? (i := 176) rfl)
theorem wd_177 {a0 : Array Value} {Z : State} (hw : ∀ d ∈ tables_1, d.before a0 Z = true) : (Jvm.Cond.methodLink "java/lang/String" (492 : Nat) ({ cls := "java/lang/String", name := "isLatin1", desc := "()Z" } : Jvm.MethodName)).before a0 Z = true := hw _ (List.mem_of_getElem? (i := 177) rfl)
theorem wd_178 {a0 : Array Value} {Z : State} (hw : ∀ d ∈ tables_1, d.before a0 Z = true) : (Jvm.Cond.declares ({ cls := "java/lang/String", name := "isLatin1", desc := "()Z" } : Jvm.MethodName)).before a0 Z = true := hw _ (List.mem_of_getElem? (i := 178) rfl)
theorem wd_179 {a0 : Array Value} {Z : State} (hw : ∀ d ∈ tables_1, d.before a0 Z = true) : (Jvm.Cond.instanceMethod ({ cls := "java/lang/String", name := "isLatin1", desc := "()Z" } : Jvm.MethodName)).before a0 Z = true := hw _ (List.mem_of_getElem? (i := 179) rfl)
theorem wd_180 {a0 : Array Value} {Z : State} (hw : ∀ d ∈ tables_1, d.before a0 Z = true) : (Jvm.Cond.selects "java/lang/String" ({ cls := "java/lang/String", name := "isLatin1", desc := "()Z" } : Jvm.MethodName) ({ cls := "java/lang/String", name := "isLatin1", desc := "()Z" } : Jvm.MethodName)).before a0 Z = true := hw _ (List.mem_of_getElem? (i := 180) rfl)
theorem wd_181 {a0 : Array Value} {Z : State} (hw : ∀ d ∈ tables_1, d.before a0 Z = true) : (Jvm.Cond.code ({ cls := "java/lang/String", name := "isLatin1", desc := "()Z" } : Jvm.MethodName) jdk_42_method_154_code (1 : Nat) (Option.some Jvm.ClassFile.FieldType.boolean)).before a0 Z = true := hw _ (List.mem_of_getElem? (i := 181) rfl)
theorem wd_182 {a0 : Array Value} {Z : State} (hw : ∀ d ∈ tables_1, d.before a0 Z = true) : (Jvm.Cond.methodLink "java/lang/String" (495 : Nat) ({ cls := "java/lang/StringLatin1", name := "charAt", desc := "([BI)C" } : Jvm.MethodName)).before a0 Z = true := hw _ (List.mem_of_getElem? (i := 182) rfl)
theorem wd_183 {a0 : Array Value} {Z : State} (hw : ∀ d ∈ tables_1, d.before a0 Z = true) : (Jvm.Cond.static ({ cls := "java/lang/StringLatin1", name := "charAt", desc := "([BI)C" } : Jvm.MethodName)).before a0 Z = true := hw _ (List.mem_of_getElem? (i := 183) rfl)
theorem wd_184 {a0 : Array Value} {Z : State} (hw : ∀ d ∈ tables_1, d.before a0 Z = true) : (Jvm.Cond.initialized "java/lang/StringLatin1").before a0 Z = true := hw _ (List.mem_of_getElem? (i := 184) rfl)
theorem wd_185 {a0 : Array Value} {Z : State} (hw : ∀ d ∈ tables_1, d.before a0 Z = true) : (Jvm.Cond.code ({ cls := "java/lang/StringLatin1", name := "charAt", desc := "([BI)C" } : Jvm.MethodName) jdk_43_method_2_code (2 : Nat) (Option.some Jvm.ClassFile.FieldType.char)).before a0 Z = true := hw _ (List.mem_of_getElem? (i := 185) rfl)
theorem wd_186 {a0 : Array Value} {Z : State} (hw : ∀ d ∈ tables_1, d.before a0 Z = true) : (Jvm.Cond.methodLink "java/lang/StringLatin1" (9 : Nat) ({ cls := "java/lang/String", name := "checkIndex", desc := "(II)V" } : Jvm.MethodName)).before a0 Z = true := hw _ (List.mem_of_getElem? (i := 186) rfl)
theorem wd_187 {a0 : Array Value} {Z : State} (hw : ∀ d ∈ tables_1, d.before a0 Z = true) : (Jvm.Cond.static ({ cls := "java/lang/String", name := "checkIndex", desc := "(II)V" } : Jvm.MethodName)).before a0 Z = true := hw _ (List.mem_of_getElem? (i := 187) rfl)
theorem wd_188 {a0 : Array Value} {Z : State} (hw : ∀ d ∈ tables_1, d.before a0 Z = true) : (Jvm.Cond.code ({ cls := "java/lang/String", name := "checkIndex", desc := "(II)V" } : Jvm.MethodName) jdk_42_method_155_code (2 : Nat) (Option.none : Option Jvm.ClassFile.FieldType)).before a0 Z = true := hw _ (List.mem_of_getElem? (i := 188) rfl)
theorem wd_189 {a0 : Array Value} {Z : State} (hw : ∀ d ∈ tables_1, d.before a0 Z = true) : (Jvm.Cond.fieldLink "java/lang/String" (1053 : Nat) "jdk/internal/util/Preconditions" "SIOOBE_FORMATTER" "Ljava/util/function/BiFunction;").before a0 Z = true := hw _ (List.mem_of_getElem? (i := 189) rfl)
theorem wd_190 {a0 : Array Value} {Z : State} (hw : ∀ d ∈ tables_1, d.before a0 Z = true) : (Jvm.Cond.initialized "jdk/internal/util/Preconditions").before a0 Z = true := hw _ (List.mem_of_getElem? (i := 190) rfl)
theorem wd_191 {a0 : Array Value} {Z : State} (hw : ∀ d ∈ tables_1, d.before a0 Z = true) : (Jvm.Cond.methodLink "java/lang/String" (1059 : Nat) ({ cls := "jdk/internal/util/Preconditions", name := "checkIndex", desc := "(IILjava/util/function/BiFunction;)I" } : Jvm.MethodName)).before a0 Z = true := hw _ (List.mem_of_getElem? (i := 191) rfl)
theorem wd_192 {a0 : Array Value} {Z : State} (hw : ∀ d ∈ tables_1, d.before a0 Z = true) : (Jvm.Cond.static ({ cls := "jdk/internal/util/Preconditions", name := "checkIndex", desc := "(IILjava/util/function/BiFunction;)I" } : Jvm.MethodName)).before a0 Z = true := hw _ (List.mem_of_getElem? (i := 192) rfl)
theorem wd_193 {a0 : Array Value} {Z : State} (hw : ∀ d ∈ tables_1, d.before a0 Z = true) : (Jvm.Cond.code ({ cls := "jdk/internal/util/Preconditions", name := "checkIndex", desc := "(IILjava/util/function/BiFunction;)I" } : Jvm.MethodName) jdk_41_method_11_code (3 : Nat) (Option.some Jvm.ClassFile.FieldType.int)).before a0 Z = true := hw _ (List.mem_of_getElem? (i := 193) rfl)
theorem wd_194 {a0 : Array Value} {Z : State} (hw : ∀ d ∈ tables_1, d.before a0 Z = true) : (Jvm.Cond.methodLink "com/example/winnower/winnower/narrowing/PairToStringPinLaw" (33 : Nat) ({ cls := "com/example/winnower/winnower/narrowing/PairToStringPinLaw", name := "expected", desc := "(IIIII)C" } : Jvm.MethodName)).before a0 Z = true := hw _ (List.mem_of_getElem? (i := 194) rfl)
theorem wd_195 {a0 : Array Value} {Z : State} (hw : ∀ d ∈ tables_1, d.before a0 Z = true) : (Jvm.Cond.static ({ cls := "com/example/winnower/winnower/narrowing/PairToStringPinLaw", name := "expected", desc := "(IIIII)C" } : Jvm.MethodName)).before a0 Z = true := hw _ (List.mem_of_getElem? (i := 195) rfl)
theorem wd_196 {a0 : Array Value} {Z : State} (hw : ∀ d ∈ tables_1, d.before a0 Z = true) : (Jvm.Cond.code ({ cls := "com/example/winnower/winnower/narrowing/PairToStringPinLaw", name := "expected", desc := "(IIIII)C" } : Jvm.MethodName) method_3_code (6 : Nat) (Option.some Jvm.ClassFile.FieldType.char)).before a0 Z = true := hw _ (List.mem_of_getElem? (i := 196) rfl)
theorem wd_197 {a0 : Array Value} {Z : State} (hw : ∀ d ∈ tables_1, d.before a0 Z = true) : (Jvm.Cond.stringLink "com/example/winnower/winnower/narrowing/PairToStringPinLaw" (41 : Nat) " and ").before a0 Z = true := hw _ (List.mem_of_getElem? (i := 197) rfl)
theorem wd_198 {a0 : Array Value} {Z : State} (hw : ∀ d ∈ tables_1, d.before a0 Z = true) : (Jvm.Cond.fieldLink "java/lang/Integer" (87 : Nat) "java/lang/Integer" "DigitTens" "[B").before a0 Z = true := hw _ (List.mem_of_getElem? (i := 198) rfl)
theorem wd_199 {a0 : Array Value} {Z : State} (hw : ∀ d ∈ tables_1, d.before a0 Z = true) : (Jvm.Cond.constantLong "com/example/winnower/winnower/narrowing/PairToStringPinLaw" (59 : Nat) (100 : Int64)).before a0 Z = true := hw _ (List.mem_of_getElem? (i := 199) rfl)
theorem wd_200 {a0 : Array Value} {Z : State} (hw : ∀ d ∈ tables_1, d.before a0 Z = true) : (Jvm.Cond.constantLong "com/example/winnower/winnower/narrowing/PairToStringPinLaw" (61 : Nat) (1000 : Int64)).before a0 Z = true := hw _ (List.mem_of_getElem? (i := 200) rfl)
theorem wd_201 {a0 : Array Value} {Z : State} (hw : ∀ d ∈ tables_1, d.before a0 Z = true) : (Jvm.Cond.methodLink "com/example/winnower/winnower/narrowing/PairToStringPinLaw" (37 : Nat) ({ cls := "com/example/winnower/winnower/narrowing/PairToStringPinLaw", name := "decChar", desc := "(III)C" } : Jvm.MethodName)).before a0 Z = true := hw _ (List.mem_of_getElem? (i := 201) rfl)
theorem wd_202 {a0 : Array Value} {Z : State} (hw : ∀ d ∈ tables_1, d.before a0 Z = true) : (Jvm.Cond.static ({ cls := "com/example/winnower/winnower/narrowing/PairToStringPinLaw", name := "decChar", desc := "(III)C" } : Jvm.MethodName)).before a0 Z = true := hw _ (List.mem_of_getElem? (i := 202) rfl)
theorem wd_203 {a0 : Array Value} {Z : State} (hw : ∀ d ∈ tables_1, d.before a0 Z = true) : (Jvm.Cond.code ({ cls := "com/example/winnower/winnower/narrowing/PairToStringPinLaw", name := "decChar", desc := "(III)C" } : Jvm.MethodName) method_4_code (10 : Nat) (Option.some Jvm.ClassFile.FieldType.char)).before a0 Z = true := hw _ (List.mem_of_getElem? (i := 203) rfl)
theorem wd_204 {a0 : Array Value} {Z : State} (hw : ∀ d ∈ tables_1, d.before a0 Z = true) : (Jvm.Cond.methodLink "com/example/winnower/winnower/narrowing/PairToStringPinLaw" (49 : Nat) ({ cls := "com/example/winnower/winnower/narrowing/PairToStringPinLaw", name := "pow10", desc := "(I)J" } : Jvm.MethodName)).before a0 Z = true := hw _ (List.mem_of_getElem? (i := 204) rfl)
theorem wd_205 {a0 : Array Value} {Z : State} (hw : ∀ d ∈ tables_1, d.before a0 Z = true) : (Jvm.Cond.static ({ cls := "com/example/winnower/winnower/narrowing/PairToStringPinLaw", name := "pow10", desc := "(I)J" } : Jvm.MethodName)).before a0 Z = true := hw _ (List.mem_of_getElem? (i := 205) rfl)
theorem wd_206 {a0 : Array Value} {Z : State} (hw : ∀ d ∈ tables_1, d.before a0 Z = true) : (Jvm.Cond.code ({ cls := "com/example/winnower/winnower/narrowing/PairToStringPinLaw", name := "pow10", desc := "(I)J" } : Jvm.MethodName) method_7_code (1 : Nat) (Option.some Jvm.ClassFile.FieldType.long)).before a0 Z = true := hw _ (List.mem_of_getElem? (i := 206) rfl)
theorem wd_207 {a0 : Array Value} {Z : State} (hw : ∀ d ∈ tables_1, d.before a0 Z = true) : (Jvm.Cond.methodLink "java/lang/AbstractStringBuilder" (104 : Nat) ({ cls := "java/lang/AbstractStringBuilder", name := "newCapacity", desc := "(I)I" } : Jvm.MethodName)).before a0 Z = true := hw _ (List.mem_of_getElem? (i := 207) rfl)
theorem wd_208 {a0 : Array Value} {Z : State} (hw : ∀ d ∈ tables_1, d.before a0 Z = true) : (Jvm.Cond.instanceMethod ({ cls := "java/lang/AbstractStringBuilder", name := "newCapacity", desc := "(I)I" } : Jvm.MethodName)).before a0 Z = true := hw _ (List.mem_of_getElem? (i := 208) rfl)
theorem wd_210 {a0 : Array Value} {Z : State} (hw : ∀ d ∈ tables_1, d.before a0 Z = true) : (Jvm.Cond.selects "java/lang/StringBuilder" ({ cls := "java/lang/AbstractStringBuilder", name := "newCapacity", desc := "(I)I" } : Jvm.MethodName) ({ cls := "java/lang/AbstractStringBuilder", name := "newCapacity", desc := "(I)I" } : Jvm.MethodName)).before a0 Z = true := hw _ (List.mem_of_getElem? (i := 210) rfl)
theorem wd_211 {a0 : Array Value} {Z : State} (hw : ∀ d ∈ tables_1, d.before a0 Z = true) : (Jvm.Cond.code ({ cls := "java/lang/AbstractStringBuilder", name := "newCapacity", desc := "(I)I" } : Jvm.MethodName) jdk_68_method_10_code (6 : Nat) (Option.some Jvm.ClassFile.FieldType.int)).before a0 Z = true := hw _ (List.mem_of_getElem? (i := 211) rfl)
theorem wd_212 {a0 : Array Value} {Z : State} (hw : ∀ d ∈ tables_1, d.before a0 Z = true) : (Jvm.Cond.methodLink "java/lang/AbstractStringBuilder" (114 : Nat) ({ cls := "jdk/internal/util/ArraysSupport", name := "newLength", desc := "(III)I" } : Jvm.MethodName)).before a0 Z = true := hw _ (List.mem_of_getElem? (i := 212) rfl)
theorem wd_213 {a0 : Array Value} {Z : State} (hw : ∀ d ∈ tables_1, d.before a0 Z = true) : (Jvm.Cond.static ({ cls := "jdk/internal/util/ArraysSupport", name := "newLength", desc := "(III)I" } : Jvm.MethodName)).before a0 Z = true := hw _ (List.mem_of_getElem? (i := 213) rfl)
theorem wd_214 {a0 : Array Value} {Z : State} (hw : ∀ d ∈ tables_1, d.before a0 Z = true) : (Jvm.Cond.initialized "jdk/internal/util/ArraysSupport").before a0 Z = true := hw _ (List.mem_of_getElem? (i := 214) rfl)
theorem wd_215 {a0 : Array Value} {Z : State} (hw : ∀ d ∈ tables_1, d.before a0 Z = true) : (Jvm.Cond.code ({ cls := "jdk/internal/util/ArraysSupport", name := "newLength", desc := "(III)I" } : Jvm.MethodName) jdk_48_method_27_code (4 : Nat) (Option.some Jvm.ClassFile.FieldType.int)).before a0 Z = true := hw _ (List.mem_of_getElem? (i := 215) rfl)
theorem wd_216 {a0 : Array Value} {Z : State} (hw : ∀ d ∈ tables_1, d.before a0 Z = true) : (Jvm.Cond.methodLink "jdk/internal/util/ArraysSupport" (194 : Nat) ({ cls := "java/lang/Math", name := "max", desc := "(II)I" } : Jvm.MethodName)).before a0 Z = true := hw _ (List.mem_of_getElem? (i := 216) rfl)
theorem wd_217 {a0 : Array Value} {Z : State} (hw : ∀ d ∈ tables_1, d.before a0 Z = true) : (Jvm.Cond.static ({ cls := "java/lang/Math", name := "max", desc := "(II)I" } : Jvm.MethodName)).before a0 Z = true := hw _ (List.mem_of_getElem? (i := 217) rfl)
theorem wd_218 {a0 : Array Value} {Z : State} (hw : ∀ d ∈ tables_1, d.before a0 Z = true) : (Jvm.Cond.code ({ cls := "java/lang/Math", name := "max", desc := "(II)I" } : Jvm.MethodName) jdk_29_method_65_code (2 : Nat) (Option.some Jvm.ClassFile.FieldType.int)).before a0 Z = true := hw _ (List.mem_of_getElem? (i := 218) rfl)
theorem wd_219 {a0 : Array Value} {Z : State} (hw : ∀ d ∈ tables_1, d.before a0 Z = true) : (Jvm.Cond.constant "jdk/internal/util/ArraysSupport" (200 : Nat) (2147483639 : Int32)).before a0 Z = true := hw _ (List.mem_of_getElem? (i := 219) rfl)
theorem wd_220 {a0 : Array Value} {Z : State} (hw : ∀ d ∈ tables_1, d.before a0 Z = true) : (Jvm.Cond.constant "java/lang/AbstractStringBuilder" (39 : Nat) (2147483647 : Int32)).before a0 Z = true := hw _ (List.mem_of_getElem? (i := 220) rfl)
theorem wd_221 {a0 : Array Value} {Z : State} (hw : ∀ d ∈ tables_1, d.before a0 Z = true) : (Jvm.Cond.methodLink "java/lang/AbstractStringBuilder" (108 : Nat) ({ cls := "java/util/Arrays", name := "copyOf", desc := "([BI)[B" } : Jvm.MethodName)).before a0 Z = true := hw _ (List.mem_of_getElem? (i := 221) rfl)
theorem wd_222 {a0 : Array Value} {Z : State} (hw : ∀ d ∈ tables_1, d.before a0 Z = true) : (Jvm.Cond.static ({ cls := "java/util/Arrays", name := "copyOf", desc := "([BI)[B" } : Jvm.MethodName)).before a0 Z = true := hw _ (List.mem_of_getElem? (i := 222) rfl)
theorem wd_223 {a0 : Array Value} {Z : State} (hw : ∀ d ∈ tables_1, d.before a0 Z = true) : (Jvm.Cond.code ({ cls := "java/util/Arrays", name := "copyOf", desc := "([BI)[B" } : Jvm.MethodName) jdk_65_method_121_code (3 : Nat) (Option.some (Jvm.ClassFile.FieldType.array Jvm.ClassFile.FieldType.byte))).before a0 Z = true := hw _ (List.mem_of_getElem? (i := 223) rfl)
theorem wd_224 {a0 : Array Value} {Z : State} (hw : ∀ d ∈ tables_1, d.before a0 Z = true) : (Jvm.Cond.constantLong "com/example/winnower/winnower/narrowing/PairToStringPinLaw" (63 : Nat) (10000 : Int64)).before a0 Z = true := hw _ (List.mem_of_getElem? (i := 224) rfl)
theorem wd_225 {a0 : Array Value} {Z : State} (hw : ∀ d ∈ tables_1, d.before a0 Z = true) : (Jvm.Cond.constantLong "com/example/winnower/winnower/narrowing/PairToStringPinLaw" (65 : Nat) (100000 : Int64)).before a0 Z = true := hw _ (List.mem_of_getElem? (i := 225) rfl)
theorem wd_226 {a0 : Array Value} {Z : State} (hw : ∀ d ∈ tables_1, d.before a0 Z = true) : (Jvm.Cond.constantLong "com/example/winnower/winnower/narrowing/PairToStringPinLaw" (67 : Nat) (1000000 : Int64)).before a0 Z = true := hw _ (List.mem_of_getElem? (i := 226) rfl)
theorem wd_227 {a0 : Array Value} {Z : State} (hw : ∀ d ∈ tables_1, d.before a0 Z = true) : (Jvm.Cond.constantLong "com/example/winnower/winnower/narrowing/PairToStringPinLaw" (69 : Nat) (10000000 : Int64)).before a0 Z = true := hw _ (List.mem_of_getElem? (i := 227) rfl)
theorem wd_228 {a0 : Array Value} {Z : State} (hw : ∀ d ∈ tables_1, d.before a0 Z = true) : (Jvm.Cond.constantLong "com/example/winnower/winnower/narrowing/PairToStringPinLaw" (71 : Nat) (100000000 : Int64)).before a0 Z = true := hw _ (List.mem_of_getElem? (i := 228) rfl)
theorem wd_229 {a0 : Array Value} {Z : State} (hw : ∀ d ∈ tables_1, d.before a0 Z = true) : (Jvm.Cond.constantLong "com/example/winnower/winnower/narrowing/PairToStringPinLaw" (73 : Nat) (1000000000 : Int64)).before a0 Z = true := hw _ (List.mem_of_getElem? (i := 229) rfl)
theorem wd_230 {a0 : Array Value} {Z : State} (hw : ∀ d ∈ tables_1, d.before a0 Z = true) : (Jvm.Cond.methodLink "java/util/Arrays" (310 : Nat) ({ cls := "[B", name := "clone", desc := "()Ljava/lang/Object;" } : Jvm.MethodName)).before a0 Z = true := hw _ (List.mem_of_getElem? (i := 230) rfl)
theorem wd_231 {a0 : Array Value} {Z : State} (hw : ∀ d ∈ tables_1, d.before a0 Z = true) : (Jvm.Cond.sameMethod "[B" "java/lang/Object" "clone" "()Ljava/lang/Object;").before a0 Z = true := hw _ (List.mem_of_getElem? (i := 231) rfl)
theorem wd_233 {a0 : Array Value} {Z : State} (hw : ∀ d ∈ tables_1, d.before a0 Z = true) : (Jvm.Cond.instanceMethod ({ cls := "java/lang/Object", name := "clone", desc := "()Ljava/lang/Object;" } : Jvm.MethodName)).before a0 Z = true := hw _ (List.mem_of_getElem? (i := 233) rfl)
theorem wd_234 {a0 : Array Value} {Z : State} (hw : ∀ d ∈ tables_1, d.before a0 Z = true) : (Jvm.Cond.selects "[B" ({ cls := "[B", name := "clone", desc := "()Ljava/lang/Object;" } : Jvm.MethodName) ({ cls := "java/lang/Object", name := "clone", desc := "()Ljava/lang/Object;" } : Jvm.MethodName)).before a0 Z = true := hw _ (List.mem_of_getElem? (i := 234) rfl)
theorem wd_235 {a0 : Array Value} {Z : State} (hw : ∀ d ∈ tables_1, d.before a0 Z = true) : (Jvm.Cond.native ({ cls := "java/lang/Object", name := "clone", desc := "()Ljava/lang/Object;" } : Jvm.MethodName)).before a0 Z = true := hw _ (List.mem_of_getElem? (i := 235) rfl)
theorem wd_236 {a0 : Array Value} {Z : State} (hw : ∀ d ∈ tables_1, d.before a0 Z = true) : (Jvm.Cond.castable "[B" "java/lang/Cloneable").before a0 Z = true := hw _ (List.mem_of_getElem? (i := 236) rfl)
theorem wd_237 {a0 : Array Value} {Z : State} (hw : ∀ d ∈ tables_1, d.before a0 Z = true) : (Jvm.Cond.classLink "java/util/Arrays" (311 : Nat) "[B").before a0 Z = true := hw _ (List.mem_of_getElem? (i := 237) rfl)
theorem own_wS {a0 : Array Value} {Z : State} (hw : ∀ d ∈ tables_1, d.before a0 Z = true) : ∀ d ∈ Bundle.stringAtoms, d.before a0 Z = true := fun d hd => by
  simp only [Bundle.stringAtoms, List.mem_cons, List.not_mem_nil, or_false] at hd
  rcases hd with rfl | rfl | rfl | rfl | rfl | rfl | rfl
  · exact (wd_32 hw)
  · exact (wd_69 hw)
  · exact (wd_33 hw)
  · exact (wd_70 hw)
  · exact (wd_71 hw)
  · exact (wd_72 hw)
  · exact (wd_73 hw)
def own_EL : List (String × Nat) := consts_1
theorem own_ew {a0 : Array Value} {Z : State} (hw : ∀ d ∈ tables_1, d.before a0 Z = true) : EW Z a0 own_EL := (EW.cons (wd_68 hw) (by decide) (EW.cons (wd_197 hw) (by decide) EW.nil))
def Q_j_asbinit (Z : State) (b : Addr) (h0 : Heap) (n0 : Nat) (v : Option Value) (h : Heap) (L : List Loc) : Prop := v = none ∧ Fr n0 L ∧ Keep h0 h [b] ∧ ∃ (t : Addr) (kt : ClassId), h0.size ≤ t ∧ (Exa Z h b "java/lang/StringBuilder") ∧ (Fld Z h b "java/lang/AbstractStringBuilder" "value" "[B" (.ref t)) ∧ (Fld Z h b "java/lang/AbstractStringBuilder" "coder" "B" (.int (0 : Int32))) ∧ (Fld Z h b "java/lang/AbstractStringBuilder" "count" "I" (.int (Int32.ofNat 0))) ∧ (Exa Z h t "[B") ∧ (Arv Z h t kt .byte (Int32.ofNat 16) (own_F 16 (fun _ => 0)) (.int (0 : Int32)))
set_option maxRecDepth 65536 in
set_option maxHeartbeats 40000000 in
theorem j_asbinit (l : Launch) (Z : State) (a0 : Array Value) (hw : ∀ d ∈ tables_1, d.before a0 Z = true) (b : Addr) (cz : Int32) (h0 : Heap) (n0 : Nat) (OL : Old Z n0 h0) (SC : Sta Z Z.heap "java/lang/String" "COMPACT_STRINGS" "Z" (.int cz)) (hcz : ¬ cz = 0) (E_b : Exa Z h0 b "java/lang/StringBuilder") (F_value_b : Fld Z h0 b "java/lang/AbstractStringBuilder" "value" "[B" .null) (F_coder_b : Fld Z h0 b "java/lang/AbstractStringBuilder" "coder" "B" (.int (0 : Int32))) (F_count_b : Fld Z h0 b "java/lang/AbstractStringBuilder" "count" "I" (.int (0 : Int32))) (n0_b : n0 ≤ b) :
    own_Met l Z (⟨"java/lang/AbstractStringBuilder", "<init>", "(I)V"⟩ : MethodName) jdk_68_method_2_code 2 none ({ frames := 1, cells := 1, slots := 16, locals := 12 } : Room) #[(.ref b), (.int (16 : Int32))] h0 (Q_j_asbinit Z b h0 n0) := by
  refine own_body (L0 := #[.val (.ref b), .val (.int (16 : Int32))]) (plainFor_of_name (by first | (simp [plainName, overriddenIn]; done) | decide +kernel)) (fun m => by first | (simp [entryFrame, mkF, argsToLocals, Value.category]; done) | rfl) ?_
  intro p e s m below meth c s₁ hx hby hml hZ hown hnm hret hlk X0 e0
  have N0 := Fr.nil n0
  have Z0 : n0 ≤ h0.size := OL.1 ▸ OL.2.1
  show OwnOk p e below _ (s₁.setTop (mkF m 0 #[.val (.ref b), .val (.int (16 : Int32))] []))
  have KP0 : Keep h0 h0 [b] := Keep.refl h0 _
  refine own_up (fun tx kx => XS.aloadN X0.here hx rfl (hb hby d5_0) rfl rfl kx) ?_
  show OwnOk p e below _ (s₁.setTop (mkF m 1 #[.val (.ref b), .val (.int (16 : Int32))] [(.ref b)]))
  obtain ⟨T11, X11, e11, st11⟩ := initO X0 hx hZ hown (wd_30 hw) (wd_7 hw) (wd_8 hw) e0 (g := (mkF m 1 #[.val (.ref b), .val (.int (16 : Int32))] [(.ref b)])) rfl (by rw [hml]; rfl) rfl (hb hby d5_1) (by decide) (W := 0) (by show 2 * 0 + _ ≤ _; exact Nat.le_of_eq rfl) (by decide)
  refine own_up st11 ?_
  show OwnOk p e below _ (T11.setTop (mkF m 4 #[.val (.ref b), .val (.int (16 : Int32))] []))
  obtain ⟨T12, X12, e12, st12⟩ := getS2 X11 hx hZ hown (host := "") (Or.inl (wd_31 hw)) Via.refl e11 (SC.ext OL.2) (g := (mkF m 4 #[.val (.ref b), .val (.int (16 : Int32))] [])) rfl (hb hby d5_4)
  refine own_up st12 ?_
  show OwnOk p e below _ (T12.setTop (mkF m 7 #[.val (.ref b), .val (.int (16 : Int32))] [(.int cz)]))
  refine own_up (fun tx kx => XS.ifNo X12.here hx rfl (hb hby d5_7) rfl ((if0 _ _).trans (feq hcz).1) kx) ?_
  show OwnOk p e below _ (T12.setTop (mkF m 10 #[.val (.ref b), .val (.int (16 : Int32))] []))
  refine own_up (fun tx kx => XS.aloadN X12.here hx rfl (hb hby d5_10) rfl rfl kx) ?_
  show OwnOk p e below _ (T12.setTop (mkF m 11 #[.val (.ref b), .val (.int (16 : Int32))] [(.ref b)]))
  refine own_up (fun tx kx => XS.iloadN X12.here hx rfl (hb hby d5_11) rfl kx) ?_
  show OwnOk p e below _ (T12.setTop (mkF m 12 #[.val (.ref b), .val (.int (16 : Int32))] [(.int (16 : Int32)), (.ref b)]))
  obtain ⟨T13, h13, k13, X13, e13, E13, A13, P13, st13⟩ := newPE (aty := .byte) X12 hx hZ (wd_33 hw) e12 (g := (mkF m 12 #[.val (.ref b), .val (.int (16 : Int32))] [(.int (16 : Int32)), (.ref b)])) rfl (hb hby d5_12) rfl (by decide) (cap := 16) (by decide) (by decide) (by decide) (by decide) (ad := "[B") (by decide)
  obtain ⟨b13, g13⟩ : ∃ z, z = h0.size := ⟨_, rfl⟩
  rw [← g13] at A13 P13 st13
  have sz_b13 : h0.size ≤ b13 := Nat.le_of_eq g13.symm
  have lt_b_b13 : b < b13 := Nat.lt_of_lt_of_le E_b.lt sz_b13
  have n0_b13 : n0 ≤ b13 := Nat.le_trans (own_n0 OL) sz_b13
  have ws_b13 : h0.size ≤ b13 := Nat.le_trans KP0.1 sz_b13
  have V_b13 : Arv Z h13 b13 k13 .byte (Int32.ofNat 16) (own_F 16 fun _ => 0) (.int (0 : Int32)) := own_newF (Arv.new A13 (by decide)) 16
  have OL15 := OL.ext E13
  have KP15 := KP0.ext E13
  refine own_up st13 ?_
  show OwnOk p e below _ (T13.setTop (mkF m 14 #[.val (.ref b), .val (.int (16 : Int32))] [(.ref b13), (.ref b)]))
  have F_value_b_16 := (F_value_b.ext E13)
  have E_b_17 := (E_b.ext E13)
  obtain ⟨T18, h18, X18, e18, W18, st18⟩ := putF X13 hx hZ hown (host := "") (Or.inl (wd_34 hw)) Via.refl e13 F_value_b_16 E_b_17 (Or.inl (wd_35 hw)) (wd_19 hw) (ty := (.array .byte)) (by decide) rfl rfl (g := (mkF m 14 #[.val (.ref b), .val (.int (16 : Int32))] [(.ref b13), (.ref b)])) rfl rfl (hb hby d5_14)
  have Fw18 := Fld.same W18 F_value_b_16
  have N18 := Fr.snoc X18 N0 n0_b
  have OL19 := OL15.wr W18 n0_b
  have KP19 := KP15.wr W18 (Or.inl (List.mem_of_getElem? (i := 0) rfl))
  refine own_up st18 ?_
  show OwnOk p e below _ (T18.setTop (mkF m 17 #[.val (.ref b), .val (.int (16 : Int32))] []))
  refine own_up (fun tx kx => XS.aloadN X18.here hx rfl (hb hby d5_17) rfl rfl kx) ?_
  show OwnOk p e below _ (T18.setTop (mkF m 18 #[.val (.ref b), .val (.int (16 : Int32))] [(.ref b)]))
  refine own_up (fun tx kx => XS.iconst X18.here hx rfl (hb hby d5_18) kx) ?_
  show OwnOk p e below _ (T18.setTop (mkF m 19 #[.val (.ref b), .val (.int (16 : Int32))] [(.int (0 : Int32)), (.ref b)]))
  have F_coder_b_20 := ((F_coder_b.ext E13).other W18 (Or.inr (slot_ne (Or.inl (wd_37 hw)) (Or.inl (wd_35 hw)) (by decide) (t := .byte) (t' := (.array .byte)) (by decide) (by decide))))
  have E_b_21 := (E_b_17.wr W18)
  obtain ⟨T22, h22, X22, e22, W22, st22⟩ := putFN X18 hx hZ hown (wd_36 hw) Via.refl e18 F_coder_b_20 E_b_21 (Or.inl (wd_37 hw)) (wd_19 hw) (ty := .byte) (v := (.int (0 : Int32))) (v' := (.int (0 : Int32))) (by decide) (by decide) (by decide) (g := (mkF m 19 #[.val (.ref b), .val (.int (16 : Int32))] [(.int (0 : Int32)), (.ref b)])) rfl rfl (hb hby d5_19)
  have Fw22 := Fld.same W22 F_coder_b_20
  have N22 := Fr.snoc X22 N18 n0_b
  have OL23 := OL19.wr W22 n0_b
  have KP23 := KP19.wr W22 (Or.inl (List.mem_of_getElem? (i := 0) rfl))
  refine own_up st22 ?_
  show OwnOk p e below _ (T22.setTop (mkF m 22 #[.val (.ref b), .val (.int (16 : Int32))] []))
  refine own_up (fun tx kx => XS.goto X22.here hx rfl (pc0 := 22) (pc' := 38) rfl (hb hby d5_22) (by decide) (by decide) kx) ?_
  show OwnOk p e below _ (T22.setTop (mkF m 38 #[.val (.ref b), .val (.int (16 : Int32))] []))
  have E_b_24 := (E_b_21.wr W22)
  have F_value_b_25 := (Fw18.other W22 (Or.inr (slot_ne (Or.inl (wd_35 hw)) (Or.inl (wd_37 hw)) (by decide) (t := (.array .byte)) (t' := .byte) (by decide) (by decide))))
  have F_count_b_26 := (((F_count_b.ext E13).other W18 (Or.inr (slot_ne (Or.inl (wd_49 hw)) (Or.inl (wd_35 hw)) (by decide) (t := .int) (t' := (.array .byte)) (by decide) (by decide)))).other W22 (Or.inr (slot_ne (Or.inl (wd_49 hw)) (Or.inl (wd_37 hw)) (by decide) (t := .int) (t' := .byte) (by decide) (by decide))))
  have E_b13_27 := ((P13.wr W18).wr W22)
  have V_b13_28 := ((V_b13.other W18 (Nat.ne_of_gt lt_b_b13)).other W22 (Nat.ne_of_gt lt_b_b13))
  refine own_retV X22 hx (show meth.sig.returnType = none from hret) hlk (hb hby d5_38) e22 (Nat.le_of_ble_eq_true rfl) (Nat.le_of_ble_eq_true rfl) ?_
  exact ⟨rfl, N22, KP23, b13, _, ws_b13, E_b_24, F_value_b_25, Fw22, F_count_b_26, E_b13_27, V_b13_28⟩
def Q_j_sbinit (Z : State) (b : Addr) (h0 : Heap) (n0 : Nat) (v : Option Value) (h : Heap) (L : List Loc) : Prop := v = none ∧ Fr n0 L ∧ Keep h0 h [b] ∧ ∃ (t : Addr) (kt : ClassId), h0.size ≤ t ∧ (Exa Z h b "java/lang/StringBuilder") ∧ (Fld Z h b "java/lang/AbstractStringBuilder" "value" "[B" (.ref t)) ∧ (Fld Z h b "java/lang/AbstractStringBuilder" "coder" "B" (.int (0 : Int32))) ∧ (Fld Z h b "java/lang/AbstractStringBuilder" "count" "I" (.int (Int32.ofNat 0))) ∧ (Exa Z h t "[B") ∧ (Arv Z h t kt .byte (Int32.ofNat 16) (own_F 16 (fun _ => 0)) (.int (0 : Int32)))
set_option maxRecDepth 65536 in
set_option maxHeartbeats 40000000 in
theorem j_sbinit (l : Launch) (Z : State) (a0 : Array Value) (hw : ∀ d ∈ tables_1, d.before a0 Z = true) (b : Addr) (cz : Int32) (h0 : Heap) (n0 : Nat) (OL : Old Z n0 h0) (SC : Sta Z Z.heap "java/lang/String" "COMPACT_STRINGS" "Z" (.int cz)) (hcz : ¬ cz = 0) (E_b : Exa Z h0 b "java/lang/StringBuilder") (F_value_b : Fld Z h0 b "java/lang/AbstractStringBuilder" "value" "[B" .null) (F_coder_b : Fld Z h0 b "java/lang/AbstractStringBuilder" "coder" "B" (.int (0 : Int32))) (F_count_b : Fld Z h0 b "java/lang/AbstractStringBuilder" "count" "I" (.int (0 : Int32))) (n0_b : n0 ≤ b) :
    own_Met l Z (⟨"java/lang/StringBuilder", "<init>", "()V"⟩ : MethodName) jdk_67_method_1_code 1 none ({ frames := 2, cells := 1, slots := 16, locals := 25 } : Room) #[(.ref b)] h0 (Q_j_sbinit Z b h0 n0) := by
  refine own_body (L0 := #[.val (.ref b)]) (plainFor_of_name (by first | (simp [plainName, overriddenIn]; done) | decide +kernel)) (fun m => by first | (simp [entryFrame, mkF, argsToLocals, Value.category]; done) | rfl) ?_
  intro p e s m below meth c s₁ hx hby hml hZ hown hnm hret hlk X0 e0
  have N0 := Fr.nil n0
  have Z0 : n0 ≤ h0.size := OL.1 ▸ OL.2.1
  show OwnOk p e below _ (s₁.setTop (mkF m 0 #[.val (.ref b)] []))
  have KP0 : Keep h0 h0 [b] := Keep.refl h0 _
  refine own_up (fun tx kx => XS.aloadN X0.here hx rfl (hb hby d4_0) rfl rfl kx) ?_
  show OwnOk p e below _ (s₁.setTop (mkF m 1 #[.val (.ref b)] [(.ref b)]))
  refine own_up (fun tx kx => XS.bipush X0.here hx rfl (hb hby d4_1) kx) ?_
  show OwnOk p e below _ (s₁.setTop (mkF m 3 #[.val (.ref b)] [(.int (16 : Int32)), (.ref b)]))
  refine own_callC X0 hx hZ (y := (⟨"java/lang/AbstractStringBuilder", "<init>", "(I)V"⟩ : MethodName)) rfl hown (wd_24 hw) (wd_25 hw) (wd_28 hw) (wd_29 hw) (by decide) (j_asbinit l Z a0 hw b cz h0 n0 OL SC hcz E_b F_value_b F_coder_b F_count_b n0_b) e0 (argsL := [(.int (16 : Int32))]) (rest := []) (a := b) (by rw [hml]; rfl) (lenOf pd_0 rfl) rfl rfl (W := 0) rfl (hb hby d4_3) (by decide) (by decide) (by decide) (by decide) (fun T11 v11 L11 X11 hQ11 => ?_)
  obtain ⟨rfl, Nq11, Kq11, tt11, kk11, gt11, E_11, fv11, fc11, fn11, et11, vt11⟩ := hQ11
  have N11 := Fr.app N0 Nq11
  have OL11 := OL.keep Kq11 (allS n0_b all0)
  have KP11 := KP0.trans Kq11 (allS (Or.inl (List.mem_of_getElem? (i := 0) rfl)) all0)
  show OwnOk p e below _ (T11.setTop (mkF m 6 #[.val (.ref b)] []))
  refine own_retV X11 hx (show meth.sig.returnType = none from hret) hlk (hb hby d4_6) rfl (Nat.le_of_ble_eq_true rfl) (Nat.le_of_ble_eq_true rfl) ?_
  exact ⟨rfl, N11, KP11, tt11, kk11, gt11, E_11, fv11, fc11, fn11, et11, vt11⟩
def Q_j_lat1 (h0 : Heap) (n0 : Nat) (v : Option Value) (h : Heap) (L : List Loc) : Prop := v = some (.int 1) ∧ Fr n0 L ∧ h = h0
set_option maxRecDepth 65536 in
set_option maxHeartbeats 40000000 in
theorem j_lat1 (l : Launch) (Z : State) (a0 : Array Value) (hw : ∀ d ∈ tables_1, d.before a0 Z = true) (b : Addr) (cz : Int32) (h0 : Heap) (n0 : Nat) (OL : Old Z n0 h0) (SC : Sta Z Z.heap "java/lang/String" "COMPACT_STRINGS" "Z" (.int cz)) (hcz : ¬ cz = 0) (F_coder_b : Fld Z h0 b "java/lang/AbstractStringBuilder" "coder" "B" (.int (0 : Int32))) :
    own_Met l Z (⟨"java/lang/AbstractStringBuilder", "isLatin1", "()Z"⟩ : MethodName) jdk_68_method_68_code 1 (some .boolean) ({ frames := 0, cells := 0, slots := 0, locals := 0 } : Room) #[(.ref b)] h0 (Q_j_lat1 h0 n0) := by
  refine own_body (L0 := #[.val (.ref b)]) (plainFor_of_name (by first | (simp [plainName, overriddenIn]; done) | decide +kernel)) (fun m => by first | (simp [entryFrame, mkF, argsToLocals, Value.category]; done) | rfl) ?_
  intro p e s m below meth c s₁ hx hby hml hZ hown hnm hret hlk X0 e0
  have N0 := Fr.nil n0
  have Z0 : n0 ≤ h0.size := OL.1 ▸ OL.2.1
  show OwnOk p e below _ (s₁.setTop (mkF m 0 #[.val (.ref b)] []))
  obtain ⟨T11, X11, e11, st11⟩ := getS2 X0 hx hZ hown (host := "") (Or.inl (wd_31 hw)) Via.refl e0 (SC.ext OL.2) (g := (mkF m 0 #[.val (.ref b)] [])) rfl (hb hby d10_0)
  refine own_up st11 ?_
  show OwnOk p e below _ (T11.setTop (mkF m 3 #[.val (.ref b)] [(.int cz)]))
  refine own_up (fun tx kx => XS.ifNo X11.here hx rfl (hb hby d10_3) rfl ((if0 _ _).trans (feq hcz).1) kx) ?_
  show OwnOk p e below _ (T11.setTop (mkF m 6 #[.val (.ref b)] []))
  refine own_up (fun tx kx => XS.aloadN X11.here hx rfl (hb hby d10_6) rfl rfl kx) ?_
  show OwnOk p e below _ (T11.setTop (mkF m 7 #[.val (.ref b)] [(.ref b)]))
  obtain ⟨T12, X12, e12, st12⟩ := getF X11 hx hZ hown (host := "") (Or.inl (wd_36 hw)) Via.refl e11 F_coder_b (g := (mkF m 7 #[.val (.ref b)] [(.ref b)])) rfl rfl (hb hby d10_7)
  refine own_up st12 ?_
  show OwnOk p e below _ (T12.setTop (mkF m 10 #[.val (.ref b)] [(.int (0 : Int32))]))
  refine own_up (fun tx kx => XS.ifNo X12.here hx rfl (hb hby d10_10) rfl ((if0 _ _).trans (teq rfl).2) kx) ?_
  show OwnOk p e below _ (T12.setTop (mkF m 13 #[.val (.ref b)] []))
  refine own_up (fun tx kx => XS.iconst X12.here hx rfl (hb hby d10_13) kx) ?_
  show OwnOk p e below _ (T12.setTop (mkF m 14 #[.val (.ref b)] [(.int (1 : Int32))]))
  refine own_up (fun tx kx => XS.goto X12.here hx rfl (pc0 := 14) (pc' := 18) rfl (hb hby d10_14) (by decide) (by decide) kx) ?_
  show OwnOk p e below _ (T12.setTop (mkF m 18 #[.val (.ref b)] [(.int (1 : Int32))]))
  refine own_retN X12 hx (t := .boolean) (show meth.sig.returnType = some .boolean from hret) (by simp) hlk (hb hby d10_18) (z' := (1 : Int32)) rfl e12 (Nat.le_of_ble_eq_true rfl) (Nat.le_of_ble_eq_true rfl) ?_
  exact ⟨rfl, N0, rfl⟩
def Q_j_fits (h0 : Heap) (n0 : Nat) (v : Option Value) (h : Heap) (L : List Loc) : Prop := v = none ∧ Fr n0 L ∧ h = h0
set_option maxRecDepth 65536 in
set_option maxHeartbeats 40000000 in
theorem j_fits (l : Launch) (Z : State) (a0 : Array Value) (hw : ∀ d ∈ tables_1, d.before a0 Z = true) (b t : Addr) (kt : ClassId) (cap : Nat) (f : Nat → Int32) (cnt : Nat) (mn : Nat) (h0 : Heap) (n0 : Nat) (OL : Old Z n0 h0) (E_b : Exa Z h0 b "java/lang/StringBuilder") (F_value_b : Fld Z h0 b "java/lang/AbstractStringBuilder" "value" "[B" (.ref t)) (F_coder_b : Fld Z h0 b "java/lang/AbstractStringBuilder" "coder" "B" (.int (0 : Int32))) (F_count_b : Fld Z h0 b "java/lang/AbstractStringBuilder" "count" "I" (.int (Int32.ofNat cnt))) (E_t : Exa Z h0 t "[B") (V_t : Arv Z h0 t kt .byte (Int32.ofNat cap) (own_F cap f) (.int (0 : Int32))) (n0_b : n0 ≤ b) (n0_t : n0 ≤ t) (ne_b_t : b ≠ t) (hm : mn ≤ cap) (hcap : cap ≤ 4000) :
    own_Met l Z (⟨"java/lang/AbstractStringBuilder", "ensureCapacityInternal", "(I)V"⟩ : MethodName) jdk_68_method_9_code 3 none ({ frames := 0, cells := 0, slots := 0, locals := 0 } : Room) #[(.ref b), (.int (Int32.ofNat mn))] h0 (Q_j_fits h0 n0) := by
  refine own_body (L0 := #[.val (.ref b), .val (.int (Int32.ofNat mn)), .unset]) (plainFor_of_name (by first | (simp [plainName, overriddenIn]; done) | decide +kernel)) (fun m => by first | (simp [entryFrame, mkF, argsToLocals, Value.category]; done) | rfl) ?_
  intro p e s m below meth c s₁ hx hby hml hZ hown hnm hret hlk X0 e0
  have N0 := Fr.nil n0
  have Z0 : n0 ≤ h0.size := OL.1 ▸ OL.2.1
  show OwnOk p e below _ (s₁.setTop (mkF m 0 #[.val (.ref b), .val (.int (Int32.ofNat mn)), .unset] []))
  refine own_up (fun tx kx => XS.aloadN X0.here hx rfl (hb hby d9_0) rfl rfl kx) ?_
  show OwnOk p e below _ (s₁.setTop (mkF m 1 #[.val (.ref b), .val (.int (Int32.ofNat mn)), .unset] [(.ref b)]))
  obtain ⟨T11, X11, e11, st11⟩ := getF X0 hx hZ hown (host := "") (Or.inl (wd_34 hw)) Via.refl e0 F_value_b (g := (mkF m 1 #[.val (.ref b), .val (.int (Int32.ofNat mn)), .unset] [(.ref b)])) rfl rfl (hb hby d9_1)
  refine own_up st11 ?_
  show OwnOk p e below _ (T11.setTop (mkF m 4 #[.val (.ref b), .val (.int (Int32.ofNat mn)), .unset] [(.ref t)]))
  obtain ⟨cl12, Ar12, qc12, Sz12, Nn12, Hs12, Gf12⟩ := id V_t
  have hlen12 : cl12.slots.size.toInt32 = (Int32.ofNat cap) := len_of Sz12 Nn12
  refine own_up (fun tx kx => X11.arraylength hx (own_ar e11 Ar12.1) (State.isArrayOf_alike hZ.alike Ar12.2.1) (g := (mkF m 4 #[.val (.ref b), .val (.int (Int32.ofNat mn)), .unset] [(.ref t)])) rfl rfl (hb hby d9_4) _ kx) ?_
  rw [hlen12]
  show OwnOk p e below _ (T11.setTop (mkF m 5 #[.val (.ref b), .val (.int (Int32.ofNat mn)), .unset] [(.int (Int32.ofNat cap))]))
  refine own_up (fun tx kx => XS.aloadN X11.here hx rfl (hb hby d9_5) rfl rfl kx) ?_
  show OwnOk p e below _ (T11.setTop (mkF m 6 #[.val (.ref b), .val (.int (Int32.ofNat mn)), .unset] [(.ref b), (.int (Int32.ofNat cap))]))
  obtain ⟨T13, X13, e13, st13⟩ := getF X11 hx hZ hown (host := "") (Or.inl (wd_36 hw)) Via.refl e11 F_coder_b (g := (mkF m 6 #[.val (.ref b), .val (.int (Int32.ofNat mn)), .unset] [(.ref b), (.int (Int32.ofNat cap))])) rfl rfl (hb hby d9_6)
  refine own_up st13 ?_
  show OwnOk p e below _ (T13.setTop (mkF m 9 #[.val (.ref b), .val (.int (Int32.ofNat mn)), .unset] [(.int (0 : Int32)), (.int (Int32.ofNat cap))]))
  refine own_up (fun tx kx => XS.ishr X13.here hx rfl (hb hby d9_9) rfl kx) ?_
  show OwnOk p e below _ (T13.setTop (mkF m 10 #[.val (.ref b), .val (.int (Int32.ofNat mn)), .unset] [(.int ((Int32.ofNat cap) >>> ((0 : Int32) &&& 31)))]))
  rw [show ((Int32.ofNat cap) >>> ((0 : Int32) &&& 31)) = (Int32.ofNat cap) from own_shr0 (Int32.ofNat cap)]
  show OwnOk p e below _ (T13.setTop (mkF m 10 #[.val (.ref b), .val (.int (Int32.ofNat mn)), .unset] [(.int (Int32.ofNat cap))]))
  refine own_up (fun tx kx => XS.istoreN X13.here hx rfl (hb hby d9_10) rfl (l' := #[.val (.ref b), .val (.int (Int32.ofNat mn)), .val (.int (Int32.ofNat cap))]) rfl kx) ?_
  show OwnOk p e below _ (T13.setTop (mkF m 11 #[.val (.ref b), .val (.int (Int32.ofNat mn)), .val (.int (Int32.ofNat cap))] []))
  refine own_up (fun tx kx => XS.iloadN X13.here hx rfl (hb hby d9_11) rfl kx) ?_
  show OwnOk p e below _ (T13.setTop (mkF m 12 #[.val (.ref b), .val (.int (Int32.ofNat mn)), .val (.int (Int32.ofNat cap))] [(.int (Int32.ofNat mn))]))
  refine own_up (fun tx kx => XS.iloadN X13.here hx rfl (hb hby d9_12) rfl kx) ?_
  show OwnOk p e below _ (T13.setTop (mkF m 13 #[.val (.ref b), .val (.int (Int32.ofNat mn)), .val (.int (Int32.ofNat cap))] [(.int (Int32.ofNat cap)), (.int (Int32.ofNat mn))]))
  refine own_up (fun tx kx => XS.isub X13.here hx rfl (hb hby d9_13) rfl kx) ?_
  show OwnOk p e below _ (T13.setTop (mkF m 14 #[.val (.ref b), .val (.int (Int32.ofNat mn)), .val (.int (Int32.ofNat cap))] [(.int ((Int32.ofNat mn) - (Int32.ofNat cap)))]))
  refine own_up (fun tx kx => XS.ifYes X13.here hx rfl (pc0 := 14) (pc' := 38) rfl (hb hby d9_14) rfl ((if0 _ _).trans (flt (own_sub_le hm (by omega))).2.2.2) (by decide) (by decide) kx) ?_
  show OwnOk p e below _ (T13.setTop (mkF m 38 #[.val (.ref b), .val (.int (Int32.ofNat mn)), .val (.int (Int32.ofNat cap))] []))
  refine own_retV X13 hx (show meth.sig.returnType = none from hret) hlk (hb hby d9_38) e13 (Nat.le_of_ble_eq_true rfl) (Nat.le_of_ble_eq_true rfl) ?_
  exact ⟨rfl, N0, rfl⟩
def Q_j_min (x y : Int32) (h0 : Heap) (n0 : Nat) (v : Option Value) (h : Heap) (L : List Loc) : Prop := v = some (.int (if y < x then y else x)) ∧ Fr n0 L ∧ h = h0
set_option maxRecDepth 65536 in
set_option maxHeartbeats 40000000 in
theorem j_min (l : Launch) (Z : State) (a0 : Array Value) (hw : ∀ d ∈ tables_1, d.before a0 Z = true) (x y : Int32) (h0 : Heap) (n0 : Nat) (OL : Old Z n0 h0)  :
    own_Met l Z (⟨"java/lang/Math", "min", "(II)I"⟩ : MethodName) jdk_29_method_69_code 2 (some .int) ({ frames := 0, cells := 0, slots := 0, locals := 0 } : Room) #[(.int x), (.int y)] h0 (Q_j_min x y h0 n0) := by
  refine own_body (L0 := #[.val (.int x), .val (.int y)]) (by decide +kernel) (fun m => by first | (simp [entryFrame, mkF, argsToLocals, Value.category]; done) | rfl) ?_
  intro p e s m below meth c s₁ hx hby hml hZ hown hnm hret hlk X0 e0
  have N0 := Fr.nil n0
  have Z0 : n0 ≤ h0.size := OL.1 ▸ OL.2.1
  show OwnOk p e below _ (s₁.setTop (mkF m 0 #[.val (.int x), .val (.int y)] []))
  refine own_up (fun tx kx => XS.iloadN X0.here hx rfl (hb hby d28_0) rfl kx) ?_
  show OwnOk p e below _ (s₁.setTop (mkF m 1 #[.val (.int x), .val (.int y)] [(.int x)]))
  refine own_up (fun tx kx => XS.iloadN X0.here hx rfl (hb hby d28_1) rfl kx) ?_
  show OwnOk p e below _ (s₁.setTop (mkF m 2 #[.val (.int x), .val (.int y)] [(.int y), (.int x)]))
  by_cases hk : y < x
  · refine own_up (fun tx kx => XS.icmpYes X0.here hx rfl (pc0 := 2) (pc' := 9) rfl (hb hby d28_2) rfl (tlt hk).2.2.1 (by decide) (by decide) kx) ?_
    show OwnOk p e below _ (s₁.setTop (mkF m 9 #[.val (.int x), .val (.int y)] []))
    refine own_up (fun tx kx => XS.iloadN X0.here hx rfl (hb hby d28_9) rfl kx) ?_
    show OwnOk p e below _ (s₁.setTop (mkF m 10 #[.val (.int x), .val (.int y)] [(.int y)]))
    refine own_retI X0 hx (show meth.sig.returnType = some .int from hret) hlk (hb hby d28_10) e0 (Nat.le_of_ble_eq_true rfl) (Nat.le_of_ble_eq_true rfl) ?_
    exact ⟨by rw [if_pos hk], N0, rfl⟩
  · refine own_up (fun tx kx => XS.icmpNo X0.here hx rfl (hb hby d28_2) rfl (flt hk).2.2.1 kx) ?_
    show OwnOk p e below _ (s₁.setTop (mkF m 5 #[.val (.int x), .val (.int y)] []))
    refine own_up (fun tx kx => XS.iloadN X0.here hx rfl (hb hby d28_5) rfl kx) ?_
    show OwnOk p e below _ (s₁.setTop (mkF m 6 #[.val (.int x), .val (.int y)] [(.int x)]))
    refine own_up (fun tx kx => XS.goto X0.here hx rfl (pc0 := 6) (pc' := 10) rfl (hb hby d28_6) (by decide) (by decide) kx) ?_
    show OwnOk p e below _ (s₁.setTop (mkF m 10 #[.val (.int x), .val (.int y)] [(.int x)]))
    refine own_retI X0 hx (show meth.sig.returnType = some .int from hret) hlk (hb hby d28_10) e0 (Nat.le_of_ble_eq_true rfl) (Nat.le_of_ble_eq_true rfl) ?_
    exact ⟨by rw [if_neg hk], N0, rfl⟩
def Q_j_max (x y : Int32) (h0 : Heap) (n0 : Nat) (v : Option Value) (h : Heap) (L : List Loc) : Prop := v = some (.int (if x < y then y else x)) ∧ Fr n0 L ∧ h = h0
set_option maxRecDepth 65536 in
set_option maxHeartbeats 40000000 in
theorem j_max (l : Launch) (Z : State) (a0 : Array Value) (hw : ∀ d ∈ tables_1, d.before a0 Z = true) (x y : Int32) (h0 : Heap) (n0 : Nat) (OL : Old Z n0 h0)  :
    own_Met l Z (⟨"java/lang/Math", "max", "(II)I"⟩ : MethodName) jdk_29_method_65_code 2 (some .int) ({ frames := 0, cells := 0, slots := 0, locals := 0 } : Room) #[(.int x), (.int y)] h0 (Q_j_max x y h0 n0) := by
  refine own_body (L0 := #[.val (.int x), .val (.int y)]) (by decide +kernel) (fun m => by first | (simp [entryFrame, mkF, argsToLocals, Value.category]; done) | rfl) ?_
  intro p e s m below meth c s₁ hx hby hml hZ hown hnm hret hlk X0 e0
  have N0 := Fr.nil n0
  have Z0 : n0 ≤ h0.size := OL.1 ▸ OL.2.1
  show OwnOk p e below _ (s₁.setTop (mkF m 0 #[.val (.int x), .val (.int y)] []))
  refine own_up (fun tx kx => XS.iloadN X0.here hx rfl (hb hby d42_0) rfl kx) ?_
  show OwnOk p e below _ (s₁.setTop (mkF m 1 #[.val (.int x), .val (.int y)] [(.int x)]))
  refine own_up (fun tx kx => XS.iloadN X0.here hx rfl (hb hby d42_1) rfl kx) ?_
  show OwnOk p e below _ (s₁.setTop (mkF m 2 #[.val (.int x), .val (.int y)] [(.int y), (.int x)]))
  by_cases hk : x < y
  · refine own_up (fun tx kx => XS.icmpYes X0.here hx rfl (pc0 := 2) (pc' := 9) rfl (hb hby d42_2) rfl (tlt hk).1 (by decide) (by decide) kx) ?_
    show OwnOk p e below _ (s₁.setTop (mkF m 9 #[.val (.int x), .val (.int y)] []))
    refine own_up (fun tx kx => XS.iloadN X0.here hx rfl (hb hby d42_9) rfl kx) ?_
    show OwnOk p e below _ (s₁.setTop (mkF m 10 #[.val (.int x), .val (.int y)] [(.int y)]))
    refine own_retI X0 hx (show meth.sig.returnType = some .int from hret) hlk (hb hby d42_10) e0 (Nat.le_of_ble_eq_true rfl) (Nat.le_of_ble_eq_true rfl) ?_
    exact ⟨by rw [if_pos hk], N0, rfl⟩
  · refine own_up (fun tx kx => XS.icmpNo X0.here hx rfl (hb hby d42_2) rfl (flt hk).1 kx) ?_
    show OwnOk p e below _ (s₁.setTop (mkF m 5 #[.val (.int x), .val (.int y)] []))
    refine own_up (fun tx kx => XS.iloadN X0.here hx rfl (hb hby d42_5) rfl kx) ?_
    show OwnOk p e below _ (s₁.setTop (mkF m 6 #[.val (.int x), .val (.int y)] [(.int x)]))
    refine own_up (fun tx kx => XS.goto X0.here hx rfl (pc0 := 6) (pc' := 10) rfl (hb hby d42_6) (by decide) (by decide) kx) ?_
    show OwnOk p e below _ (s₁.setTop (mkF m 10 #[.val (.int x), .val (.int y)] [(.int x)]))
    refine own_retI X0 hx (show meth.sig.returnType = some .int from hret) hlk (hb hby d42_10) e0 (Nat.le_of_ble_eq_true rfl) (Nat.le_of_ble_eq_true rfl) ?_
    exact ⟨by rw [if_neg hk], N0, rfl⟩
def Q_j_newLen (h0 : Heap) (n0 : Nat) (v : Option Value) (h : Heap) (L : List Loc) : Prop := v = some (.int 34) ∧ Fr n0 L ∧ h = h0
set_option maxRecDepth 65536 in
set_option maxHeartbeats 40000000 in
theorem j_newLen (l : Launch) (Z : State) (a0 : Array Value) (hw : ∀ d ∈ tables_1, d.before a0 Z = true) (g : Nat) (h0 : Heap) (n0 : Nat) (OL : Old Z n0 h0) (hg : g ≤ 18) :
    own_Met l Z (⟨"jdk/internal/util/ArraysSupport", "newLength", "(III)I"⟩ : MethodName) jdk_48_method_27_code 4 (some .int) ({ frames := 1, cells := 0, slots := 0, locals := 14 } : Room) #[(.int (Int32.ofNat 16)), (.int (Int32.ofNat g)), (.int (18 : Int32))] h0 (Q_j_newLen h0 n0) := by
  refine own_body (L0 := #[.val (.int (Int32.ofNat 16)), .val (.int (Int32.ofNat g)), .val (.int (18 : Int32)), .unset]) (plainFor_of_name (by first | (simp [plainName, overriddenIn]; done) | decide +kernel)) (fun m => by first | (simp [entryFrame, mkF, argsToLocals, Value.category]; done) | rfl) ?_
  intro p e s m below meth c s₁ hx hby hml hZ hown hnm hret hlk X0 e0
  have N0 := Fr.nil n0
  have Z0 : n0 ≤ h0.size := OL.1 ▸ OL.2.1
  show OwnOk p e below _ (s₁.setTop (mkF m 0 #[.val (.int (Int32.ofNat 16)), .val (.int (Int32.ofNat g)), .val (.int (18 : Int32)), .unset] []))
  refine own_up (fun tx kx => XS.iloadN X0.here hx rfl (hb hby d41_0) rfl kx) ?_
  show OwnOk p e below _ (s₁.setTop (mkF m 1 #[.val (.int (Int32.ofNat 16)), .val (.int (Int32.ofNat g)), .val (.int (18 : Int32)), .unset] [(.int (Int32.ofNat 16))]))
  refine own_up (fun tx kx => XS.iloadN X0.here hx rfl (hb hby d41_1) rfl kx) ?_
  show OwnOk p e below _ (s₁.setTop (mkF m 2 #[.val (.int (Int32.ofNat 16)), .val (.int (Int32.ofNat g)), .val (.int (18 : Int32)), .unset] [(.int (Int32.ofNat g)), (.int (Int32.ofNat 16))]))
  refine own_up (fun tx kx => XS.iloadN X0.here hx rfl (hb hby d41_2) rfl kx) ?_
  show OwnOk p e below _ (s₁.setTop (mkF m 3 #[.val (.int (Int32.ofNat 16)), .val (.int (Int32.ofNat g)), .val (.int (18 : Int32)), .unset] [(.int (18 : Int32)), (.int (Int32.ofNat g)), (.int (Int32.ofNat 16))]))
  refine own_callS X0 hx hZ (y := (⟨"java/lang/Math", "max", "(II)I"⟩ : MethodName)) hown (wd_216 hw) (wd_217 hw) (wd_156 hw) (wd_218 hw) (by decide) (j_max l Z a0 hw (Int32.ofNat g) (18 : Int32) h0 n0 OL) e0 (argsL := [(.int (Int32.ofNat g)), (.int (18 : Int32))]) (rest := [(.int (Int32.ofNat 16))]) (by rw [hml]; rfl) (lenOf pd_1 rfl) rfl rfl (W := 1) rfl (hb hby d41_3) (by decide) (by decide) (by decide) (by decide) (fun T11 v11 L11 X11 hQ11 => ?_)
  obtain ⟨rfl, Nq11, hh11⟩ := hQ11
  have N11 := Fr.app N0 Nq11
  show OwnOk p e below _ (T11.setTop (mkF m 6 #[.val (.int (Int32.ofNat 16)), .val (.int (Int32.ofNat g)), .val (.int (18 : Int32)), .unset] [(.int (if (Int32.ofNat g) < (18 : Int32) then (18 : Int32) else (Int32.ofNat g))), (.int (Int32.ofNat 16))]))
  rw [show (if (Int32.ofNat g) < (18 : Int32) then (18 : Int32) else (Int32.ofNat g)) = (18 : Int32) from own_max18 hg]
  show OwnOk p e below _ (T11.setTop (mkF m 6 #[.val (.int (Int32.ofNat 16)), .val (.int (Int32.ofNat g)), .val (.int (18 : Int32)), .unset] [(.int (18 : Int32)), (.int (Int32.ofNat 16))]))
  refine own_up (fun tx kx => XS.iadd X11.here hx rfl (hb hby d41_6) rfl kx) ?_
  show OwnOk p e below _ (T11.setTop (mkF m 7 #[.val (.int (Int32.ofNat 16)), .val (.int (Int32.ofNat g)), .val (.int (18 : Int32)), .unset] [(.int ((Int32.ofNat 16) + (18 : Int32)))]))
  rw [show ((Int32.ofNat 16) + (18 : Int32)) = (34 : Int32) from (by decide : ((Int32.ofNat 16) + (18 : Int32)) = (34 : Int32))]
  show OwnOk p e below _ (T11.setTop (mkF m 7 #[.val (.int (Int32.ofNat 16)), .val (.int (Int32.ofNat g)), .val (.int (18 : Int32)), .unset] [(.int (34 : Int32))]))
  refine own_up (fun tx kx => XS.istoreN X11.here hx rfl (hb hby d41_7) rfl (l' := #[.val (.int (Int32.ofNat 16)), .val (.int (Int32.ofNat g)), .val (.int (18 : Int32)), .val (.int (34 : Int32))]) rfl kx) ?_
  show OwnOk p e below _ (T11.setTop (mkF m 8 #[.val (.int (Int32.ofNat 16)), .val (.int (Int32.ofNat g)), .val (.int (18 : Int32)), .val (.int (34 : Int32))] []))
  refine own_up (fun tx kx => XS.iconst X11.here hx rfl (hb hby d41_8) kx) ?_
  show OwnOk p e below _ (T11.setTop (mkF m 9 #[.val (.int (Int32.ofNat 16)), .val (.int (Int32.ofNat g)), .val (.int (18 : Int32)), .val (.int (34 : Int32))] [(.int (0 : Int32))]))
  refine own_up (fun tx kx => XS.iloadN X11.here hx rfl (hb hby d41_9) rfl kx) ?_
  show OwnOk p e below _ (T11.setTop (mkF m 10 #[.val (.int (Int32.ofNat 16)), .val (.int (Int32.ofNat g)), .val (.int (18 : Int32)), .val (.int (34 : Int32))] [(.int (34 : Int32)), (.int (0 : Int32))]))
  refine own_up (fun tx kx => XS.icmpNo X11.here hx rfl (hb hby d41_10) rfl (tlt (by decide)).2.1 kx) ?_
  show OwnOk p e below _ (T11.setTop (mkF m 13 #[.val (.int (Int32.ofNat 16)), .val (.int (Int32.ofNat g)), .val (.int (18 : Int32)), .val (.int (34 : Int32))] []))
  refine own_up (fun tx kx => XS.iloadN X11.here hx rfl (hb hby d41_13) rfl kx) ?_
  show OwnOk p e below _ (T11.setTop (mkF m 14 #[.val (.int (Int32.ofNat 16)), .val (.int (Int32.ofNat g)), .val (.int (18 : Int32)), .val (.int (34 : Int32))] [(.int (34 : Int32))]))
  refine own_up (fun tx kx => X11.ldcInt hx hown (mvT hZ (wd_219 hw)) (g := (mkF m 14 #[.val (.int (Int32.ofNat 16)), .val (.int (Int32.ofNat g)), .val (.int (18 : Int32)), .val (.int (34 : Int32))] [(.int (34 : Int32))])) rfl (hb hby d41_14) _ kx) ?_
  show OwnOk p e below _ (T11.setTop (mkF m 16 #[.val (.int (Int32.ofNat 16)), .val (.int (Int32.ofNat g)), .val (.int (18 : Int32)), .val (.int (34 : Int32))] [(.int (2147483639 : Int32)), (.int (34 : Int32))]))
  refine own_up (fun tx kx => XS.icmpNo X11.here hx rfl (hb hby d41_16) rfl (flt (by decide)).2.2.1 kx) ?_
  show OwnOk p e below _ (T11.setTop (mkF m 19 #[.val (.int (Int32.ofNat 16)), .val (.int (Int32.ofNat g)), .val (.int (18 : Int32)), .val (.int (34 : Int32))] []))
  refine own_up (fun tx kx => XS.iloadN X11.here hx rfl (hb hby d41_19) rfl kx) ?_
  show OwnOk p e below _ (T11.setTop (mkF m 20 #[.val (.int (Int32.ofNat 16)), .val (.int (Int32.ofNat g)), .val (.int (18 : Int32)), .val (.int (34 : Int32))] [(.int (34 : Int32))]))
  refine own_retI X11 hx (show meth.sig.returnType = some .int from hret) hlk (hb hby d41_20) hh11 (Nat.le_of_ble_eq_true rfl) (Nat.le_of_ble_eq_true rfl) ?_
  exact ⟨rfl, N11, rfl⟩
def Q_j_newCap (h0 : Heap) (n0 : Nat) (v : Option Value) (h : Heap) (L : List Loc) : Prop := v = some (.int 34) ∧ Fr n0 L ∧ h = h0
set_option maxRecDepth 65536 in
set_option maxHeartbeats 40000000 in
theorem j_newCap (l : Launch) (Z : State) (a0 : Array Value) (hw : ∀ d ∈ tables_1, d.before a0 Z = true) (b t : Addr) (kt : ClassId) (f : Nat → Int32) (cnt : Nat) (mn : Nat) (h0 : Heap) (n0 : Nat) (OL : Old Z n0 h0) (E_b : Exa Z h0 b "java/lang/StringBuilder") (F_value_b : Fld Z h0 b "java/lang/AbstractStringBuilder" "value" "[B" (.ref t)) (F_coder_b : Fld Z h0 b "java/lang/AbstractStringBuilder" "coder" "B" (.int (0 : Int32))) (F_count_b : Fld Z h0 b "java/lang/AbstractStringBuilder" "count" "I" (.int (Int32.ofNat cnt))) (E_t : Exa Z h0 t "[B") (V_t : Arv Z h0 t kt .byte (Int32.ofNat 16) (own_F 16 f) (.int (0 : Int32))) (n0_b : n0 ≤ b) (n0_t : n0 ≤ t) (ne_b_t : b ≠ t) (hm : 16 < mn) (hm2 : mn ≤ 34) :
    own_Met l Z (⟨"java/lang/AbstractStringBuilder", "newCapacity", "(I)I"⟩ : MethodName) jdk_68_method_10_code 6 (some .int) ({ frames := 2, cells := 0, slots := 0, locals := 29 } : Room) #[(.ref b), (.int (Int32.ofNat mn))] h0 (Q_j_newCap h0 n0) := by
  refine own_body (L0 := #[.val (.ref b), .val (.int (Int32.ofNat mn)), .unset, .unset, .unset, .unset]) (plainFor_of_name (by first | (simp [plainName, overriddenIn]; done) | decide +kernel)) (fun m => by first | (simp [entryFrame, mkF, argsToLocals, Value.category]; done) | rfl) ?_
  intro p e s m below meth c s₁ hx hby hml hZ hown hnm hret hlk X0 e0
  have N0 := Fr.nil n0
  have Z0 : n0 ≤ h0.size := OL.1 ▸ OL.2.1
  show OwnOk p e below _ (s₁.setTop (mkF m 0 #[.val (.ref b), .val (.int (Int32.ofNat mn)), .unset, .unset, .unset, .unset] []))
  refine own_up (fun tx kx => XS.aloadN X0.here hx rfl (hb hby d40_0) rfl rfl kx) ?_
  show OwnOk p e below _ (s₁.setTop (mkF m 1 #[.val (.ref b), .val (.int (Int32.ofNat mn)), .unset, .unset, .unset, .unset] [(.ref b)]))
  obtain ⟨T11, X11, e11, st11⟩ := getF X0 hx hZ hown (host := "") (Or.inl (wd_34 hw)) Via.refl e0 F_value_b (g := (mkF m 1 #[.val (.ref b), .val (.int (Int32.ofNat mn)), .unset, .unset, .unset, .unset] [(.ref b)])) rfl rfl (hb hby d40_1)
  refine own_up st11 ?_
  show OwnOk p e below _ (T11.setTop (mkF m 4 #[.val (.ref b), .val (.int (Int32.ofNat mn)), .unset, .unset, .unset, .unset] [(.ref t)]))
  obtain ⟨cl12, Ar12, qc12, Sz12, Nn12, Hs12, Gf12⟩ := id V_t
  have hlen12 : cl12.slots.size.toInt32 = (Int32.ofNat 16) := len_of Sz12 Nn12
  refine own_up (fun tx kx => X11.arraylength hx (own_ar e11 Ar12.1) (State.isArrayOf_alike hZ.alike Ar12.2.1) (g := (mkF m 4 #[.val (.ref b), .val (.int (Int32.ofNat mn)), .unset, .unset, .unset, .unset] [(.ref t)])) rfl rfl (hb hby d40_4) _ kx) ?_
  rw [hlen12]
  show OwnOk p e below _ (T11.setTop (mkF m 5 #[.val (.ref b), .val (.int (Int32.ofNat mn)), .unset, .unset, .unset, .unset] [(.int (Int32.ofNat 16))]))
  refine own_up (fun tx kx => XS.istoreN X11.here hx rfl (hb hby d40_5) rfl (l' := #[.val (.ref b), .val (.int (Int32.ofNat mn)), .val (.int (Int32.ofNat 16)), .unset, .unset, .unset]) rfl kx) ?_
  show OwnOk p e below _ (T11.setTop (mkF m 6 #[.val (.ref b), .val (.int (Int32.ofNat mn)), .val (.int (Int32.ofNat 16)), .unset, .unset, .unset] []))
  refine own_up (fun tx kx => XS.iloadN X11.here hx rfl (hb hby d40_6) rfl kx) ?_
  show OwnOk p e below _ (T11.setTop (mkF m 7 #[.val (.ref b), .val (.int (Int32.ofNat mn)), .val (.int (Int32.ofNat 16)), .unset, .unset, .unset] [(.int (Int32.ofNat mn))]))
  refine own_up (fun tx kx => XS.aloadN X11.here hx rfl (hb hby d40_7) rfl rfl kx) ?_
  show OwnOk p e below _ (T11.setTop (mkF m 8 #[.val (.ref b), .val (.int (Int32.ofNat mn)), .val (.int (Int32.ofNat 16)), .unset, .unset, .unset] [(.ref b), (.int (Int32.ofNat mn))]))
  obtain ⟨T13, X13, e13, st13⟩ := getF X11 hx hZ hown (host := "") (Or.inl (wd_36 hw)) Via.refl e11 F_coder_b (g := (mkF m 8 #[.val (.ref b), .val (.int (Int32.ofNat mn)), .val (.int (Int32.ofNat 16)), .unset, .unset, .unset] [(.ref b), (.int (Int32.ofNat mn))])) rfl rfl (hb hby d40_8)
  refine own_up st13 ?_
  show OwnOk p e below _ (T13.setTop (mkF m 11 #[.val (.ref b), .val (.int (Int32.ofNat mn)), .val (.int (Int32.ofNat 16)), .unset, .unset, .unset] [(.int (0 : Int32)), (.int (Int32.ofNat mn))]))
  refine own_up (fun tx kx => XS.ishl X13.here hx rfl (hb hby d40_11) rfl kx) ?_
  show OwnOk p e below _ (T13.setTop (mkF m 12 #[.val (.ref b), .val (.int (Int32.ofNat mn)), .val (.int (Int32.ofNat 16)), .unset, .unset, .unset] [(.int ((Int32.ofNat mn) <<< ((0 : Int32) &&& 31)))]))
  rw [show ((Int32.ofNat mn) <<< ((0 : Int32) &&& 31)) = (Int32.ofNat mn) from own_shl0 (Int32.ofNat mn)]
  show OwnOk p e below _ (T13.setTop (mkF m 12 #[.val (.ref b), .val (.int (Int32.ofNat mn)), .val (.int (Int32.ofNat 16)), .unset, .unset, .unset] [(.int (Int32.ofNat mn))]))
  refine own_up (fun tx kx => XS.istoreN X13.here hx rfl (hb hby d40_12) rfl (l' := #[.val (.ref b), .val (.int (Int32.ofNat mn)), .val (.int (Int32.ofNat 16)), .val (.int (Int32.ofNat mn)), .unset, .unset]) rfl kx) ?_
  show OwnOk p e below _ (T13.setTop (mkF m 13 #[.val (.ref b), .val (.int (Int32.ofNat mn)), .val (.int (Int32.ofNat 16)), .val (.int (Int32.ofNat mn)), .unset, .unset] []))
  refine own_up (fun tx kx => XS.iloadN X13.here hx rfl (hb hby d40_13) rfl kx) ?_
  show OwnOk p e below _ (T13.setTop (mkF m 14 #[.val (.ref b), .val (.int (Int32.ofNat mn)), .val (.int (Int32.ofNat 16)), .val (.int (Int32.ofNat mn)), .unset, .unset] [(.int (Int32.ofNat mn))]))
  refine own_up (fun tx kx => XS.iloadN X13.here hx rfl (hb hby d40_14) rfl kx) ?_
  show OwnOk p e below _ (T13.setTop (mkF m 15 #[.val (.ref b), .val (.int (Int32.ofNat mn)), .val (.int (Int32.ofNat 16)), .val (.int (Int32.ofNat mn)), .unset, .unset] [(.int (Int32.ofNat 16)), (.int (Int32.ofNat mn))]))
  refine own_up (fun tx kx => XS.isub X13.here hx rfl (hb hby d40_15) rfl kx) ?_
  show OwnOk p e below _ (T13.setTop (mkF m 16 #[.val (.ref b), .val (.int (Int32.ofNat mn)), .val (.int (Int32.ofNat 16)), .val (.int (Int32.ofNat mn)), .unset, .unset] [(.int ((Int32.ofNat mn) - (Int32.ofNat 16)))]))
  rw [show ((Int32.ofNat mn) - (Int32.ofNat 16)) = (Int32.ofNat (mn - 16)) from (Int32.ofNat_sub mn 16 (by omega)).symm]
  show OwnOk p e below _ (T13.setTop (mkF m 16 #[.val (.ref b), .val (.int (Int32.ofNat mn)), .val (.int (Int32.ofNat 16)), .val (.int (Int32.ofNat mn)), .unset, .unset] [(.int (Int32.ofNat (mn - 16)))]))
  refine own_up (fun tx kx => XS.istore X13.here hx rfl (hb hby d40_16) rfl (l' := #[.val (.ref b), .val (.int (Int32.ofNat mn)), .val (.int (Int32.ofNat 16)), .val (.int (Int32.ofNat mn)), .val (.int (Int32.ofNat (mn - 16))), .unset]) rfl kx) ?_
  show OwnOk p e below _ (T13.setTop (mkF m 18 #[.val (.ref b), .val (.int (Int32.ofNat mn)), .val (.int (Int32.ofNat 16)), .val (.int (Int32.ofNat mn)), .val (.int (Int32.ofNat (mn - 16))), .unset] []))
  refine own_up (fun tx kx => XS.iloadN X13.here hx rfl (hb hby d40_18) rfl kx) ?_
  show OwnOk p e below _ (T13.setTop (mkF m 19 #[.val (.ref b), .val (.int (Int32.ofNat mn)), .val (.int (Int32.ofNat 16)), .val (.int (Int32.ofNat mn)), .val (.int (Int32.ofNat (mn - 16))), .unset] [(.int (Int32.ofNat 16))]))
  refine own_up (fun tx kx => XS.iload X13.here hx rfl (hb hby d40_19) rfl kx) ?_
  show OwnOk p e below _ (T13.setTop (mkF m 21 #[.val (.ref b), .val (.int (Int32.ofNat mn)), .val (.int (Int32.ofNat 16)), .val (.int (Int32.ofNat mn)), .val (.int (Int32.ofNat (mn - 16))), .unset] [(.int (Int32.ofNat (mn - 16))), (.int (Int32.ofNat 16))]))
  refine own_up (fun tx kx => XS.iloadN X13.here hx rfl (hb hby d40_21) rfl kx) ?_
  show OwnOk p e below _ (T13.setTop (mkF m 22 #[.val (.ref b), .val (.int (Int32.ofNat mn)), .val (.int (Int32.ofNat 16)), .val (.int (Int32.ofNat mn)), .val (.int (Int32.ofNat (mn - 16))), .unset] [(.int (Int32.ofNat 16)), (.int (Int32.ofNat (mn - 16))), (.int (Int32.ofNat 16))]))
  refine own_up (fun tx kx => XS.iconst X13.here hx rfl (hb hby d40_22) kx) ?_
  show OwnOk p e below _ (T13.setTop (mkF m 23 #[.val (.ref b), .val (.int (Int32.ofNat mn)), .val (.int (Int32.ofNat 16)), .val (.int (Int32.ofNat mn)), .val (.int (Int32.ofNat (mn - 16))), .unset] [(.int (2 : Int32)), (.int (Int32.ofNat 16)), (.int (Int32.ofNat (mn - 16))), (.int (Int32.ofNat 16))]))
  refine own_up (fun tx kx => XS.aloadN X13.here hx rfl (hb hby d40_23) rfl rfl kx) ?_
  show OwnOk p e below _ (T13.setTop (mkF m 24 #[.val (.ref b), .val (.int (Int32.ofNat mn)), .val (.int (Int32.ofNat 16)), .val (.int (Int32.ofNat mn)), .val (.int (Int32.ofNat (mn - 16))), .unset] [(.ref b), (.int (2 : Int32)), (.int (Int32.ofNat 16)), (.int (Int32.ofNat (mn - 16))), (.int (Int32.ofNat 16))]))
  obtain ⟨T14, X14, e14, st14⟩ := getF X13 hx hZ hown (host := "") (Or.inl (wd_36 hw)) Via.refl e13 F_coder_b (g := (mkF m 24 #[.val (.ref b), .val (.int (Int32.ofNat mn)), .val (.int (Int32.ofNat 16)), .val (.int (Int32.ofNat mn)), .val (.int (Int32.ofNat (mn - 16))), .unset] [(.ref b), (.int (2 : Int32)), (.int (Int32.ofNat 16)), (.int (Int32.ofNat (mn - 16))), (.int (Int32.ofNat 16))])) rfl rfl (hb hby d40_24)
  refine own_up st14 ?_
  show OwnOk p e below _ (T14.setTop (mkF m 27 #[.val (.ref b), .val (.int (Int32.ofNat mn)), .val (.int (Int32.ofNat 16)), .val (.int (Int32.ofNat mn)), .val (.int (Int32.ofNat (mn - 16))), .unset] [(.int (0 : Int32)), (.int (2 : Int32)), (.int (Int32.ofNat 16)), (.int (Int32.ofNat (mn - 16))), (.int (Int32.ofNat 16))]))
  refine own_up (fun tx kx => XS.ishl X14.here hx rfl (hb hby d40_27) rfl kx) ?_
  show OwnOk p e below _ (T14.setTop (mkF m 28 #[.val (.ref b), .val (.int (Int32.ofNat mn)), .val (.int (Int32.ofNat 16)), .val (.int (Int32.ofNat mn)), .val (.int (Int32.ofNat (mn - 16))), .unset] [(.int ((2 : Int32) <<< ((0 : Int32) &&& 31))), (.int (Int32.ofNat 16)), (.int (Int32.ofNat (mn - 16))), (.int (Int32.ofNat 16))]))
  rw [show ((2 : Int32) <<< ((0 : Int32) &&& 31)) = (2 : Int32) from own_shl0 (2 : Int32)]
  show OwnOk p e below _ (T14.setTop (mkF m 28 #[.val (.ref b), .val (.int (Int32.ofNat mn)), .val (.int (Int32.ofNat 16)), .val (.int (Int32.ofNat mn)), .val (.int (Int32.ofNat (mn - 16))), .unset] [(.int (2 : Int32)), (.int (Int32.ofNat 16)), (.int (Int32.ofNat (mn - 16))), (.int (Int32.ofNat 16))]))
  refine own_up (fun tx kx => XS.iadd X14.here hx rfl (hb hby d40_28) rfl kx) ?_
  show OwnOk p e below _ (T14.setTop (mkF m 29 #[.val (.ref b), .val (.int (Int32.ofNat mn)), .val (.int (Int32.ofNat 16)), .val (.int (Int32.ofNat mn)), .val (.int (Int32.ofNat (mn - 16))), .unset] [(.int ((Int32.ofNat 16) + (2 : Int32))), (.int (Int32.ofNat (mn - 16))), (.int (Int32.ofNat 16))]))
  rw [show ((Int32.ofNat 16) + (2 : Int32)) = (18 : Int32) from (by decide : ((Int32.ofNat 16) + (2 : Int32)) = (18 : Int32))]
  show OwnOk p e below _ (T14.setTop (mkF m 29 #[.val (.ref b), .val (.int (Int32.ofNat mn)), .val (.int (Int32.ofNat 16)), .val (.int (Int32.ofNat mn)), .val (.int (Int32.ofNat (mn - 16))), .unset] [(.int (18 : Int32)), (.int (Int32.ofNat (mn - 16))), (.int (Int32.ofNat 16))]))
  refine own_callS X14 hx hZ (y := (⟨"jdk/internal/util/ArraysSupport", "newLength", "(III)I"⟩ : MethodName)) hown (wd_212 hw) (wd_213 hw) (wd_214 hw) (wd_215 hw) (by decide) (j_newLen l Z a0 hw (mn - 16) h0 n0 OL (by omega)) e14 (argsL := [(.int (Int32.ofNat 16)), (.int (Int32.ofNat (mn - 16))), (.int (18 : Int32))]) (rest := []) (by rw [hml]; rfl) (lenOf pd_2 rfl) rfl rfl (W := 0) rfl (hb hby d40_29) (by decide) (by decide) (by decide) (by decide) (fun T15 v15 L15 X15 hQ15 => ?_)
  obtain ⟨rfl, Nq15, hh15⟩ := hQ15
  have N15 := Fr.app N0 Nq15
  show OwnOk p e below _ (T15.setTop (mkF m 32 #[.val (.ref b), .val (.int (Int32.ofNat mn)), .val (.int (Int32.ofNat 16)), .val (.int (Int32.ofNat mn)), .val (.int (Int32.ofNat (mn - 16))), .unset] [(.int (34 : Int32))]))
  refine own_up (fun tx kx => XS.istore X15.here hx rfl (hb hby d40_32) rfl (l' := #[.val (.ref b), .val (.int (Int32.ofNat mn)), .val (.int (Int32.ofNat 16)), .val (.int (Int32.ofNat mn)), .val (.int (Int32.ofNat (mn - 16))), .val (.int (34 : Int32))]) rfl kx) ?_
  show OwnOk p e below _ (T15.setTop (mkF m 34 #[.val (.ref b), .val (.int (Int32.ofNat mn)), .val (.int (Int32.ofNat 16)), .val (.int (Int32.ofNat mn)), .val (.int (Int32.ofNat (mn - 16))), .val (.int (34 : Int32))] []))
  refine own_up (fun tx kx => XS.iload X15.here hx rfl (hb hby d40_34) rfl kx) ?_
  show OwnOk p e below _ (T15.setTop (mkF m 36 #[.val (.ref b), .val (.int (Int32.ofNat mn)), .val (.int (Int32.ofNat 16)), .val (.int (Int32.ofNat mn)), .val (.int (Int32.ofNat (mn - 16))), .val (.int (34 : Int32))] [(.int (34 : Int32))]))
  refine own_up (fun tx kx => X15.ldcInt hx hown (mvT hZ (wd_220 hw)) (g := (mkF m 36 #[.val (.ref b), .val (.int (Int32.ofNat mn)), .val (.int (Int32.ofNat 16)), .val (.int (Int32.ofNat mn)), .val (.int (Int32.ofNat (mn - 16))), .val (.int (34 : Int32))] [(.int (34 : Int32))])) rfl (hb hby d40_36) _ kx) ?_
  show OwnOk p e below _ (T15.setTop (mkF m 38 #[.val (.ref b), .val (.int (Int32.ofNat mn)), .val (.int (Int32.ofNat 16)), .val (.int (Int32.ofNat mn)), .val (.int (Int32.ofNat (mn - 16))), .val (.int (34 : Int32))] [(.int (2147483647 : Int32)), (.int (34 : Int32))]))
  refine own_up (fun tx kx => XS.icmpYes X15.here hx rfl (pc0 := 38) (pc' := 51) rfl (hb hby d40_38) rfl (feq (by decide)).2 (by decide) (by decide) kx) ?_
  show OwnOk p e below _ (T15.setTop (mkF m 51 #[.val (.ref b), .val (.int (Int32.ofNat mn)), .val (.int (Int32.ofNat 16)), .val (.int (Int32.ofNat mn)), .val (.int (Int32.ofNat (mn - 16))), .val (.int (34 : Int32))] []))
  refine own_up (fun tx kx => XS.iload X15.here hx rfl (hb hby d40_51) rfl kx) ?_
  show OwnOk p e below _ (T15.setTop (mkF m 53 #[.val (.ref b), .val (.int (Int32.ofNat mn)), .val (.int (Int32.ofNat 16)), .val (.int (Int32.ofNat mn)), .val (.int (Int32.ofNat (mn - 16))), .val (.int (34 : Int32))] [(.int (34 : Int32))]))
  refine own_up (fun tx kx => XS.aloadN X15.here hx rfl (hb hby d40_53) rfl rfl kx) ?_
  show OwnOk p e below _ (T15.setTop (mkF m 54 #[.val (.ref b), .val (.int (Int32.ofNat mn)), .val (.int (Int32.ofNat 16)), .val (.int (Int32.ofNat mn)), .val (.int (Int32.ofNat (mn - 16))), .val (.int (34 : Int32))] [(.ref b), (.int (34 : Int32))]))
  obtain ⟨T16, X16, e16, st16⟩ := getF X15 hx hZ hown (host := "") (Or.inl (wd_36 hw)) Via.refl hh15 F_coder_b (g := (mkF m 54 #[.val (.ref b), .val (.int (Int32.ofNat mn)), .val (.int (Int32.ofNat 16)), .val (.int (Int32.ofNat mn)), .val (.int (Int32.ofNat (mn - 16))), .val (.int (34 : Int32))] [(.ref b), (.int (34 : Int32))])) rfl rfl (hb hby d40_54)
  refine own_up st16 ?_
  show OwnOk p e below _ (T16.setTop (mkF m 57 #[.val (.ref b), .val (.int (Int32.ofNat mn)), .val (.int (Int32.ofNat 16)), .val (.int (Int32.ofNat mn)), .val (.int (Int32.ofNat (mn - 16))), .val (.int (34 : Int32))] [(.int (0 : Int32)), (.int (34 : Int32))]))
  refine own_up (fun tx kx => XS.ishr X16.here hx rfl (hb hby d40_57) rfl kx) ?_
  show OwnOk p e below _ (T16.setTop (mkF m 58 #[.val (.ref b), .val (.int (Int32.ofNat mn)), .val (.int (Int32.ofNat 16)), .val (.int (Int32.ofNat mn)), .val (.int (Int32.ofNat (mn - 16))), .val (.int (34 : Int32))] [(.int ((34 : Int32) >>> ((0 : Int32) &&& 31)))]))
  rw [show ((34 : Int32) >>> ((0 : Int32) &&& 31)) = (34 : Int32) from own_shr0 (34 : Int32)]
  show OwnOk p e below _ (T16.setTop (mkF m 58 #[.val (.ref b), .val (.int (Int32.ofNat mn)), .val (.int (Int32.ofNat 16)), .val (.int (Int32.ofNat mn)), .val (.int (Int32.ofNat (mn - 16))), .val (.int (34 : Int32))] [(.int (34 : Int32))]))
  refine own_retI X16 hx (show meth.sig.returnType = some .int from hret) hlk (hb hby d40_58) e16 (Nat.le_of_ble_eq_true rfl) (Nat.le_of_ble_eq_true rfl) ?_
  exact ⟨rfl, N15, rfl⟩
def Q_j_copyO (Z : State) (f : Nat → Int32) (h0 : Heap) (n0 : Nat) (v : Option Value) (h : Heap) (L : List Loc) : Prop := ∃ (r : Addr) (kr : ClassId), v = some (.ref r) ∧ Fr n0 L ∧ Keep h0 h [] ∧ h0.size ≤ r ∧ (Exa Z h r "[B") ∧ (Arv Z h r kr .byte (Int32.ofNat 34) (own_F 34 (fun j => if 0 ≤ j ∧ j < 0 + 16 then f (0 + (j - 0)) else (fun _ => 0) j)) (.int (0 : Int32)))
set_option maxRecDepth 65536 in
set_option maxHeartbeats 40000000 in
theorem j_copyO (l : Launch) (Z : State) (a0 : Array Value) (hw : ∀ d ∈ tables_1, d.before a0 Z = true) (t : Addr) (kt : ClassId) (f : Nat → Int32) (h0 : Heap) (n0 : Nat) (OL : Old Z n0 h0) (E_t : Exa Z h0 t "[B") (V_t : Arv Z h0 t kt .byte (Int32.ofNat 16) (own_F 16 f) (.int (0 : Int32))) :
    own_Met l Z (⟨"java/util/Arrays", "copyOf", "([BI)[B"⟩ : MethodName) jdk_65_method_121_code 3 (some (.array .byte)) ({ frames := 1, cells := 1, slots := 34, locals := 32 } : Room) #[(.ref t), (.int (34 : Int32))] h0 (Q_j_copyO Z f h0 n0) := by
  refine own_body (L0 := #[.val (.ref t), .val (.int (34 : Int32)), .unset]) (plainFor_of_name (by first | (simp [plainName, overriddenIn]; done) | decide +kernel)) (fun m => by first | (simp [entryFrame, mkF, argsToLocals, Value.category]; done) | rfl) ?_
  intro p e s m below meth c s₁ hx hby hml hZ hown hnm hret hlk X0 e0
  have N0 := Fr.nil n0
  have Z0 : n0 ≤ h0.size := OL.1 ▸ OL.2.1
  show OwnOk p e below _ (s₁.setTop (mkF m 0 #[.val (.ref t), .val (.int (34 : Int32)), .unset] []))
  have KP0 : Keep h0 h0 [] := Keep.refl h0 _
  refine own_up (fun tx kx => XS.iloadN X0.here hx rfl (hb hby d43_0) rfl kx) ?_
  show OwnOk p e below _ (s₁.setTop (mkF m 1 #[.val (.ref t), .val (.int (34 : Int32)), .unset] [(.int (34 : Int32))]))
  refine own_up (fun tx kx => XS.aloadN X0.here hx rfl (hb hby d43_1) rfl rfl kx) ?_
  show OwnOk p e below _ (s₁.setTop (mkF m 2 #[.val (.ref t), .val (.int (34 : Int32)), .unset] [(.ref t), (.int (34 : Int32))]))
  obtain ⟨cl11, Ar11, qc11, Sz11, Nn11, Hs11, Gf11⟩ := id V_t
  have hlen11 : cl11.slots.size.toInt32 = (Int32.ofNat 16) := len_of Sz11 Nn11
  refine own_up (fun tx kx => X0.arraylength hx (own_ar e0 Ar11.1) (State.isArrayOf_alike hZ.alike Ar11.2.1) (g := (mkF m 2 #[.val (.ref t), .val (.int (34 : Int32)), .unset] [(.ref t), (.int (34 : Int32))])) rfl rfl (hb hby d43_2) _ kx) ?_
  rw [hlen11]
  show OwnOk p e below _ (s₁.setTop (mkF m 3 #[.val (.ref t), .val (.int (34 : Int32)), .unset] [(.int (Int32.ofNat 16)), (.int (34 : Int32))]))
  refine own_up (fun tx kx => XS.icmpYes X0.here hx rfl (pc0 := 3) (pc' := 14) rfl (hb hby d43_3) rfl (feq (by decide)).2 (by decide) (by decide) kx) ?_
  show OwnOk p e below _ (s₁.setTop (mkF m 14 #[.val (.ref t), .val (.int (34 : Int32)), .unset] []))
  refine own_up (fun tx kx => XS.iloadN X0.here hx rfl (hb hby d43_14) rfl kx) ?_
  show OwnOk p e below _ (s₁.setTop (mkF m 15 #[.val (.ref t), .val (.int (34 : Int32)), .unset] [(.int (34 : Int32))]))
  obtain ⟨T12, h12, k12, X12, e12, E12, A12, P12, st12⟩ := newPE (aty := .byte) X0 hx hZ (wd_33 hw) e0 (g := (mkF m 15 #[.val (.ref t), .val (.int (34 : Int32)), .unset] [(.int (34 : Int32))])) rfl (hb hby d43_15) rfl (by decide) (cap := 34) (by decide) (by decide) (by decide) (by decide) (ad := "[B") (by decide)
  obtain ⟨b12, g12⟩ : ∃ z, z = h0.size := ⟨_, rfl⟩
  rw [← g12] at A12 P12 st12
  have sz_b12 : h0.size ≤ b12 := Nat.le_of_eq g12.symm
  have lt_t_b12 : t < b12 := Nat.lt_of_lt_of_le E_t.lt sz_b12
  have n0_b12 : n0 ≤ b12 := Nat.le_trans (own_n0 OL) sz_b12
  have ws_b12 : h0.size ≤ b12 := Nat.le_trans KP0.1 sz_b12
  have V_b12 : Arv Z h12 b12 k12 .byte (Int32.ofNat 34) (own_F 34 fun _ => 0) (.int (0 : Int32)) := own_newF (Arv.new A12 (by decide)) 34
  have OL14 := OL.ext E12
  have KP14 := KP0.ext E12
  refine own_up st12 ?_
  show OwnOk p e below _ (T12.setTop (mkF m 17 #[.val (.ref t), .val (.int (34 : Int32)), .unset] [(.ref b12)]))
  refine own_up (fun tx kx => XS.astoreN X12.here hx rfl (hb hby d43_17) rfl rfl (l' := #[.val (.ref t), .val (.int (34 : Int32)), .val (.ref b12)]) rfl kx) ?_
  show OwnOk p e below _ (T12.setTop (mkF m 18 #[.val (.ref t), .val (.int (34 : Int32)), .val (.ref b12)] []))
  refine own_up (fun tx kx => XS.aloadN X12.here hx rfl (hb hby d43_18) rfl rfl kx) ?_
  show OwnOk p e below _ (T12.setTop (mkF m 19 #[.val (.ref t), .val (.int (34 : Int32)), .val (.ref b12)] [(.ref t)]))
  refine own_up (fun tx kx => XS.iconst X12.here hx rfl (hb hby d43_19) kx) ?_
  show OwnOk p e below _ (T12.setTop (mkF m 20 #[.val (.ref t), .val (.int (34 : Int32)), .val (.ref b12)] [(.int (0 : Int32)), (.ref t)]))
  refine own_up (fun tx kx => XS.aloadN X12.here hx rfl (hb hby d43_20) rfl rfl kx) ?_
  show OwnOk p e below _ (T12.setTop (mkF m 21 #[.val (.ref t), .val (.int (34 : Int32)), .val (.ref b12)] [(.ref b12), (.int (0 : Int32)), (.ref t)]))
  refine own_up (fun tx kx => XS.iconst X12.here hx rfl (hb hby d43_21) kx) ?_
  show OwnOk p e below _ (T12.setTop (mkF m 22 #[.val (.ref t), .val (.int (34 : Int32)), .val (.ref b12)] [(.int (0 : Int32)), (.ref b12), (.int (0 : Int32)), (.ref t)]))
  refine own_up (fun tx kx => XS.aloadN X12.here hx rfl (hb hby d43_22) rfl rfl kx) ?_
  show OwnOk p e below _ (T12.setTop (mkF m 23 #[.val (.ref t), .val (.int (34 : Int32)), .val (.ref b12)] [(.ref t), (.int (0 : Int32)), (.ref b12), (.int (0 : Int32)), (.ref t)]))
  have V_t_15 := (V_t.ext E12)
  obtain ⟨cl16, Ar16, qc16, Sz16, Nn16, Hs16, Gf16⟩ := id V_t_15
  have hlen16 : cl16.slots.size.toInt32 = (Int32.ofNat 16) := len_of Sz16 Nn16
  refine own_up (fun tx kx => X12.arraylength hx (own_ar e12 Ar16.1) (State.isArrayOf_alike hZ.alike Ar16.2.1) (g := (mkF m 23 #[.val (.ref t), .val (.int (34 : Int32)), .val (.ref b12)] [(.ref t), (.int (0 : Int32)), (.ref b12), (.int (0 : Int32)), (.ref t)])) rfl rfl (hb hby d43_23) _ kx) ?_
  rw [hlen16]
  show OwnOk p e below _ (T12.setTop (mkF m 24 #[.val (.ref t), .val (.int (34 : Int32)), .val (.ref b12)] [(.int (Int32.ofNat 16)), (.int (0 : Int32)), (.ref b12), (.int (0 : Int32)), (.ref t)]))
  refine own_up (fun tx kx => XS.iloadN X12.here hx rfl (hb hby d43_24) rfl kx) ?_
  show OwnOk p e below _ (T12.setTop (mkF m 25 #[.val (.ref t), .val (.int (34 : Int32)), .val (.ref b12)] [(.int (34 : Int32)), (.int (Int32.ofNat 16)), (.int (0 : Int32)), (.ref b12), (.int (0 : Int32)), (.ref t)]))
  refine own_callS X12 hx hZ (y := (⟨"java/lang/Math", "min", "(II)I"⟩ : MethodName)) hown (wd_154 hw) (wd_155 hw) (wd_156 hw) (wd_157 hw) (by decide) (j_min l Z a0 hw (Int32.ofNat 16) (34 : Int32) h12 n0 OL14) e12 (argsL := [(.int (Int32.ofNat 16)), (.int (34 : Int32))]) (rest := [(.int (0 : Int32)), (.ref b12), (.int (0 : Int32)), (.ref t)]) (by rw [hml]; rfl) (lenOf pd_1 rfl) rfl rfl (W := 4) rfl (hb hby d43_25) (by decide) (by decide) (by decide) (by decide) (fun T17 v17 L17 X17 hQ17 => ?_)
  obtain ⟨rfl, Nq17, hh17⟩ := hQ17
  have N17 := Fr.app N0 Nq17
  show OwnOk p e below _ (T17.setTop (mkF m 28 #[.val (.ref t), .val (.int (34 : Int32)), .val (.ref b12)] [(.int (if (34 : Int32) < (Int32.ofNat 16) then (34 : Int32) else (Int32.ofNat 16))), (.int (0 : Int32)), (.ref b12), (.int (0 : Int32)), (.ref t)]))
  rw [show (if (34 : Int32) < (Int32.ofNat 16) then (34 : Int32) else (Int32.ofNat 16)) = (Int32.ofNat 16) from (if_neg (by decide) : (if (34 : Int32) < (Int32.ofNat 16) then (34 : Int32) else (Int32.ofNat 16)) = (Int32.ofNat 16))]
  show OwnOk p e below _ (T17.setTop (mkF m 28 #[.val (.ref t), .val (.int (34 : Int32)), .val (.ref b12)] [(.int (Int32.ofNat 16)), (.int (0 : Int32)), (.ref b12), (.int (0 : Int32)), (.ref t)]))
  show OwnOk p e below _ (T17.setTop (mkF m 28 #[.val (.ref t), .val (.int (34 : Int32)), .val (.ref b12)] [(.int (Int32.ofNat 16)), (.int (Int32.ofNat 0)), (.ref b12), (.int (Int32.ofNat 0)), (.ref t)]))
  obtain ⟨T18, h18, L18, X18, e18, N18, K18, V18, st18⟩ := cpA X17 hx hZ hown (wd_158 hw) (wd_115 hw) (wd_113 hw) (wd_114 hw) hh17 V_t_15 V_b12 (Or.inl ⟨rfl, rfl⟩) (own_nn 0 (by omega)) (own_nn 0 (by omega)) (own_nn 16 (by omega)) (own_cl3 (a := 0) (b := 16) (c := 16) (by omega) (by omega) (by omega) (by omega)) (own_cl3 (a := 0) (b := 16) (c := 34) (by omega) (by omega) (by omega) (by omega)) rfl (own_clF (a := 0) (b := 16) (by omega) (by omega) (by omega)) N17 n0_b12 (g := (mkF m 28 #[.val (.ref t), .val (.int (34 : Int32)), .val (.ref b12)] [(.int (Int32.ofNat 16)), (.int (Int32.ofNat 0)), (.ref b12), (.int (Int32.ofNat 0)), (.ref t)])) rfl (by rw [hml]; rfl) rfl (hb hby d43_28) (by decide) (W := 0) (by show 2 * 0 + _ ≤ _; exact Nat.le_of_eq rfl) (by decide)
  rw [own_F_copyI (n := 34) (dp := 0) (nn := 16) (sp := 0) (ns := 16) (by omega) (by omega) (by omega) (by omega) (by omega)] at V18
  have OL19 := OL14.keep K18 (allS n0_b12 all0)
  have KP19 := KP14.trans K18 (allS (Or.inr ws_b12) all0)
  refine own_up st18 ?_
  show OwnOk p e below _ (T18.setTop (mkF m 31 #[.val (.ref t), .val (.int (34 : Int32)), .val (.ref b12)] []))
  refine own_up (fun tx kx => XS.aloadN X18.here hx rfl (hb hby d43_31) rfl rfl kx) ?_
  show OwnOk p e below _ (T18.setTop (mkF m 32 #[.val (.ref t), .val (.int (34 : Int32)), .val (.ref b12)] [(.ref b12)]))
  have E_b12_20 := (P12.keep K18)
  refine own_retR X18 hx (t := (.array .byte)) (show meth.sig.returnType = some (.array .byte) from hret) rfl hlk rfl (hb hby d43_32) e18 (Nat.le_of_ble_eq_true rfl) (Nat.le_of_ble_eq_true rfl) ?_
  exact ⟨b12, _, rfl, N18, KP19, ws_b12, E_b12_20, V18⟩
def Q_j_grow (Z : State) (b : Addr) (f : Nat → Int32) (cnt : Nat) (h0 : Heap) (n0 : Nat) (v : Option Value) (h : Heap) (L : List Loc) : Prop := v = none ∧ Fr n0 L ∧ Keep h0 h [b] ∧ ∃ (t' : Addr) (kt' : ClassId), h0.size ≤ t' ∧ (Exa Z h b "java/lang/StringBuilder") ∧ (Fld Z h b "java/lang/AbstractStringBuilder" "value" "[B" (.ref t')) ∧ (Fld Z h b "java/lang/AbstractStringBuilder" "coder" "B" (.int (0 : Int32))) ∧ (Fld Z h b "java/lang/AbstractStringBuilder" "count" "I" (.int (Int32.ofNat cnt))) ∧ (Exa Z h t' "[B") ∧ (Arv Z h t' kt' .byte (Int32.ofNat 34) (own_F 34 (fun j => if 0 ≤ j ∧ j < 0 + 16 then f (0 + (j - 0)) else (fun _ => 0) j)) (.int (0 : Int32)))
set_option maxRecDepth 65536 in
set_option maxHeartbeats 40000000 in
theorem j_grow (l : Launch) (Z : State) (a0 : Array Value) (hw : ∀ d ∈ tables_1, d.before a0 Z = true) (b t : Addr) (kt : ClassId) (f : Nat → Int32) (cnt : Nat) (mn : Nat) (h0 : Heap) (n0 : Nat) (OL : Old Z n0 h0) (E_b : Exa Z h0 b "java/lang/StringBuilder") (F_value_b : Fld Z h0 b "java/lang/AbstractStringBuilder" "value" "[B" (.ref t)) (F_coder_b : Fld Z h0 b "java/lang/AbstractStringBuilder" "coder" "B" (.int (0 : Int32))) (F_count_b : Fld Z h0 b "java/lang/AbstractStringBuilder" "count" "I" (.int (Int32.ofNat cnt))) (E_t : Exa Z h0 t "[B") (V_t : Arv Z h0 t kt .byte (Int32.ofNat 16) (own_F 16 f) (.int (0 : Int32))) (n0_b : n0 ≤ b) (n0_t : n0 ≤ t) (ne_b_t : b ≠ t) (hm : 16 < mn) (hm2 : mn ≤ 34) :
    own_Met l Z (⟨"java/lang/AbstractStringBuilder", "ensureCapacityInternal", "(I)V"⟩ : MethodName) jdk_68_method_9_code 3 none ({ frames := 3, cells := 1, slots := 34, locals := 50 } : Room) #[(.ref b), (.int (Int32.ofNat mn))] h0 (Q_j_grow Z b f cnt h0 n0) := by
  refine own_body (L0 := #[.val (.ref b), .val (.int (Int32.ofNat mn)), .unset]) (plainFor_of_name (by first | (simp [plainName, overriddenIn]; done) | decide +kernel)) (fun m => by first | (simp [entryFrame, mkF, argsToLocals, Value.category]; done) | rfl) ?_
  intro p e s m below meth c s₁ hx hby hml hZ hown hnm hret hlk X0 e0
  have N0 := Fr.nil n0
  have Z0 : n0 ≤ h0.size := OL.1 ▸ OL.2.1
  show OwnOk p e below _ (s₁.setTop (mkF m 0 #[.val (.ref b), .val (.int (Int32.ofNat mn)), .unset] []))
  have KP0 : Keep h0 h0 [b] := Keep.refl h0 _
  refine own_up (fun tx kx => XS.aloadN X0.here hx rfl (hb hby d9_0) rfl rfl kx) ?_
  show OwnOk p e below _ (s₁.setTop (mkF m 1 #[.val (.ref b), .val (.int (Int32.ofNat mn)), .unset] [(.ref b)]))
  obtain ⟨T11, X11, e11, st11⟩ := getF X0 hx hZ hown (host := "") (Or.inl (wd_34 hw)) Via.refl e0 F_value_b (g := (mkF m 1 #[.val (.ref b), .val (.int (Int32.ofNat mn)), .unset] [(.ref b)])) rfl rfl (hb hby d9_1)
  refine own_up st11 ?_
  show OwnOk p e below _ (T11.setTop (mkF m 4 #[.val (.ref b), .val (.int (Int32.ofNat mn)), .unset] [(.ref t)]))
  obtain ⟨cl12, Ar12, qc12, Sz12, Nn12, Hs12, Gf12⟩ := id V_t
  have hlen12 : cl12.slots.size.toInt32 = (Int32.ofNat 16) := len_of Sz12 Nn12
  refine own_up (fun tx kx => X11.arraylength hx (own_ar e11 Ar12.1) (State.isArrayOf_alike hZ.alike Ar12.2.1) (g := (mkF m 4 #[.val (.ref b), .val (.int (Int32.ofNat mn)), .unset] [(.ref t)])) rfl rfl (hb hby d9_4) _ kx) ?_
  rw [hlen12]
  show OwnOk p e below _ (T11.setTop (mkF m 5 #[.val (.ref b), .val (.int (Int32.ofNat mn)), .unset] [(.int (Int32.ofNat 16))]))
  refine own_up (fun tx kx => XS.aloadN X11.here hx rfl (hb hby d9_5) rfl rfl kx) ?_
  show OwnOk p e below _ (T11.setTop (mkF m 6 #[.val (.ref b), .val (.int (Int32.ofNat mn)), .unset] [(.ref b), (.int (Int32.ofNat 16))]))
  obtain ⟨T13, X13, e13, st13⟩ := getF X11 hx hZ hown (host := "") (Or.inl (wd_36 hw)) Via.refl e11 F_coder_b (g := (mkF m 6 #[.val (.ref b), .val (.int (Int32.ofNat mn)), .unset] [(.ref b), (.int (Int32.ofNat 16))])) rfl rfl (hb hby d9_6)
  refine own_up st13 ?_
  show OwnOk p e below _ (T13.setTop (mkF m 9 #[.val (.ref b), .val (.int (Int32.ofNat mn)), .unset] [(.int (0 : Int32)), (.int (Int32.ofNat 16))]))
  refine own_up (fun tx kx => XS.ishr X13.here hx rfl (hb hby d9_9) rfl kx) ?_
  show OwnOk p e below _ (T13.setTop (mkF m 10 #[.val (.ref b), .val (.int (Int32.ofNat mn)), .unset] [(.int ((Int32.ofNat 16) >>> ((0 : Int32) &&& 31)))]))
  rw [show ((Int32.ofNat 16) >>> ((0 : Int32) &&& 31)) = (Int32.ofNat 16) from own_shr0 (Int32.ofNat 16)]
  show OwnOk p e below _ (T13.setTop (mkF m 10 #[.val (.ref b), .val (.int (Int32.ofNat mn)), .unset] [(.int (Int32.ofNat 16))]))
  refine own_up (fun tx kx => XS.istoreN X13.here hx rfl (hb hby d9_10) rfl (l' := #[.val (.ref b), .val (.int (Int32.ofNat mn)), .val (.int (Int32.ofNat 16))]) rfl kx) ?_
  show OwnOk p e below _ (T13.setTop (mkF m 11 #[.val (.ref b), .val (.int (Int32.ofNat mn)), .val (.int (Int32.ofNat 16))] []))
  refine own_up (fun tx kx => XS.iloadN X13.here hx rfl (hb hby d9_11) rfl kx) ?_
  show OwnOk p e below _ (T13.setTop (mkF m 12 #[.val (.ref b), .val (.int (Int32.ofNat mn)), .val (.int (Int32.ofNat 16))] [(.int (Int32.ofNat mn))]))
  refine own_up (fun tx kx => XS.iloadN X13.here hx rfl (hb hby d9_12) rfl kx) ?_
  show OwnOk p e below _ (T13.setTop (mkF m 13 #[.val (.ref b), .val (.int (Int32.ofNat mn)), .val (.int (Int32.ofNat 16))] [(.int (Int32.ofNat 16)), (.int (Int32.ofNat mn))]))
  refine own_up (fun tx kx => XS.isub X13.here hx rfl (hb hby d9_13) rfl kx) ?_
  show OwnOk p e below _ (T13.setTop (mkF m 14 #[.val (.ref b), .val (.int (Int32.ofNat mn)), .val (.int (Int32.ofNat 16))] [(.int ((Int32.ofNat mn) - (Int32.ofNat 16)))]))
  refine own_up (fun tx kx => XS.ifNo X13.here hx rfl (hb hby d9_14) rfl ((if0 _ _).trans (tlt (own_sub_gt hm (by omega))).2.2.2) kx) ?_
  show OwnOk p e below _ (T13.setTop (mkF m 17 #[.val (.ref b), .val (.int (Int32.ofNat mn)), .val (.int (Int32.ofNat 16))] []))
  refine own_up (fun tx kx => XS.aloadN X13.here hx rfl (hb hby d9_17) rfl rfl kx) ?_
  show OwnOk p e below _ (T13.setTop (mkF m 18 #[.val (.ref b), .val (.int (Int32.ofNat mn)), .val (.int (Int32.ofNat 16))] [(.ref b)]))
  refine own_up (fun tx kx => XS.aloadN X13.here hx rfl (hb hby d9_18) rfl rfl kx) ?_
  show OwnOk p e below _ (T13.setTop (mkF m 19 #[.val (.ref b), .val (.int (Int32.ofNat mn)), .val (.int (Int32.ofNat 16))] [(.ref b), (.ref b)]))
  obtain ⟨T14, X14, e14, st14⟩ := getF X13 hx hZ hown (host := "") (Or.inl (wd_34 hw)) Via.refl e13 F_value_b (g := (mkF m 19 #[.val (.ref b), .val (.int (Int32.ofNat mn)), .val (.int (Int32.ofNat 16))] [(.ref b), (.ref b)])) rfl rfl (hb hby d9_19)
  refine own_up st14 ?_
  show OwnOk p e below _ (T14.setTop (mkF m 22 #[.val (.ref b), .val (.int (Int32.ofNat mn)), .val (.int (Int32.ofNat 16))] [(.ref t), (.ref b)]))
  refine own_up (fun tx kx => XS.aloadN X14.here hx rfl (hb hby d9_22) rfl rfl kx) ?_
  show OwnOk p e below _ (T14.setTop (mkF m 23 #[.val (.ref b), .val (.int (Int32.ofNat mn)), .val (.int (Int32.ofNat 16))] [(.ref b), (.ref t), (.ref b)]))
  refine own_up (fun tx kx => XS.iloadN X14.here hx rfl (hb hby d9_23) rfl kx) ?_
  show OwnOk p e below _ (T14.setTop (mkF m 24 #[.val (.ref b), .val (.int (Int32.ofNat mn)), .val (.int (Int32.ofNat 16))] [(.int (Int32.ofNat mn)), (.ref b), (.ref t), (.ref b)]))
  refine own_callV X14 hx hZ (y := (⟨"java/lang/AbstractStringBuilder", "newCapacity", "(I)I"⟩ : MethodName)) (z := (⟨"java/lang/AbstractStringBuilder", "newCapacity", "(I)I"⟩ : MethodName)) hown (wd_207 hw) (own_declares (wd_208 hw) (wd_211 hw)) (notFace_of_selects (args := #[]) (mvT hZ (wd_210 hw))) (wd_210 hw) (wd_208 hw) (wd_28 hw) (wd_211 hw) (by decide) (j_newCap l Z a0 hw b t kt f cnt mn h0 n0 OL E_b F_value_b F_coder_b F_count_b E_t V_t n0_b n0_t ne_b_t hm hm2) e14 (argsL := [(.int (Int32.ofNat mn))]) (rest := [(.ref t), (.ref b)]) E_b (by rw [hml]; rfl) (lenOf pd_3 rfl) rfl rfl (W := 2) rfl (hb hby d9_24) (by decide) (by decide) (by decide) (by decide) (fun T15 v15 L15 X15 hQ15 => ?_)
  obtain ⟨rfl, Nq15, hh15⟩ := hQ15
  have N15 := Fr.app N0 Nq15
  show OwnOk p e below _ (T15.setTop (mkF m 27 #[.val (.ref b), .val (.int (Int32.ofNat mn)), .val (.int (Int32.ofNat 16))] [(.int (34 : Int32)), (.ref t), (.ref b)]))
  refine own_up (fun tx kx => XS.aloadN X15.here hx rfl (hb hby d9_27) rfl rfl kx) ?_
  show OwnOk p e below _ (T15.setTop (mkF m 28 #[.val (.ref b), .val (.int (Int32.ofNat mn)), .val (.int (Int32.ofNat 16))] [(.ref b), (.int (34 : Int32)), (.ref t), (.ref b)]))
  obtain ⟨T16, X16, e16, st16⟩ := getF X15 hx hZ hown (host := "") (Or.inl (wd_36 hw)) Via.refl hh15 F_coder_b (g := (mkF m 28 #[.val (.ref b), .val (.int (Int32.ofNat mn)), .val (.int (Int32.ofNat 16))] [(.ref b), (.int (34 : Int32)), (.ref t), (.ref b)])) rfl rfl (hb hby d9_28)
  refine own_up st16 ?_
  show OwnOk p e below _ (T16.setTop (mkF m 31 #[.val (.ref b), .val (.int (Int32.ofNat mn)), .val (.int (Int32.ofNat 16))] [(.int (0 : Int32)), (.int (34 : Int32)), (.ref t), (.ref b)]))
  refine own_up (fun tx kx => XS.ishl X16.here hx rfl (hb hby d9_31) rfl kx) ?_
  show OwnOk p e below _ (T16.setTop (mkF m 32 #[.val (.ref b), .val (.int (Int32.ofNat mn)), .val (.int (Int32.ofNat 16))] [(.int ((34 : Int32) <<< ((0 : Int32) &&& 31))), (.ref t), (.ref b)]))
  rw [show ((34 : Int32) <<< ((0 : Int32) &&& 31)) = (34 : Int32) from own_shl0 (34 : Int32)]
  show OwnOk p e below _ (T16.setTop (mkF m 32 #[.val (.ref b), .val (.int (Int32.ofNat mn)), .val (.int (Int32.ofNat 16))] [(.int (34 : Int32)), (.ref t), (.ref b)]))
  refine own_callS X16 hx hZ (y := (⟨"java/util/Arrays", "copyOf", "([BI)[B"⟩ : MethodName)) hown (wd_221 hw) (wd_222 hw) (wd_146 hw) (wd_223 hw) (by decide) (j_copyO l Z a0 hw t kt f h0 n0 OL E_t V_t) e16 (argsL := [(.ref t), (.int (34 : Int32))]) (rest := [(.ref b)]) (by rw [hml]; rfl) (lenOf pd_4 rfl) rfl rfl (W := 1) rfl (hb hby d9_32) (by decide) (by decide) (by decide) (by decide) (fun T17 v17 L17 X17 hQ17 => ?_)
  obtain ⟨rr17, kr17, rfl, Nq17, Kq17, gr17, er17, vr17⟩ := hQ17
  have N17 := Fr.app N15 Nq17
  have lt_b_rr17 : b < rr17 := Nat.lt_of_lt_of_le E_b.lt gr17
  have lt_t_rr17 : t < rr17 := Nat.lt_of_lt_of_le E_t.lt gr17
  have n0_rr17 : n0 ≤ rr17 := Nat.le_trans (own_n0 OL) gr17
  have ws_rr17 : h0.size ≤ rr17 := Nat.le_trans KP0.1 gr17
  have OL17 := OL.keep Kq17 all0
  have KP17 := KP0.trans Kq17 all0
  show OwnOk p e below _ (T17.setTop (mkF m 35 #[.val (.ref b), .val (.int (Int32.ofNat mn)), .val (.int (Int32.ofNat 16))] [(.ref rr17), (.ref b)]))
  have F_value_b_18 := (F_value_b.keep Kq17 nin0)
  have E_b_19 := (E_b.keep Kq17)
  obtain ⟨T20, h20, X20, e20, W20, st20⟩ := putF X17 hx hZ hown (host := "") (Or.inl (wd_34 hw)) Via.refl rfl F_value_b_18 E_b_19 (Or.inl (wd_35 hw)) (wd_19 hw) (ty := (.array .byte)) (by decide) rfl rfl (g := (mkF m 35 #[.val (.ref b), .val (.int (Int32.ofNat mn)), .val (.int (Int32.ofNat 16))] [(.ref rr17), (.ref b)])) rfl rfl (hb hby d9_35)
  have Fw20 := Fld.same W20 F_value_b_18
  have N20 := Fr.snoc X20 N17 n0_b
  have OL21 := OL17.wr W20 n0_b
  have KP21 := KP17.wr W20 (Or.inl (List.mem_of_getElem? (i := 0) rfl))
  refine own_up st20 ?_
  show OwnOk p e below _ (T20.setTop (mkF m 38 #[.val (.ref b), .val (.int (Int32.ofNat mn)), .val (.int (Int32.ofNat 16))] []))
  have E_b_22 := (E_b_19.wr W20)
  have F_coder_b_23 := ((F_coder_b.keep Kq17 nin0).other W20 (Or.inr (slot_ne (Or.inl (wd_37 hw)) (Or.inl (wd_35 hw)) (by decide) (t := .byte) (t' := (.array .byte)) (by decide) (by decide))))
  have F_count_b_24 := ((F_count_b.keep Kq17 nin0).other W20 (Or.inr (slot_ne (Or.inl (wd_49 hw)) (Or.inl (wd_35 hw)) (by decide) (t := .int) (t' := (.array .byte)) (by decide) (by decide))))
  have E_rr17_25 := (er17.wr W20)
  have V_rr17_26 := (vr17.other W20 (Nat.ne_of_gt lt_b_rr17))
  refine own_retV X20 hx (show meth.sig.returnType = none from hret) hlk (hb hby d9_38) e20 (Nat.le_of_ble_eq_true rfl) (Nat.le_of_ble_eq_true rfl) ?_
  exact ⟨rfl, N20, KP21, rr17, _, ws_rr17, E_b_22, Fw20, F_coder_b_23, F_count_b_24, E_rr17_25, V_rr17_26⟩
def Q_j_asbI (Z : State) (b t : Addr) (kt : ClassId) (cap : Nat) (f : Nat → Int32) (cnt : Nat) (x : Int32) (nn : Nat) (h0 : Heap) (n0 : Nat) (v : Option Value) (h : Heap) (L : List Loc) : Prop := v = some (.ref b) ∧ Fr n0 L ∧ Keep h0 h [b, t] ∧ (Exa Z h b "java/lang/StringBuilder") ∧ (Fld Z h b "java/lang/AbstractStringBuilder" "value" "[B" (.ref t)) ∧ (Fld Z h b "java/lang/AbstractStringBuilder" "coder" "B" (.int (0 : Int32))) ∧ (Fld Z h b "java/lang/AbstractStringBuilder" "count" "I" (.int (Int32.ofNat (cnt + (Jvm.Free.SBG.digits nn + Jvm.Free.SBG.GetChars.sgn x))))) ∧ (Exa Z h t "[B") ∧ (Arv Z h t kt .byte (Int32.ofNat cap) (own_F cap (fun q => if cnt + (Jvm.Free.SBG.digits nn + Jvm.Free.SBG.GetChars.sgn x) - (Jvm.Free.SBG.digits nn + Jvm.Free.SBG.GetChars.sgn x) ≤ q ∧ q < cnt + (Jvm.Free.SBG.digits nn + Jvm.Free.SBG.GetChars.sgn x) then own_dg nn x (q - (cnt + (Jvm.Free.SBG.digits nn + Jvm.Free.SBG.GetChars.sgn x) - (Jvm.Free.SBG.digits nn + Jvm.Free.SBG.GetChars.sgn x))) else f q)) (.int (0 : Int32)))
set_option maxRecDepth 65536 in
set_option maxHeartbeats 40000000 in
theorem j_asbI (l : Launch) (Z : State) (a0 : Array Value) (hw : ∀ d ∈ tables_1, d.before a0 Z = true) (b t : Addr) (kt : ClassId) (cap : Nat) (f : Nat → Int32) (cnt : Nat) (x : Int32) (nn : Nat) (cz : Int32) (d1 d2 : Addr) (k1 k2 : ClassId) (h0 : Heap) (n0 : Nat) (OL : Old Z n0 h0) (SC : Sta Z Z.heap "java/lang/String" "COMPACT_STRINGS" "Z" (.int cz)) (hcz : ¬ cz = 0) (SO : Sta Z Z.heap "java/lang/Integer" "DigitOnes" "[B" (.ref d1)) (SD : Sta Z Z.heap "java/lang/Integer" "DigitTens" "[B" (.ref d2)) (VO : Arv Z Z.heap d1 k1 .byte (Int32.ofNat 100) (own_F 100 fun r => Int32.ofNat (48 + r % 10)) (.int 0)) (VD : Arv Z Z.heap d2 k2 .byte (Int32.ofNat 100) (own_F 100 fun r => Int32.ofNat (48 + r / 10)) (.int 0)) (WO : (Jvm.Cond.laysStatic "java/lang/Integer" "DigitOnes" "[B").before a0 Z = true) (WD : (Jvm.Cond.laysStatic "java/lang/Integer" "DigitTens" "[B").before a0 Z = true) (E_b : Exa Z h0 b "java/lang/StringBuilder") (F_value_b : Fld Z h0 b "java/lang/AbstractStringBuilder" "value" "[B" (.ref t)) (F_coder_b : Fld Z h0 b "java/lang/AbstractStringBuilder" "coder" "B" (.int (0 : Int32))) (F_count_b : Fld Z h0 b "java/lang/AbstractStringBuilder" "count" "I" (.int (Int32.ofNat cnt))) (E_t : Exa Z h0 t "[B") (V_t : Arv Z h0 t kt .byte (Int32.ofNat cap) (own_F cap f) (.int (0 : Int32))) (n0_b : n0 ≤ b) (n0_t : n0 ≤ t) (ne_b_t : b ≠ t) (hnn : nn ≤ 2 ^ 31) (hneg : (if x < 0 then x else -x) = Jvm.Free.SBG.negI nn) (hlt1 : d1 < n0) (hlt2 : d2 < n0) (hm : cnt + (Jvm.Free.SBG.digits nn + Jvm.Free.SBG.GetChars.sgn x) ≤ cap) (hcap : cap ≤ 4000) (hcnt : cnt ≤ cap) :
    own_Met l Z (⟨"java/lang/AbstractStringBuilder", "append", "(I)Ljava/lang/AbstractStringBuilder;"⟩ : MethodName) jdk_68_method_32_code 4 (some (.object "java/lang/AbstractStringBuilder")) ({ frames := 2, cells := 0, slots := 0, locals := 78 } : Room) #[(.ref b), (.int x)] h0 (Q_j_asbI Z b t kt cap f cnt x nn h0 n0) := by
  refine own_body (L0 := #[.val (.ref b), .val (.int x), .unset, .unset]) (plainFor_of_name (by first | (simp [plainName, overriddenIn]; done) | decide +kernel)) (fun m => by first | (simp [entryFrame, mkF, argsToLocals, Value.category]; done) | rfl) ?_
  intro p e s m below meth c s₁ hx hby hml hZ hown hnm hret hlk X0 e0
  have N0 := Fr.nil n0
  have Z0 : n0 ≤ h0.size := OL.1 ▸ OL.2.1
  show OwnOk p e below _ (s₁.setTop (mkF m 0 #[.val (.ref b), .val (.int x), .unset, .unset] []))
  have KP0 : Keep h0 h0 [b, t] := Keep.refl h0 _
  refine own_up (fun tx kx => XS.aloadN X0.here hx rfl (hb hby d7_0) rfl rfl kx) ?_
  show OwnOk p e below _ (s₁.setTop (mkF m 1 #[.val (.ref b), .val (.int x), .unset, .unset] [(.ref b)]))
  obtain ⟨T11, X11, e11, st11⟩ := getF X0 hx hZ hown (host := "") (Or.inl (wd_48 hw)) Via.refl e0 F_count_b (g := (mkF m 1 #[.val (.ref b), .val (.int x), .unset, .unset] [(.ref b)])) rfl rfl (hb hby d7_1)
  refine own_up st11 ?_
  show OwnOk p e below _ (T11.setTop (mkF m 4 #[.val (.ref b), .val (.int x), .unset, .unset] [(.int (Int32.ofNat cnt))]))
  refine own_up (fun tx kx => XS.istoreN X11.here hx rfl (hb hby d7_4) rfl (l' := #[.val (.ref b), .val (.int x), .val (.int (Int32.ofNat cnt)), .unset]) rfl kx) ?_
  show OwnOk p e below _ (T11.setTop (mkF m 5 #[.val (.ref b), .val (.int x), .val (.int (Int32.ofNat cnt)), .unset] []))
  refine own_up (fun tx kx => XS.iloadN X11.here hx rfl (hb hby d7_5) rfl kx) ?_
  show OwnOk p e below _ (T11.setTop (mkF m 6 #[.val (.ref b), .val (.int x), .val (.int (Int32.ofNat cnt)), .unset] [(.int (Int32.ofNat cnt))]))
  refine own_up (fun tx kx => XS.iloadN X11.here hx rfl (hb hby d7_6) rfl kx) ?_
  show OwnOk p e below _ (T11.setTop (mkF m 7 #[.val (.ref b), .val (.int x), .val (.int (Int32.ofNat cnt)), .unset] [(.int x), (.int (Int32.ofNat cnt))]))
  refine own_callSB X11 hx hZ (y := (⟨"java/lang/Integer", "stringSize", "(I)I"⟩ : MethodName)) hown (wd_50 hw) (wd_51 hw) (wd_52 hw) (wd_53 hw) (by decide) (kc := 0) (ks := 0) (Q' := fun v h' L => v = some (.int (Int32.ofNat (Jvm.Free.SBG.digits nn + Jvm.Free.SBG.GetChars.sgn x))) ∧ Fr n0 L ∧ h' = h0) (own_ssBk (W := 1) (n0 := n0) hZ (wd_53 hw) (wd_52 hw) hnn hneg (by decide) (by decide)) e11 (argsL := [(.int x)]) (rest := [(.int (Int32.ofNat cnt))]) (by rw [hml]; rfl) (lenOf pd_3 rfl) rfl rfl (W := 1) rfl (hb hby d7_7) (by decide) (by decide) (fun T12 v12 L12 X12 hQ12 => ?_)
  obtain ⟨rfl, Nq12, hh12⟩ := hQ12
  have N12 := Fr.app N0 Nq12
  show OwnOk p e below _ (T12.setTop (mkF m 10 #[.val (.ref b), .val (.int x), .val (.int (Int32.ofNat cnt)), .unset] [(.int (Int32.ofNat (Jvm.Free.SBG.digits nn + Jvm.Free.SBG.GetChars.sgn x))), (.int (Int32.ofNat cnt))]))
  refine own_up (fun tx kx => XS.iadd X12.here hx rfl (hb hby d7_10) rfl kx) ?_
  show OwnOk p e below _ (T12.setTop (mkF m 11 #[.val (.ref b), .val (.int x), .val (.int (Int32.ofNat cnt)), .unset] [(.int ((Int32.ofNat cnt) + (Int32.ofNat (Jvm.Free.SBG.digits nn + Jvm.Free.SBG.GetChars.sgn x))))]))
  rw [show ((Int32.ofNat cnt) + (Int32.ofNat (Jvm.Free.SBG.digits nn + Jvm.Free.SBG.GetChars.sgn x))) = (Int32.ofNat (cnt + (Jvm.Free.SBG.digits nn + Jvm.Free.SBG.GetChars.sgn x))) from (Int32.ofNat_add cnt (Jvm.Free.SBG.digits nn + Jvm.Free.SBG.GetChars.sgn x)).symm]
  show OwnOk p e below _ (T12.setTop (mkF m 11 #[.val (.ref b), .val (.int x), .val (.int (Int32.ofNat cnt)), .unset] [(.int (Int32.ofNat (cnt + (Jvm.Free.SBG.digits nn + Jvm.Free.SBG.GetChars.sgn x))))]))
  refine own_up (fun tx kx => XS.istoreN X12.here hx rfl (hb hby d7_11) rfl (l' := #[.val (.ref b), .val (.int x), .val (.int (Int32.ofNat cnt)), .val (.int (Int32.ofNat (cnt + (Jvm.Free.SBG.digits nn + Jvm.Free.SBG.GetChars.sgn x))))]) rfl kx) ?_
  show OwnOk p e below _ (T12.setTop (mkF m 12 #[.val (.ref b), .val (.int x), .val (.int (Int32.ofNat cnt)), .val (.int (Int32.ofNat (cnt + (Jvm.Free.SBG.digits nn + Jvm.Free.SBG.GetChars.sgn x))))] []))
  refine own_up (fun tx kx => XS.aloadN X12.here hx rfl (hb hby d7_12) rfl rfl kx) ?_
  show OwnOk p e below _ (T12.setTop (mkF m 13 #[.val (.ref b), .val (.int x), .val (.int (Int32.ofNat cnt)), .val (.int (Int32.ofNat (cnt + (Jvm.Free.SBG.digits nn + Jvm.Free.SBG.GetChars.sgn x))))] [(.ref b)]))
  refine own_up (fun tx kx => XS.iloadN X12.here hx rfl (hb hby d7_13) rfl kx) ?_
  show OwnOk p e below _ (T12.setTop (mkF m 14 #[.val (.ref b), .val (.int x), .val (.int (Int32.ofNat cnt)), .val (.int (Int32.ofNat (cnt + (Jvm.Free.SBG.digits nn + Jvm.Free.SBG.GetChars.sgn x))))] [(.int (Int32.ofNat (cnt + (Jvm.Free.SBG.digits nn + Jvm.Free.SBG.GetChars.sgn x)))), (.ref b)]))
  refine own_callV X12 hx hZ (y := (⟨"java/lang/AbstractStringBuilder", "ensureCapacityInternal", "(I)V"⟩ : MethodName)) (z := (⟨"java/lang/AbstractStringBuilder", "ensureCapacityInternal", "(I)V"⟩ : MethodName)) hown (wd_54 hw) (own_declares (wd_55 hw) (wd_58 hw)) (notFace_of_selects (args := #[]) (mvT hZ (wd_57 hw))) (wd_57 hw) (wd_55 hw) (wd_28 hw) (wd_58 hw) (by decide) (j_fits l Z a0 hw b t kt cap f cnt (cnt + (Jvm.Free.SBG.digits nn + Jvm.Free.SBG.GetChars.sgn x)) h0 n0 OL E_b F_value_b F_coder_b F_count_b E_t V_t n0_b n0_t ne_b_t hm hcap) hh12 (argsL := [(.int (Int32.ofNat (cnt + (Jvm.Free.SBG.digits nn + Jvm.Free.SBG.GetChars.sgn x))))]) (rest := []) E_b (by rw [hml]; rfl) (lenOf pd_0 rfl) rfl rfl (W := 0) rfl (hb hby d7_14) (by decide) (by decide) (by decide) (by decide) (fun T13 v13 L13 X13 hQ13 => ?_)
  obtain ⟨rfl, Nq13, hh13⟩ := hQ13
  have N13 := Fr.app N12 Nq13
  show OwnOk p e below _ (T13.setTop (mkF m 17 #[.val (.ref b), .val (.int x), .val (.int (Int32.ofNat cnt)), .val (.int (Int32.ofNat (cnt + (Jvm.Free.SBG.digits nn + Jvm.Free.SBG.GetChars.sgn x))))] []))
  refine own_up (fun tx kx => XS.aloadN X13.here hx rfl (hb hby d7_17) rfl rfl kx) ?_
  show OwnOk p e below _ (T13.setTop (mkF m 18 #[.val (.ref b), .val (.int x), .val (.int (Int32.ofNat cnt)), .val (.int (Int32.ofNat (cnt + (Jvm.Free.SBG.digits nn + Jvm.Free.SBG.GetChars.sgn x))))] [(.ref b)]))
  refine own_callV X13 hx hZ (y := (⟨"java/lang/AbstractStringBuilder", "isLatin1", "()Z"⟩ : MethodName)) (z := (⟨"java/lang/AbstractStringBuilder", "isLatin1", "()Z"⟩ : MethodName)) hown (wd_59 hw) (wd_60 hw) (notFace_of_selects (args := #[]) (mvT hZ (wd_62 hw))) (wd_62 hw) (wd_61 hw) (wd_28 hw) (wd_63 hw) (by decide) (j_lat1 l Z a0 hw b cz h0 n0 OL SC hcz F_coder_b) hh13 (argsL := []) (rest := []) E_b (by rw [hml]; rfl) (lenOf pd_5 rfl) rfl rfl (W := 0) rfl (hb hby d7_18) (by decide) (by decide) (by decide) (by decide) (fun T14 v14 L14 X14 hQ14 => ?_)
  obtain ⟨rfl, Nq14, hh14⟩ := hQ14
  have N14 := Fr.app N13 Nq14
  show OwnOk p e below _ (T14.setTop (mkF m 21 #[.val (.ref b), .val (.int x), .val (.int (Int32.ofNat cnt)), .val (.int (Int32.ofNat (cnt + (Jvm.Free.SBG.digits nn + Jvm.Free.SBG.GetChars.sgn x))))] [(.int (1 : Int32))]))
  refine own_up (fun tx kx => XS.ifNo X14.here hx rfl (hb hby d7_21) rfl ((if0 _ _).trans (feq (by decide)).1) kx) ?_
  show OwnOk p e below _ (T14.setTop (mkF m 24 #[.val (.ref b), .val (.int x), .val (.int (Int32.ofNat cnt)), .val (.int (Int32.ofNat (cnt + (Jvm.Free.SBG.digits nn + Jvm.Free.SBG.GetChars.sgn x))))] []))
  refine own_up (fun tx kx => XS.iloadN X14.here hx rfl (hb hby d7_24) rfl kx) ?_
  show OwnOk p e below _ (T14.setTop (mkF m 25 #[.val (.ref b), .val (.int x), .val (.int (Int32.ofNat cnt)), .val (.int (Int32.ofNat (cnt + (Jvm.Free.SBG.digits nn + Jvm.Free.SBG.GetChars.sgn x))))] [(.int x)]))
  refine own_up (fun tx kx => XS.iloadN X14.here hx rfl (hb hby d7_25) rfl kx) ?_
  show OwnOk p e below _ (T14.setTop (mkF m 26 #[.val (.ref b), .val (.int x), .val (.int (Int32.ofNat cnt)), .val (.int (Int32.ofNat (cnt + (Jvm.Free.SBG.digits nn + Jvm.Free.SBG.GetChars.sgn x))))] [(.int (Int32.ofNat (cnt + (Jvm.Free.SBG.digits nn + Jvm.Free.SBG.GetChars.sgn x)))), (.int x)]))
  refine own_up (fun tx kx => XS.aloadN X14.here hx rfl (hb hby d7_26) rfl rfl kx) ?_
  show OwnOk p e below _ (T14.setTop (mkF m 27 #[.val (.ref b), .val (.int x), .val (.int (Int32.ofNat cnt)), .val (.int (Int32.ofNat (cnt + (Jvm.Free.SBG.digits nn + Jvm.Free.SBG.GetChars.sgn x))))] [(.ref b), (.int (Int32.ofNat (cnt + (Jvm.Free.SBG.digits nn + Jvm.Free.SBG.GetChars.sgn x)))), (.int x)]))
  obtain ⟨T15, X15, e15, st15⟩ := getF X14 hx hZ hown (host := "") (Or.inl (wd_34 hw)) Via.refl hh14 F_value_b (g := (mkF m 27 #[.val (.ref b), .val (.int x), .val (.int (Int32.ofNat cnt)), .val (.int (Int32.ofNat (cnt + (Jvm.Free.SBG.digits nn + Jvm.Free.SBG.GetChars.sgn x))))] [(.ref b), (.int (Int32.ofNat (cnt + (Jvm.Free.SBG.digits nn + Jvm.Free.SBG.GetChars.sgn x)))), (.int x)])) rfl rfl (hb hby d7_27)
  refine own_up st15 ?_
  show OwnOk p e below _ (T15.setTop (mkF m 30 #[.val (.ref b), .val (.int x), .val (.int (Int32.ofNat cnt)), .val (.int (Int32.ofNat (cnt + (Jvm.Free.SBG.digits nn + Jvm.Free.SBG.GetChars.sgn x))))] [(.ref t), (.int (Int32.ofNat (cnt + (Jvm.Free.SBG.digits nn + Jvm.Free.SBG.GetChars.sgn x)))), (.int x)]))
  refine own_callSB X15 hx hZ (y := (⟨"java/lang/Integer", "getChars", "(II[B)I"⟩ : MethodName)) hown (wd_64 hw) (wd_65 hw) (wd_52 hw) (wd_66 hw) (by decide) (kc := 0) (ks := 0) (Q' := fun v h' L => (∃ z, v = some (.int z)) ∧ Fr n0 L ∧ Keep h0 h' [t] ∧ Arv Z h' t kt .byte (Int32.ofNat cap) (own_F cap (fun q => if cnt + (Jvm.Free.SBG.digits nn + Jvm.Free.SBG.GetChars.sgn x) - (Jvm.Free.SBG.digits nn + Jvm.Free.SBG.GetChars.sgn x) ≤ q ∧ q < cnt + (Jvm.Free.SBG.digits nn + Jvm.Free.SBG.GetChars.sgn x) then own_dg nn x (q - (cnt + (Jvm.Free.SBG.digits nn + Jvm.Free.SBG.GetChars.sgn x) - (Jvm.Free.SBG.digits nn + Jvm.Free.SBG.GetChars.sgn x))) else f q)) (.int 0)) (own_gcBk (W := 0) (n0 := n0) hZ (wd_66 hw) (wd_67 hw) (wd_198 hw) (wd_52 hw) WO WD (SO.ext OL.2) (SD.ext OL.2) (VO.ext OL.2) (VD.ext OL.2) V_t rfl (by omega) hnn hneg (by omega) (by omega) (Nat.ne_of_gt (Nat.lt_of_lt_of_le hlt1 n0_t)) (Nat.ne_of_gt (Nat.lt_of_lt_of_le hlt2 n0_t)) n0_t (by decide) (by decide)) e15 (argsL := [(.int x), (.int (Int32.ofNat (cnt + (Jvm.Free.SBG.digits nn + Jvm.Free.SBG.GetChars.sgn x)))), (.ref t)]) (rest := []) (by rw [hml]; rfl) (lenOf pd_6 rfl) rfl rfl (W := 0) rfl (hb hby d7_30) (by decide) (by decide) (fun T16 v16 L16 X16 hQ16 => ?_)
  obtain ⟨⟨zz16, rfl⟩, Nq16, Kq16, Vq16⟩ := hQ16
  have N16 := Fr.app N14 Nq16
  have OL16 := OL.keep Kq16 (allS n0_t all0)
  have KP16 := KP0.trans Kq16 (allS (Or.inl (List.mem_of_getElem? (i := 1) rfl)) all0)
  show OwnOk p e below _ (T16.setTop (mkF m 33 #[.val (.ref b), .val (.int x), .val (.int (Int32.ofNat cnt)), .val (.int (Int32.ofNat (cnt + (Jvm.Free.SBG.digits nn + Jvm.Free.SBG.GetChars.sgn x))))] [(.int zz16)]))
  refine own_up (fun tx kx => XS.pop X16.here hx rfl (hb hby d7_33) rfl rfl kx) ?_
  show OwnOk p e below _ (T16.setTop (mkF m 34 #[.val (.ref b), .val (.int x), .val (.int (Int32.ofNat cnt)), .val (.int (Int32.ofNat (cnt + (Jvm.Free.SBG.digits nn + Jvm.Free.SBG.GetChars.sgn x))))] []))
  refine own_up (fun tx kx => XS.goto X16.here hx rfl (pc0 := 34) (pc' := 48) rfl (hb hby d7_34) (by decide) (by decide) kx) ?_
  show OwnOk p e below _ (T16.setTop (mkF m 48 #[.val (.ref b), .val (.int x), .val (.int (Int32.ofNat cnt)), .val (.int (Int32.ofNat (cnt + (Jvm.Free.SBG.digits nn + Jvm.Free.SBG.GetChars.sgn x))))] []))
  refine own_up (fun tx kx => XS.aloadN X16.here hx rfl (hb hby d7_48) rfl rfl kx) ?_
  show OwnOk p e below _ (T16.setTop (mkF m 49 #[.val (.ref b), .val (.int x), .val (.int (Int32.ofNat cnt)), .val (.int (Int32.ofNat (cnt + (Jvm.Free.SBG.digits nn + Jvm.Free.SBG.GetChars.sgn x))))] [(.ref b)]))
  refine own_up (fun tx kx => XS.iloadN X16.here hx rfl (hb hby d7_49) rfl kx) ?_
  show OwnOk p e below _ (T16.setTop (mkF m 50 #[.val (.ref b), .val (.int x), .val (.int (Int32.ofNat cnt)), .val (.int (Int32.ofNat (cnt + (Jvm.Free.SBG.digits nn + Jvm.Free.SBG.GetChars.sgn x))))] [(.int (Int32.ofNat (cnt + (Jvm.Free.SBG.digits nn + Jvm.Free.SBG.GetChars.sgn x)))), (.ref b)]))
  have F_count_b_17 := (F_count_b.keep Kq16 (ninS ne_b_t nin0))
  have E_b_18 := (E_b.keep Kq16)
  obtain ⟨T19, h19, X19, e19, W19, st19⟩ := putF X16 hx hZ hown (host := "") (Or.inl (wd_48 hw)) Via.refl rfl F_count_b_17 E_b_18 (Or.inl (wd_49 hw)) (wd_19 hw) (ty := .int) (by decide) rfl rfl (g := (mkF m 50 #[.val (.ref b), .val (.int x), .val (.int (Int32.ofNat cnt)), .val (.int (Int32.ofNat (cnt + (Jvm.Free.SBG.digits nn + Jvm.Free.SBG.GetChars.sgn x))))] [(.int (Int32.ofNat (cnt + (Jvm.Free.SBG.digits nn + Jvm.Free.SBG.GetChars.sgn x)))), (.ref b)])) rfl rfl (hb hby d7_50)
  have Fw19 := Fld.same W19 F_count_b_17
  have N19 := Fr.snoc X19 N16 n0_b
  have OL20 := OL16.wr W19 n0_b
  have KP20 := KP16.wr W19 (Or.inl (List.mem_of_getElem? (i := 0) rfl))
  refine own_up st19 ?_
  show OwnOk p e below _ (T19.setTop (mkF m 53 #[.val (.ref b), .val (.int x), .val (.int (Int32.ofNat cnt)), .val (.int (Int32.ofNat (cnt + (Jvm.Free.SBG.digits nn + Jvm.Free.SBG.GetChars.sgn x))))] []))
  refine own_up (fun tx kx => XS.aloadN X19.here hx rfl (hb hby d7_53) rfl rfl kx) ?_
  show OwnOk p e below _ (T19.setTop (mkF m 54 #[.val (.ref b), .val (.int x), .val (.int (Int32.ofNat cnt)), .val (.int (Int32.ofNat (cnt + (Jvm.Free.SBG.digits nn + Jvm.Free.SBG.GetChars.sgn x))))] [(.ref b)]))
  have E_b_21 := (E_b_18.wr W19)
  have F_value_b_22 := ((F_value_b.keep Kq16 (ninS ne_b_t nin0)).other W19 (Or.inr (slot_ne (Or.inl (wd_35 hw)) (Or.inl (wd_49 hw)) (by decide) (t := (.array .byte)) (t' := .int) (by decide) (by decide))))
  have F_coder_b_23 := ((F_coder_b.keep Kq16 (ninS ne_b_t nin0)).other W19 (Or.inr (slot_ne (Or.inl (wd_37 hw)) (Or.inl (wd_49 hw)) (by decide) (t := .byte) (t' := .int) (by decide) (by decide))))
  have E_t_24 := ((E_t.keep Kq16).wr W19)
  have V_t_25 := (Vq16.other W19 (Ne.symm ne_b_t))
  refine own_retR X19 hx (t := (.object "java/lang/AbstractStringBuilder")) (show meth.sig.returnType = some (.object "java/lang/AbstractStringBuilder") from hret) rfl hlk rfl (hb hby d7_54) e19 (Nat.le_of_ble_eq_true rfl) (Nat.le_of_ble_eq_true rfl) ?_
  exact ⟨rfl, N19, KP20, E_b_21, F_value_b_22, F_coder_b_23, Fw19, E_t_24, V_t_25⟩
def Q_j_sbI (Z : State) (b t : Addr) (kt : ClassId) (cap : Nat) (f : Nat → Int32) (cnt : Nat) (x : Int32) (nn : Nat) (h0 : Heap) (n0 : Nat) (v : Option Value) (h : Heap) (L : List Loc) : Prop := v = some (.ref b) ∧ Fr n0 L ∧ Keep h0 h [b, t] ∧ (Exa Z h b "java/lang/StringBuilder") ∧ (Fld Z h b "java/lang/AbstractStringBuilder" "value" "[B" (.ref t)) ∧ (Fld Z h b "java/lang/AbstractStringBuilder" "coder" "B" (.int (0 : Int32))) ∧ (Fld Z h b "java/lang/AbstractStringBuilder" "count" "I" (.int (Int32.ofNat (cnt + (Jvm.Free.SBG.digits nn + Jvm.Free.SBG.GetChars.sgn x))))) ∧ (Exa Z h t "[B") ∧ (Arv Z h t kt .byte (Int32.ofNat cap) (own_F cap (fun q => if cnt + (Jvm.Free.SBG.digits nn + Jvm.Free.SBG.GetChars.sgn x) - (Jvm.Free.SBG.digits nn + Jvm.Free.SBG.GetChars.sgn x) ≤ q ∧ q < cnt + (Jvm.Free.SBG.digits nn + Jvm.Free.SBG.GetChars.sgn x) then own_dg nn x (q - (cnt + (Jvm.Free.SBG.digits nn + Jvm.Free.SBG.GetChars.sgn x) - (Jvm.Free.SBG.digits nn + Jvm.Free.SBG.GetChars.sgn x))) else f q)) (.int (0 : Int32)))
set_option maxRecDepth 65536 in
set_option maxHeartbeats 40000000 in
theorem j_sbI (l : Launch) (Z : State) (a0 : Array Value) (hw : ∀ d ∈ tables_1, d.before a0 Z = true) (b t : Addr) (kt : ClassId) (cap : Nat) (f : Nat → Int32) (cnt : Nat) (x : Int32) (nn : Nat) (cz : Int32) (d1 d2 : Addr) (k1 k2 : ClassId) (h0 : Heap) (n0 : Nat) (OL : Old Z n0 h0) (SC : Sta Z Z.heap "java/lang/String" "COMPACT_STRINGS" "Z" (.int cz)) (hcz : ¬ cz = 0) (SO : Sta Z Z.heap "java/lang/Integer" "DigitOnes" "[B" (.ref d1)) (SD : Sta Z Z.heap "java/lang/Integer" "DigitTens" "[B" (.ref d2)) (VO : Arv Z Z.heap d1 k1 .byte (Int32.ofNat 100) (own_F 100 fun r => Int32.ofNat (48 + r % 10)) (.int 0)) (VD : Arv Z Z.heap d2 k2 .byte (Int32.ofNat 100) (own_F 100 fun r => Int32.ofNat (48 + r / 10)) (.int 0)) (WO : (Jvm.Cond.laysStatic "java/lang/Integer" "DigitOnes" "[B").before a0 Z = true) (WD : (Jvm.Cond.laysStatic "java/lang/Integer" "DigitTens" "[B").before a0 Z = true) (E_b : Exa Z h0 b "java/lang/StringBuilder") (F_value_b : Fld Z h0 b "java/lang/AbstractStringBuilder" "value" "[B" (.ref t)) (F_coder_b : Fld Z h0 b "java/lang/AbstractStringBuilder" "coder" "B" (.int (0 : Int32))) (F_count_b : Fld Z h0 b "java/lang/AbstractStringBuilder" "count" "I" (.int (Int32.ofNat cnt))) (E_t : Exa Z h0 t "[B") (V_t : Arv Z h0 t kt .byte (Int32.ofNat cap) (own_F cap f) (.int (0 : Int32))) (n0_b : n0 ≤ b) (n0_t : n0 ≤ t) (ne_b_t : b ≠ t) (hnn : nn ≤ 2 ^ 31) (hneg : (if x < 0 then x else -x) = Jvm.Free.SBG.negI nn) (hlt1 : d1 < n0) (hlt2 : d2 < n0) (hm : cnt + (Jvm.Free.SBG.digits nn + Jvm.Free.SBG.GetChars.sgn x) ≤ cap) (hcap : cap ≤ 4000) (hcnt : cnt ≤ cap) :
    own_Met l Z (⟨"java/lang/StringBuilder", "append", "(I)Ljava/lang/StringBuilder;"⟩ : MethodName) jdk_67_method_15_code 2 (some (.object "java/lang/StringBuilder")) ({ frames := 3, cells := 0, slots := 0, locals := 93 } : Room) #[(.ref b), (.int x)] h0 (Q_j_sbI Z b t kt cap f cnt x nn h0 n0) := by
  refine own_body (L0 := #[.val (.ref b), .val (.int x)]) (plainFor_of_name (by first | (simp [plainName, overriddenIn]; done) | decide +kernel)) (fun m => by first | (simp [entryFrame, mkF, argsToLocals, Value.category]; done) | rfl) ?_
  intro p e s m below meth c s₁ hx hby hml hZ hown hnm hret hlk X0 e0
  have N0 := Fr.nil n0
  have Z0 : n0 ≤ h0.size := OL.1 ▸ OL.2.1
  show OwnOk p e below _ (s₁.setTop (mkF m 0 #[.val (.ref b), .val (.int x)] []))
  have KP0 : Keep h0 h0 [b, t] := Keep.refl h0 _
  refine own_up (fun tx kx => XS.aloadN X0.here hx rfl (hb hby d6_0) rfl rfl kx) ?_
  show OwnOk p e below _ (s₁.setTop (mkF m 1 #[.val (.ref b), .val (.int x)] [(.ref b)]))
  refine own_up (fun tx kx => XS.iloadN X0.here hx rfl (hb hby d6_1) rfl kx) ?_
  show OwnOk p e below _ (s₁.setTop (mkF m 2 #[.val (.ref b), .val (.int x)] [(.int x), (.ref b)]))
  refine own_callUB X0 hx hZ (y := (⟨"java/lang/AbstractStringBuilder", "append", "(I)Ljava/lang/AbstractStringBuilder;"⟩ : MethodName)) hown (wd_43 hw) (own_sameMethod (own_nf (y1 := (⟨"java/lang/AbstractStringBuilder", "ensureCapacityInternal", "(I)V"⟩ : MethodName)) (notFace_of_selects (wd_57 hw)) rfl (wd_55 hw)) (wd_44 hw) (by decide)) (wd_44 hw) (wd_45 hw) (by decide) (wd_47 hw) (own_bk (j_asbI l Z a0 hw b t kt cap f cnt x nn cz d1 d2 k1 k2 h0 n0 OL SC hcz SO SD VO VD WO WD E_b F_value_b F_coder_b F_count_b E_t V_t n0_b n0_t ne_b_t hnn hneg hlt1 hlt2 hm hcap hcnt) hZ (wd_47 hw) (wd_28 hw) (by decide) (by decide)) e0 (argsL := [(.int x)]) (rest := []) E_b (by rw [hml]; rfl) (lenOf pd_7 rfl) rfl rfl (W := 0) rfl (hb hby d6_2) (by decide) (by decide) (fun T11 v11 L11 X11 hQ11 => ?_)
  obtain ⟨rfl, Nq11, Kq11, E_11, fv11, fc11, fn11, et11, vt11⟩ := hQ11
  have N11 := Fr.app N0 Nq11
  have OL11 := OL.keep Kq11 (allS n0_b (allS n0_t all0))
  have KP11 := KP0.trans Kq11 (allS (Or.inl (List.mem_of_getElem? (i := 0) rfl)) (allS (Or.inl (List.mem_of_getElem? (i := 1) rfl)) all0))
  show OwnOk p e below _ (T11.setTop (mkF m 5 #[.val (.ref b), .val (.int x)] [(.ref b)]))
  refine own_up (fun tx kx => XS.pop X11.here hx rfl (hb hby d6_5) rfl rfl kx) ?_
  show OwnOk p e below _ (T11.setTop (mkF m 6 #[.val (.ref b), .val (.int x)] []))
  refine own_up (fun tx kx => XS.aloadN X11.here hx rfl (hb hby d6_6) rfl rfl kx) ?_
  show OwnOk p e below _ (T11.setTop (mkF m 7 #[.val (.ref b), .val (.int x)] [(.ref b)]))
  refine own_retR X11 hx (t := (.object "java/lang/StringBuilder")) (show meth.sig.returnType = some (.object "java/lang/StringBuilder") from hret) rfl hlk rfl (hb hby d6_7) rfl (Nat.le_of_ble_eq_true rfl) (Nat.le_of_ble_eq_true rfl) ?_
  exact ⟨rfl, N11, KP11, E_11, fv11, fc11, fn11, et11, vt11⟩
def Q_j_asbIg (Z : State) (b t : Addr) (kt : ClassId) (f : Nat → Int32) (cnt : Nat) (x : Int32) (nn : Nat) (h0 : Heap) (n0 : Nat) (v : Option Value) (h : Heap) (L : List Loc) : Prop := v = some (.ref b) ∧ Fr n0 L ∧ Keep h0 h [b] ∧ ∃ (t' : Addr) (kt' : ClassId), h0.size ≤ t' ∧ (Exa Z h b "java/lang/StringBuilder") ∧ (Fld Z h b "java/lang/AbstractStringBuilder" "value" "[B" (.ref t')) ∧ (Fld Z h b "java/lang/AbstractStringBuilder" "coder" "B" (.int (0 : Int32))) ∧ (Fld Z h b "java/lang/AbstractStringBuilder" "count" "I" (.int (Int32.ofNat (cnt + (Jvm.Free.SBG.digits nn + Jvm.Free.SBG.GetChars.sgn x))))) ∧ (Exa Z h t' "[B") ∧ (Arv Z h t' kt' .byte (Int32.ofNat 34) (own_F 34 (fun q => if cnt + (Jvm.Free.SBG.digits nn + Jvm.Free.SBG.GetChars.sgn x) - (Jvm.Free.SBG.digits nn + Jvm.Free.SBG.GetChars.sgn x) ≤ q ∧ q < cnt + (Jvm.Free.SBG.digits nn + Jvm.Free.SBG.GetChars.sgn x) then own_dg nn x (q - (cnt + (Jvm.Free.SBG.digits nn + Jvm.Free.SBG.GetChars.sgn x) - (Jvm.Free.SBG.digits nn + Jvm.Free.SBG.GetChars.sgn x))) else (fun j => if 0 ≤ j ∧ j < 0 + 16 then f (0 + (j - 0)) else (fun _ => 0) j) q)) (.int (0 : Int32)))
set_option maxRecDepth 65536 in
set_option maxHeartbeats 40000000 in
theorem j_asbIg (l : Launch) (Z : State) (a0 : Array Value) (hw : ∀ d ∈ tables_1, d.before a0 Z = true) (b t : Addr) (kt : ClassId) (f : Nat → Int32) (cnt : Nat) (x : Int32) (nn : Nat) (cz : Int32) (d1 d2 : Addr) (k1 k2 : ClassId) (h0 : Heap) (n0 : Nat) (OL : Old Z n0 h0) (SC : Sta Z Z.heap "java/lang/String" "COMPACT_STRINGS" "Z" (.int cz)) (hcz : ¬ cz = 0) (SO : Sta Z Z.heap "java/lang/Integer" "DigitOnes" "[B" (.ref d1)) (SD : Sta Z Z.heap "java/lang/Integer" "DigitTens" "[B" (.ref d2)) (VO : Arv Z Z.heap d1 k1 .byte (Int32.ofNat 100) (own_F 100 fun r => Int32.ofNat (48 + r % 10)) (.int 0)) (VD : Arv Z Z.heap d2 k2 .byte (Int32.ofNat 100) (own_F 100 fun r => Int32.ofNat (48 + r / 10)) (.int 0)) (WO : (Jvm.Cond.laysStatic "java/lang/Integer" "DigitOnes" "[B").before a0 Z = true) (WD : (Jvm.Cond.laysStatic "java/lang/Integer" "DigitTens" "[B").before a0 Z = true) (E_b : Exa Z h0 b "java/lang/StringBuilder") (F_value_b : Fld Z h0 b "java/lang/AbstractStringBuilder" "value" "[B" (.ref t)) (F_coder_b : Fld Z h0 b "java/lang/AbstractStringBuilder" "coder" "B" (.int (0 : Int32))) (F_count_b : Fld Z h0 b "java/lang/AbstractStringBuilder" "count" "I" (.int (Int32.ofNat cnt))) (E_t : Exa Z h0 t "[B") (V_t : Arv Z h0 t kt .byte (Int32.ofNat 16) (own_F 16 f) (.int (0 : Int32))) (n0_b : n0 ≤ b) (n0_t : n0 ≤ t) (ne_b_t : b ≠ t) (hnn : nn ≤ 2 ^ 31) (hneg : (if x < 0 then x else -x) = Jvm.Free.SBG.negI nn) (hlt1 : d1 < n0) (hlt2 : d2 < n0) (hm : 16 < cnt + (Jvm.Free.SBG.digits nn + Jvm.Free.SBG.GetChars.sgn x)) (hm2 : cnt + (Jvm.Free.SBG.digits nn + Jvm.Free.SBG.GetChars.sgn x) ≤ 34) (hcnt : cnt ≤ 16) :
    own_Met l Z (⟨"java/lang/AbstractStringBuilder", "append", "(I)Ljava/lang/AbstractStringBuilder;"⟩ : MethodName) jdk_68_method_32_code 4 (some (.object "java/lang/AbstractStringBuilder")) ({ frames := 4, cells := 1, slots := 34, locals := 78 } : Room) #[(.ref b), (.int x)] h0 (Q_j_asbIg Z b t kt f cnt x nn h0 n0) := by
  refine own_body (L0 := #[.val (.ref b), .val (.int x), .unset, .unset]) (plainFor_of_name (by first | (simp [plainName, overriddenIn]; done) | decide +kernel)) (fun m => by first | (simp [entryFrame, mkF, argsToLocals, Value.category]; done) | rfl) ?_
  intro p e s m below meth c s₁ hx hby hml hZ hown hnm hret hlk X0 e0
  have N0 := Fr.nil n0
  have Z0 : n0 ≤ h0.size := OL.1 ▸ OL.2.1
  show OwnOk p e below _ (s₁.setTop (mkF m 0 #[.val (.ref b), .val (.int x), .unset, .unset] []))
  have KP0 : Keep h0 h0 [b] := Keep.refl h0 _
  refine own_up (fun tx kx => XS.aloadN X0.here hx rfl (hb hby d7_0) rfl rfl kx) ?_
  show OwnOk p e below _ (s₁.setTop (mkF m 1 #[.val (.ref b), .val (.int x), .unset, .unset] [(.ref b)]))
  obtain ⟨T11, X11, e11, st11⟩ := getF X0 hx hZ hown (host := "") (Or.inl (wd_48 hw)) Via.refl e0 F_count_b (g := (mkF m 1 #[.val (.ref b), .val (.int x), .unset, .unset] [(.ref b)])) rfl rfl (hb hby d7_1)
  refine own_up st11 ?_
  show OwnOk p e below _ (T11.setTop (mkF m 4 #[.val (.ref b), .val (.int x), .unset, .unset] [(.int (Int32.ofNat cnt))]))
  refine own_up (fun tx kx => XS.istoreN X11.here hx rfl (hb hby d7_4) rfl (l' := #[.val (.ref b), .val (.int x), .val (.int (Int32.ofNat cnt)), .unset]) rfl kx) ?_
  show OwnOk p e below _ (T11.setTop (mkF m 5 #[.val (.ref b), .val (.int x), .val (.int (Int32.ofNat cnt)), .unset] []))
  refine own_up (fun tx kx => XS.iloadN X11.here hx rfl (hb hby d7_5) rfl kx) ?_
  show OwnOk p e below _ (T11.setTop (mkF m 6 #[.val (.ref b), .val (.int x), .val (.int (Int32.ofNat cnt)), .unset] [(.int (Int32.ofNat cnt))]))
  refine own_up (fun tx kx => XS.iloadN X11.here hx rfl (hb hby d7_6) rfl kx) ?_
  show OwnOk p e below _ (T11.setTop (mkF m 7 #[.val (.ref b), .val (.int x), .val (.int (Int32.ofNat cnt)), .unset] [(.int x), (.int (Int32.ofNat cnt))]))
  refine own_callSB X11 hx hZ (y := (⟨"java/lang/Integer", "stringSize", "(I)I"⟩ : MethodName)) hown (wd_50 hw) (wd_51 hw) (wd_52 hw) (wd_53 hw) (by decide) (kc := 0) (ks := 0) (Q' := fun v h' L => v = some (.int (Int32.ofNat (Jvm.Free.SBG.digits nn + Jvm.Free.SBG.GetChars.sgn x))) ∧ Fr n0 L ∧ h' = h0) (own_ssBk (W := 1) (n0 := n0) hZ (wd_53 hw) (wd_52 hw) hnn hneg (by decide) (by decide)) e11 (argsL := [(.int x)]) (rest := [(.int (Int32.ofNat cnt))]) (by rw [hml]; rfl) (lenOf pd_3 rfl) rfl rfl (W := 1) rfl (hb hby d7_7) (by decide) (by decide) (fun T12 v12 L12 X12 hQ12 => ?_)
  obtain ⟨rfl, Nq12, hh12⟩ := hQ12
  have N12 := Fr.app N0 Nq12
  show OwnOk p e below _ (T12.setTop (mkF m 10 #[.val (.ref b), .val (.int x), .val (.int (Int32.ofNat cnt)), .unset] [(.int (Int32.ofNat (Jvm.Free.SBG.digits nn + Jvm.Free.SBG.GetChars.sgn x))), (.int (Int32.ofNat cnt))]))
  refine own_up (fun tx kx => XS.iadd X12.here hx rfl (hb hby d7_10) rfl kx) ?_
  show OwnOk p e below _ (T12.setTop (mkF m 11 #[.val (.ref b), .val (.int x), .val (.int (Int32.ofNat cnt)), .unset] [(.int ((Int32.ofNat cnt) + (Int32.ofNat (Jvm.Free.SBG.digits nn + Jvm.Free.SBG.GetChars.sgn x))))]))
  rw [show ((Int32.ofNat cnt) + (Int32.ofNat (Jvm.Free.SBG.digits nn + Jvm.Free.SBG.GetChars.sgn x))) = (Int32.ofNat (cnt + (Jvm.Free.SBG.digits nn + Jvm.Free.SBG.GetChars.sgn x))) from (Int32.ofNat_add cnt (Jvm.Free.SBG.digits nn + Jvm.Free.SBG.GetChars.sgn x)).symm]
  show OwnOk p e below _ (T12.setTop (mkF m 11 #[.val (.ref b), .val (.int x), .val (.int (Int32.ofNat cnt)), .unset] [(.int (Int32.ofNat (cnt + (Jvm.Free.SBG.digits nn + Jvm.Free.SBG.GetChars.sgn x))))]))
  refine own_up (fun tx kx => XS.istoreN X12.here hx rfl (hb hby d7_11) rfl (l' := #[.val (.ref b), .val (.int x), .val (.int (Int32.ofNat cnt)), .val (.int (Int32.ofNat (cnt + (Jvm.Free.SBG.digits nn + Jvm.Free.SBG.GetChars.sgn x))))]) rfl kx) ?_
  show OwnOk p e below _ (T12.setTop (mkF m 12 #[.val (.ref b), .val (.int x), .val (.int (Int32.ofNat cnt)), .val (.int (Int32.ofNat (cnt + (Jvm.Free.SBG.digits nn + Jvm.Free.SBG.GetChars.sgn x))))] []))
  refine own_up (fun tx kx => XS.aloadN X12.here hx rfl (hb hby d7_12) rfl rfl kx) ?_
  show OwnOk p e below _ (T12.setTop (mkF m 13 #[.val (.ref b), .val (.int x), .val (.int (Int32.ofNat cnt)), .val (.int (Int32.ofNat (cnt + (Jvm.Free.SBG.digits nn + Jvm.Free.SBG.GetChars.sgn x))))] [(.ref b)]))
  refine own_up (fun tx kx => XS.iloadN X12.here hx rfl (hb hby d7_13) rfl kx) ?_
  show OwnOk p e below _ (T12.setTop (mkF m 14 #[.val (.ref b), .val (.int x), .val (.int (Int32.ofNat cnt)), .val (.int (Int32.ofNat (cnt + (Jvm.Free.SBG.digits nn + Jvm.Free.SBG.GetChars.sgn x))))] [(.int (Int32.ofNat (cnt + (Jvm.Free.SBG.digits nn + Jvm.Free.SBG.GetChars.sgn x)))), (.ref b)]))
  refine own_callV X12 hx hZ (y := (⟨"java/lang/AbstractStringBuilder", "ensureCapacityInternal", "(I)V"⟩ : MethodName)) (z := (⟨"java/lang/AbstractStringBuilder", "ensureCapacityInternal", "(I)V"⟩ : MethodName)) hown (wd_54 hw) (own_declares (wd_55 hw) (wd_58 hw)) (notFace_of_selects (args := #[]) (mvT hZ (wd_57 hw))) (wd_57 hw) (wd_55 hw) (wd_28 hw) (wd_58 hw) (by decide) (j_grow l Z a0 hw b t kt f cnt (cnt + (Jvm.Free.SBG.digits nn + Jvm.Free.SBG.GetChars.sgn x)) h0 n0 OL E_b F_value_b F_coder_b F_count_b E_t V_t n0_b n0_t ne_b_t hm hm2) hh12 (argsL := [(.int (Int32.ofNat (cnt + (Jvm.Free.SBG.digits nn + Jvm.Free.SBG.GetChars.sgn x))))]) (rest := []) E_b (by rw [hml]; rfl) (lenOf pd_0 rfl) rfl rfl (W := 0) rfl (hb hby d7_14) (by decide) (by decide) (by decide) (by decide) (fun T13 v13 L13 X13 hQ13 => ?_)
  obtain ⟨rfl, Nq13, Kq13, tt13, kk13, gt13, E_13, fv13, fc13, fn13, et13, vt13⟩ := hQ13
  have N13 := Fr.app N12 Nq13
  have lt_b_tt13 : b < tt13 := Nat.lt_of_lt_of_le E_b.lt gt13
  have lt_t_tt13 : t < tt13 := Nat.lt_of_lt_of_le E_t.lt gt13
  have n0_tt13 : n0 ≤ tt13 := Nat.le_trans (own_n0 OL) gt13
  have ws_tt13 : h0.size ≤ tt13 := Nat.le_trans KP0.1 gt13
  have OL13 := OL.keep Kq13 (allS n0_b all0)
  have KP13 := KP0.trans Kq13 (allS (Or.inl (List.mem_of_getElem? (i := 0) rfl)) all0)
  show OwnOk p e below _ (T13.setTop (mkF m 17 #[.val (.ref b), .val (.int x), .val (.int (Int32.ofNat cnt)), .val (.int (Int32.ofNat (cnt + (Jvm.Free.SBG.digits nn + Jvm.Free.SBG.GetChars.sgn x))))] []))
  refine own_up (fun tx kx => XS.aloadN X13.here hx rfl (hb hby d7_17) rfl rfl kx) ?_
  show OwnOk p e below _ (T13.setTop (mkF m 18 #[.val (.ref b), .val (.int x), .val (.int (Int32.ofNat cnt)), .val (.int (Int32.ofNat (cnt + (Jvm.Free.SBG.digits nn + Jvm.Free.SBG.GetChars.sgn x))))] [(.ref b)]))
  refine own_callV X13 hx hZ (y := (⟨"java/lang/AbstractStringBuilder", "isLatin1", "()Z"⟩ : MethodName)) (z := (⟨"java/lang/AbstractStringBuilder", "isLatin1", "()Z"⟩ : MethodName)) hown (wd_59 hw) (wd_60 hw) (notFace_of_selects (args := #[]) (mvT hZ (wd_62 hw))) (wd_62 hw) (wd_61 hw) (wd_28 hw) (wd_63 hw) (by decide) (j_lat1 l Z a0 hw b cz T13.heap n0 OL13 SC hcz fc13) rfl (argsL := []) (rest := []) E_13 (by rw [hml]; rfl) (lenOf pd_5 rfl) rfl rfl (W := 0) rfl (hb hby d7_18) (by decide) (by decide) (by decide) (by decide) (fun T14 v14 L14 X14 hQ14 => ?_)
  obtain ⟨rfl, Nq14, hh14⟩ := hQ14
  have N14 := Fr.app N13 Nq14
  show OwnOk p e below _ (T14.setTop (mkF m 21 #[.val (.ref b), .val (.int x), .val (.int (Int32.ofNat cnt)), .val (.int (Int32.ofNat (cnt + (Jvm.Free.SBG.digits nn + Jvm.Free.SBG.GetChars.sgn x))))] [(.int (1 : Int32))]))
  refine own_up (fun tx kx => XS.ifNo X14.here hx rfl (hb hby d7_21) rfl ((if0 _ _).trans (feq (by decide)).1) kx) ?_
  show OwnOk p e below _ (T14.setTop (mkF m 24 #[.val (.ref b), .val (.int x), .val (.int (Int32.ofNat cnt)), .val (.int (Int32.ofNat (cnt + (Jvm.Free.SBG.digits nn + Jvm.Free.SBG.GetChars.sgn x))))] []))
  refine own_up (fun tx kx => XS.iloadN X14.here hx rfl (hb hby d7_24) rfl kx) ?_
  show OwnOk p e below _ (T14.setTop (mkF m 25 #[.val (.ref b), .val (.int x), .val (.int (Int32.ofNat cnt)), .val (.int (Int32.ofNat (cnt + (Jvm.Free.SBG.digits nn + Jvm.Free.SBG.GetChars.sgn x))))] [(.int x)]))
  refine own_up (fun tx kx => XS.iloadN X14.here hx rfl (hb hby d7_25) rfl kx) ?_
  show OwnOk p e below _ (T14.setTop (mkF m 26 #[.val (.ref b), .val (.int x), .val (.int (Int32.ofNat cnt)), .val (.int (Int32.ofNat (cnt + (Jvm.Free.SBG.digits nn + Jvm.Free.SBG.GetChars.sgn x))))] [(.int (Int32.ofNat (cnt + (Jvm.Free.SBG.digits nn + Jvm.Free.SBG.GetChars.sgn x)))), (.int x)]))
  refine own_up (fun tx kx => XS.aloadN X14.here hx rfl (hb hby d7_26) rfl rfl kx) ?_
  show OwnOk p e below _ (T14.setTop (mkF m 27 #[.val (.ref b), .val (.int x), .val (.int (Int32.ofNat cnt)), .val (.int (Int32.ofNat (cnt + (Jvm.Free.SBG.digits nn + Jvm.Free.SBG.GetChars.sgn x))))] [(.ref b), (.int (Int32.ofNat (cnt + (Jvm.Free.SBG.digits nn + Jvm.Free.SBG.GetChars.sgn x)))), (.int x)]))
  obtain ⟨T15, X15, e15, st15⟩ := getF X14 hx hZ hown (host := "") (Or.inl (wd_34 hw)) Via.refl hh14 fv13 (g := (mkF m 27 #[.val (.ref b), .val (.int x), .val (.int (Int32.ofNat cnt)), .val (.int (Int32.ofNat (cnt + (Jvm.Free.SBG.digits nn + Jvm.Free.SBG.GetChars.sgn x))))] [(.ref b), (.int (Int32.ofNat (cnt + (Jvm.Free.SBG.digits nn + Jvm.Free.SBG.GetChars.sgn x)))), (.int x)])) rfl rfl (hb hby d7_27)
  refine own_up st15 ?_
  show OwnOk p e below _ (T15.setTop (mkF m 30 #[.val (.ref b), .val (.int x), .val (.int (Int32.ofNat cnt)), .val (.int (Int32.ofNat (cnt + (Jvm.Free.SBG.digits nn + Jvm.Free.SBG.GetChars.sgn x))))] [(.ref tt13), (.int (Int32.ofNat (cnt + (Jvm.Free.SBG.digits nn + Jvm.Free.SBG.GetChars.sgn x)))), (.int x)]))
  refine own_callSB X15 hx hZ (y := (⟨"java/lang/Integer", "getChars", "(II[B)I"⟩ : MethodName)) hown (wd_64 hw) (wd_65 hw) (wd_52 hw) (wd_66 hw) (by decide) (kc := 0) (ks := 0) (Q' := fun v h' L => (∃ z, v = some (.int z)) ∧ Fr n0 L ∧ Keep T13.heap h' [tt13] ∧ Arv Z h' tt13 kk13 .byte (Int32.ofNat 34) (own_F 34 (fun q => if cnt + (Jvm.Free.SBG.digits nn + Jvm.Free.SBG.GetChars.sgn x) - (Jvm.Free.SBG.digits nn + Jvm.Free.SBG.GetChars.sgn x) ≤ q ∧ q < cnt + (Jvm.Free.SBG.digits nn + Jvm.Free.SBG.GetChars.sgn x) then own_dg nn x (q - (cnt + (Jvm.Free.SBG.digits nn + Jvm.Free.SBG.GetChars.sgn x) - (Jvm.Free.SBG.digits nn + Jvm.Free.SBG.GetChars.sgn x))) else (fun j => if 0 ≤ j ∧ j < 0 + 16 then f (0 + (j - 0)) else (fun _ => 0) j) q)) (.int 0)) (own_gcBk (W := 0) (n0 := n0) hZ (wd_66 hw) (wd_67 hw) (wd_198 hw) (wd_52 hw) WO WD (SO.ext OL13.2) (SD.ext OL13.2) (VO.ext OL13.2) (VD.ext OL13.2) vt13 rfl (by omega) hnn hneg (by omega) (by omega) (Nat.ne_of_gt (Nat.lt_of_lt_of_le hlt1 n0_tt13)) (Nat.ne_of_gt (Nat.lt_of_lt_of_le hlt2 n0_tt13)) n0_tt13 (by decide) (by decide)) e15 (argsL := [(.int x), (.int (Int32.ofNat (cnt + (Jvm.Free.SBG.digits nn + Jvm.Free.SBG.GetChars.sgn x)))), (.ref tt13)]) (rest := []) (by rw [hml]; rfl) (lenOf pd_6 rfl) rfl rfl (W := 0) rfl (hb hby d7_30) (by decide) (by decide) (fun T16 v16 L16 X16 hQ16 => ?_)
  obtain ⟨⟨zz16, rfl⟩, Nq16, Kq16, Vq16⟩ := hQ16
  have N16 := Fr.app N14 Nq16
  have OL16 := OL13.keep Kq16 (allS n0_tt13 all0)
  have KP16 := KP13.trans Kq16 (allS (Or.inr ws_tt13) all0)
  show OwnOk p e below _ (T16.setTop (mkF m 33 #[.val (.ref b), .val (.int x), .val (.int (Int32.ofNat cnt)), .val (.int (Int32.ofNat (cnt + (Jvm.Free.SBG.digits nn + Jvm.Free.SBG.GetChars.sgn x))))] [(.int zz16)]))
  refine own_up (fun tx kx => XS.pop X16.here hx rfl (hb hby d7_33) rfl rfl kx) ?_
  show OwnOk p e below _ (T16.setTop (mkF m 34 #[.val (.ref b), .val (.int x), .val (.int (Int32.ofNat cnt)), .val (.int (Int32.ofNat (cnt + (Jvm.Free.SBG.digits nn + Jvm.Free.SBG.GetChars.sgn x))))] []))
  refine own_up (fun tx kx => XS.goto X16.here hx rfl (pc0 := 34) (pc' := 48) rfl (hb hby d7_34) (by decide) (by decide) kx) ?_
  show OwnOk p e below _ (T16.setTop (mkF m 48 #[.val (.ref b), .val (.int x), .val (.int (Int32.ofNat cnt)), .val (.int (Int32.ofNat (cnt + (Jvm.Free.SBG.digits nn + Jvm.Free.SBG.GetChars.sgn x))))] []))
  refine own_up (fun tx kx => XS.aloadN X16.here hx rfl (hb hby d7_48) rfl rfl kx) ?_
  show OwnOk p e below _ (T16.setTop (mkF m 49 #[.val (.ref b), .val (.int x), .val (.int (Int32.ofNat cnt)), .val (.int (Int32.ofNat (cnt + (Jvm.Free.SBG.digits nn + Jvm.Free.SBG.GetChars.sgn x))))] [(.ref b)]))
  refine own_up (fun tx kx => XS.iloadN X16.here hx rfl (hb hby d7_49) rfl kx) ?_
  show OwnOk p e below _ (T16.setTop (mkF m 50 #[.val (.ref b), .val (.int x), .val (.int (Int32.ofNat cnt)), .val (.int (Int32.ofNat (cnt + (Jvm.Free.SBG.digits nn + Jvm.Free.SBG.GetChars.sgn x))))] [(.int (Int32.ofNat (cnt + (Jvm.Free.SBG.digits nn + Jvm.Free.SBG.GetChars.sgn x)))), (.ref b)]))
  have F_count_b_17 := (fn13.keep Kq16 (ninS (Nat.ne_of_lt lt_b_tt13) nin0))
  have E_b_18 := (E_13.keep Kq16)
  obtain ⟨T19, h19, X19, e19, W19, st19⟩ := putF X16 hx hZ hown (host := "") (Or.inl (wd_48 hw)) Via.refl rfl F_count_b_17 E_b_18 (Or.inl (wd_49 hw)) (wd_19 hw) (ty := .int) (by decide) rfl rfl (g := (mkF m 50 #[.val (.ref b), .val (.int x), .val (.int (Int32.ofNat cnt)), .val (.int (Int32.ofNat (cnt + (Jvm.Free.SBG.digits nn + Jvm.Free.SBG.GetChars.sgn x))))] [(.int (Int32.ofNat (cnt + (Jvm.Free.SBG.digits nn + Jvm.Free.SBG.GetChars.sgn x)))), (.ref b)])) rfl rfl (hb hby d7_50)
  have Fw19 := Fld.same W19 F_count_b_17
  have N19 := Fr.snoc X19 N16 n0_b
  have OL20 := OL16.wr W19 n0_b
  have KP20 := KP16.wr W19 (Or.inl (List.mem_of_getElem? (i := 0) rfl))
  refine own_up st19 ?_
  show OwnOk p e below _ (T19.setTop (mkF m 53 #[.val (.ref b), .val (.int x), .val (.int (Int32.ofNat cnt)), .val (.int (Int32.ofNat (cnt + (Jvm.Free.SBG.digits nn + Jvm.Free.SBG.GetChars.sgn x))))] []))
  refine own_up (fun tx kx => XS.aloadN X19.here hx rfl (hb hby d7_53) rfl rfl kx) ?_
  show OwnOk p e below _ (T19.setTop (mkF m 54 #[.val (.ref b), .val (.int x), .val (.int (Int32.ofNat cnt)), .val (.int (Int32.ofNat (cnt + (Jvm.Free.SBG.digits nn + Jvm.Free.SBG.GetChars.sgn x))))] [(.ref b)]))
  have E_b_21 := (E_b_18.wr W19)
  have F_value_b_22 := ((fv13.keep Kq16 (ninS (Nat.ne_of_lt lt_b_tt13) nin0)).other W19 (Or.inr (slot_ne (Or.inl (wd_35 hw)) (Or.inl (wd_49 hw)) (by decide) (t := (.array .byte)) (t' := .int) (by decide) (by decide))))
  have F_coder_b_23 := ((fc13.keep Kq16 (ninS (Nat.ne_of_lt lt_b_tt13) nin0)).other W19 (Or.inr (slot_ne (Or.inl (wd_37 hw)) (Or.inl (wd_49 hw)) (by decide) (t := .byte) (t' := .int) (by decide) (by decide))))
  have E_tt13_24 := ((et13.keep Kq16).wr W19)
  have V_tt13_25 := (Vq16.other W19 (Nat.ne_of_gt lt_b_tt13))
  refine own_retR X19 hx (t := (.object "java/lang/AbstractStringBuilder")) (show meth.sig.returnType = some (.object "java/lang/AbstractStringBuilder") from hret) rfl hlk rfl (hb hby d7_54) e19 (Nat.le_of_ble_eq_true rfl) (Nat.le_of_ble_eq_true rfl) ?_
  exact ⟨rfl, N19, KP20, tt13, _, ws_tt13, E_b_21, F_value_b_22, F_coder_b_23, Fw19, E_tt13_24, V_tt13_25⟩
def Q_j_sbIg (Z : State) (b t : Addr) (kt : ClassId) (f : Nat → Int32) (cnt : Nat) (x : Int32) (nn : Nat) (h0 : Heap) (n0 : Nat) (v : Option Value) (h : Heap) (L : List Loc) : Prop := v = some (.ref b) ∧ Fr n0 L ∧ Keep h0 h [b] ∧ ∃ (t' : Addr) (kt' : ClassId), h0.size ≤ t' ∧ (Exa Z h b "java/lang/StringBuilder") ∧ (Fld Z h b "java/lang/AbstractStringBuilder" "value" "[B" (.ref t')) ∧ (Fld Z h b "java/lang/AbstractStringBuilder" "coder" "B" (.int (0 : Int32))) ∧ (Fld Z h b "java/lang/AbstractStringBuilder" "count" "I" (.int (Int32.ofNat (cnt + (Jvm.Free.SBG.digits nn + Jvm.Free.SBG.GetChars.sgn x))))) ∧ (Exa Z h t' "[B") ∧ (Arv Z h t' kt' .byte (Int32.ofNat 34) (own_F 34 (fun q => if cnt + (Jvm.Free.SBG.digits nn + Jvm.Free.SBG.GetChars.sgn x) - (Jvm.Free.SBG.digits nn + Jvm.Free.SBG.GetChars.sgn x) ≤ q ∧ q < cnt + (Jvm.Free.SBG.digits nn + Jvm.Free.SBG.GetChars.sgn x) then own_dg nn x (q - (cnt + (Jvm.Free.SBG.digits nn + Jvm.Free.SBG.GetChars.sgn x) - (Jvm.Free.SBG.digits nn + Jvm.Free.SBG.GetChars.sgn x))) else (fun j => if 0 ≤ j ∧ j < 0 + 16 then f (0 + (j - 0)) else (fun _ => 0) j) q)) (.int (0 : Int32)))
set_option maxRecDepth 65536 in
set_option maxHeartbeats 40000000 in
theorem j_sbIg (l : Launch) (Z : State) (a0 : Array Value) (hw : ∀ d ∈ tables_1, d.before a0 Z = true) (b t : Addr) (kt : ClassId) (f : Nat → Int32) (cnt : Nat) (x : Int32) (nn : Nat) (cz : Int32) (d1 d2 : Addr) (k1 k2 : ClassId) (h0 : Heap) (n0 : Nat) (OL : Old Z n0 h0) (SC : Sta Z Z.heap "java/lang/String" "COMPACT_STRINGS" "Z" (.int cz)) (hcz : ¬ cz = 0) (SO : Sta Z Z.heap "java/lang/Integer" "DigitOnes" "[B" (.ref d1)) (SD : Sta Z Z.heap "java/lang/Integer" "DigitTens" "[B" (.ref d2)) (VO : Arv Z Z.heap d1 k1 .byte (Int32.ofNat 100) (own_F 100 fun r => Int32.ofNat (48 + r % 10)) (.int 0)) (VD : Arv Z Z.heap d2 k2 .byte (Int32.ofNat 100) (own_F 100 fun r => Int32.ofNat (48 + r / 10)) (.int 0)) (WO : (Jvm.Cond.laysStatic "java/lang/Integer" "DigitOnes" "[B").before a0 Z = true) (WD : (Jvm.Cond.laysStatic "java/lang/Integer" "DigitTens" "[B").before a0 Z = true) (E_b : Exa Z h0 b "java/lang/StringBuilder") (F_value_b : Fld Z h0 b "java/lang/AbstractStringBuilder" "value" "[B" (.ref t)) (F_coder_b : Fld Z h0 b "java/lang/AbstractStringBuilder" "coder" "B" (.int (0 : Int32))) (F_count_b : Fld Z h0 b "java/lang/AbstractStringBuilder" "count" "I" (.int (Int32.ofNat cnt))) (E_t : Exa Z h0 t "[B") (V_t : Arv Z h0 t kt .byte (Int32.ofNat 16) (own_F 16 f) (.int (0 : Int32))) (n0_b : n0 ≤ b) (n0_t : n0 ≤ t) (ne_b_t : b ≠ t) (hnn : nn ≤ 2 ^ 31) (hneg : (if x < 0 then x else -x) = Jvm.Free.SBG.negI nn) (hlt1 : d1 < n0) (hlt2 : d2 < n0) (hm : 16 < cnt + (Jvm.Free.SBG.digits nn + Jvm.Free.SBG.GetChars.sgn x)) (hm2 : cnt + (Jvm.Free.SBG.digits nn + Jvm.Free.SBG.GetChars.sgn x) ≤ 34) (hcnt : cnt ≤ 16) :
    own_Met l Z (⟨"java/lang/StringBuilder", "append", "(I)Ljava/lang/StringBuilder;"⟩ : MethodName) jdk_67_method_15_code 2 (some (.object "java/lang/StringBuilder")) ({ frames := 5, cells := 1, slots := 34, locals := 93 } : Room) #[(.ref b), (.int x)] h0 (Q_j_sbIg Z b t kt f cnt x nn h0 n0) := by
  refine own_body (L0 := #[.val (.ref b), .val (.int x)]) (plainFor_of_name (by first | (simp [plainName, overriddenIn]; done) | decide +kernel)) (fun m => by first | (simp [entryFrame, mkF, argsToLocals, Value.category]; done) | rfl) ?_
  intro p e s m below meth c s₁ hx hby hml hZ hown hnm hret hlk X0 e0
  have N0 := Fr.nil n0
  have Z0 : n0 ≤ h0.size := OL.1 ▸ OL.2.1
  show OwnOk p e below _ (s₁.setTop (mkF m 0 #[.val (.ref b), .val (.int x)] []))
  have KP0 : Keep h0 h0 [b] := Keep.refl h0 _
  refine own_up (fun tx kx => XS.aloadN X0.here hx rfl (hb hby d6_0) rfl rfl kx) ?_
  show OwnOk p e below _ (s₁.setTop (mkF m 1 #[.val (.ref b), .val (.int x)] [(.ref b)]))
  refine own_up (fun tx kx => XS.iloadN X0.here hx rfl (hb hby d6_1) rfl kx) ?_
  show OwnOk p e below _ (s₁.setTop (mkF m 2 #[.val (.ref b), .val (.int x)] [(.int x), (.ref b)]))
  refine own_callUB X0 hx hZ (y := (⟨"java/lang/AbstractStringBuilder", "append", "(I)Ljava/lang/AbstractStringBuilder;"⟩ : MethodName)) hown (wd_43 hw) (own_sameMethod (own_nf (y1 := (⟨"java/lang/AbstractStringBuilder", "ensureCapacityInternal", "(I)V"⟩ : MethodName)) (notFace_of_selects (wd_57 hw)) rfl (wd_55 hw)) (wd_44 hw) (by decide)) (wd_44 hw) (wd_45 hw) (by decide) (wd_47 hw) (own_bk (j_asbIg l Z a0 hw b t kt f cnt x nn cz d1 d2 k1 k2 h0 n0 OL SC hcz SO SD VO VD WO WD E_b F_value_b F_coder_b F_count_b E_t V_t n0_b n0_t ne_b_t hnn hneg hlt1 hlt2 hm hm2 hcnt) hZ (wd_47 hw) (wd_28 hw) (by decide) (by decide)) e0 (argsL := [(.int x)]) (rest := []) E_b (by rw [hml]; rfl) (lenOf pd_7 rfl) rfl rfl (W := 0) rfl (hb hby d6_2) (by decide) (by decide) (fun T11 v11 L11 X11 hQ11 => ?_)
  obtain ⟨rfl, Nq11, Kq11, tt11, kk11, gt11, E_11, fv11, fc11, fn11, et11, vt11⟩ := hQ11
  have N11 := Fr.app N0 Nq11
  have OL11 := OL.keep Kq11 (allS n0_b all0)
  have KP11 := KP0.trans Kq11 (allS (Or.inl (List.mem_of_getElem? (i := 0) rfl)) all0)
  show OwnOk p e below _ (T11.setTop (mkF m 5 #[.val (.ref b), .val (.int x)] [(.ref b)]))
  refine own_up (fun tx kx => XS.pop X11.here hx rfl (hb hby d6_5) rfl rfl kx) ?_
  show OwnOk p e below _ (T11.setTop (mkF m 6 #[.val (.ref b), .val (.int x)] []))
  refine own_up (fun tx kx => XS.aloadN X11.here hx rfl (hb hby d6_6) rfl rfl kx) ?_
  show OwnOk p e below _ (T11.setTop (mkF m 7 #[.val (.ref b), .val (.int x)] [(.ref b)]))
  refine own_retR X11 hx (t := (.object "java/lang/StringBuilder")) (show meth.sig.returnType = some (.object "java/lang/StringBuilder") from hret) rfl hlk rfl (hb hby d6_7) rfl (Nat.le_of_ble_eq_true rfl) (Nat.le_of_ble_eq_true rfl) ?_
  exact ⟨rfl, N11, KP11, tt11, kk11, gt11, E_11, fv11, fc11, fn11, et11, vt11⟩
def Q_j_coder (h0 : Heap) (n0 : Nat) (v : Option Value) (h : Heap) (L : List Loc) : Prop := v = some (.int 0) ∧ Fr n0 L ∧ h = h0
set_option maxRecDepth 65536 in
set_option maxHeartbeats 40000000 in
theorem j_coder (l : Launch) (Z : State) (a0 : Array Value) (hw : ∀ d ∈ tables_1, d.before a0 Z = true) (a : Addr) (cz : Int32) (h0 : Heap) (n0 : Nat) (OL : Old Z n0 h0) (SC : Sta Z Z.heap "java/lang/String" "COMPACT_STRINGS" "Z" (.int cz)) (hcz : ¬ cz = 0) (F_coder_a : Fld Z h0 a "java/lang/String" "coder" "B" (.int (0 : Int32))) :
    own_Met l Z (⟨"java/lang/String", "coder", "()B"⟩ : MethodName) jdk_42_method_152_code 1 (some .byte) ({ frames := 0, cells := 0, slots := 0, locals := 0 } : Room) #[(.ref a)] h0 (Q_j_coder h0 n0) := by
  refine own_body (L0 := #[.val (.ref a)]) (plainFor_of_name (by first | (simp [plainName, overriddenIn]; done) | decide +kernel)) (fun m => by first | (simp [entryFrame, mkF, argsToLocals, Value.category]; done) | rfl) ?_
  intro p e s m below meth c s₁ hx hby hml hZ hown hnm hret hlk X0 e0
  have N0 := Fr.nil n0
  have Z0 : n0 ≤ h0.size := OL.1 ▸ OL.2.1
  show OwnOk p e below _ (s₁.setTop (mkF m 0 #[.val (.ref a)] []))
  obtain ⟨T11, X11, e11, st11⟩ := getS2 X0 hx hZ hown (host := "") (Or.inl (wd_94 hw)) Via.refl e0 (SC.ext OL.2) (g := (mkF m 0 #[.val (.ref a)] [])) rfl (hb hby d15_0)
  refine own_up st11 ?_
  show OwnOk p e below _ (T11.setTop (mkF m 3 #[.val (.ref a)] [(.int cz)]))
  refine own_up (fun tx kx => XS.ifNo X11.here hx rfl (hb hby d15_3) rfl ((if0 _ _).trans (feq hcz).1) kx) ?_
  show OwnOk p e below _ (T11.setTop (mkF m 6 #[.val (.ref a)] []))
  refine own_up (fun tx kx => XS.aloadN X11.here hx rfl (hb hby d15_6) rfl rfl kx) ?_
  show OwnOk p e below _ (T11.setTop (mkF m 7 #[.val (.ref a)] [(.ref a)]))
  obtain ⟨T12, X12, e12, st12⟩ := getF X11 hx hZ hown (host := "") (Or.inl (wd_95 hw)) Via.refl e11 F_coder_a (g := (mkF m 7 #[.val (.ref a)] [(.ref a)])) rfl rfl (hb hby d15_7)
  refine own_up st12 ?_
  show OwnOk p e below _ (T12.setTop (mkF m 10 #[.val (.ref a)] [(.int (0 : Int32))]))
  refine own_up (fun tx kx => XS.goto X12.here hx rfl (pc0 := 10) (pc' := 14) rfl (hb hby d15_10) (by decide) (by decide) kx) ?_
  show OwnOk p e below _ (T12.setTop (mkF m 14 #[.val (.ref a)] [(.int (0 : Int32))]))
  refine own_retN X12 hx (t := .byte) (show meth.sig.returnType = some .byte from hret) (by simp) hlk (hb hby d15_14) (z' := (0 : Int32)) rfl e12 (Nat.le_of_ble_eq_true rfl) (Nat.le_of_ble_eq_true rfl) ?_
  exact ⟨rfl, N0, rfl⟩
def Q_j_length (ln : Nat) (h0 : Heap) (n0 : Nat) (v : Option Value) (h : Heap) (L : List Loc) : Prop := v = some (.int (Int32.ofNat ln)) ∧ Fr n0 L ∧ h = h0
set_option maxRecDepth 65536 in
set_option maxHeartbeats 40000000 in
theorem j_length (l : Launch) (Z : State) (a0 : Array Value) (hw : ∀ d ∈ tables_1, d.before a0 Z = true) (a u : Addr) (ku : ClassId) (ln : Nat) (g : Nat → Int32) (cz : Int32) (h0 : Heap) (n0 : Nat) (OL : Old Z n0 h0) (SC : Sta Z Z.heap "java/lang/String" "COMPACT_STRINGS" "Z" (.int cz)) (hcz : ¬ cz = 0) (E_a : Exa Z h0 a "java/lang/String") (F_value_a : Fld Z h0 a "java/lang/String" "value" "[B" (.ref u)) (F_coder_a : Fld Z h0 a "java/lang/String" "coder" "B" (.int (0 : Int32))) (V_u : Arv Z h0 u ku .byte (Int32.ofNat ln) (own_F ln g) (.int (0 : Int32))) :
    own_Met l Z (⟨"java/lang/String", "length", "()I"⟩ : MethodName) jdk_42_method_54_code 1 (some .int) ({ frames := 1, cells := 0, slots := 0, locals := 13 } : Room) #[(.ref a)] h0 (Q_j_length ln h0 n0) := by
  refine own_body (L0 := #[.val (.ref a)]) (plainFor_of_name (by first | (simp [plainName, overriddenIn]; done) | decide +kernel)) (fun m => by first | (simp [entryFrame, mkF, argsToLocals, Value.category]; done) | rfl) ?_
  intro p e s m below meth c s₁ hx hby hml hZ hown hnm hret hlk X0 e0
  have N0 := Fr.nil n0
  have Z0 : n0 ≤ h0.size := OL.1 ▸ OL.2.1
  show OwnOk p e below _ (s₁.setTop (mkF m 0 #[.val (.ref a)] []))
  refine own_up (fun tx kx => XS.aloadN X0.here hx rfl (hb hby d14_0) rfl rfl kx) ?_
  show OwnOk p e below _ (s₁.setTop (mkF m 1 #[.val (.ref a)] [(.ref a)]))
  obtain ⟨T11, X11, e11, st11⟩ := getF X0 hx hZ hown (host := "") (Or.inl (wd_88 hw)) Via.refl e0 F_value_a (g := (mkF m 1 #[.val (.ref a)] [(.ref a)])) rfl rfl (hb hby d14_1)
  refine own_up st11 ?_
  show OwnOk p e below _ (T11.setTop (mkF m 4 #[.val (.ref a)] [(.ref u)]))
  obtain ⟨cl12, Ar12, qc12, Sz12, Nn12, Hs12, Gf12⟩ := id V_u
  have hlen12 : cl12.slots.size.toInt32 = (Int32.ofNat ln) := len_of Sz12 Nn12
  refine own_up (fun tx kx => X11.arraylength hx (own_ar e11 Ar12.1) (State.isArrayOf_alike hZ.alike Ar12.2.1) (g := (mkF m 4 #[.val (.ref a)] [(.ref u)])) rfl rfl (hb hby d14_4) _ kx) ?_
  rw [hlen12]
  show OwnOk p e below _ (T11.setTop (mkF m 5 #[.val (.ref a)] [(.int (Int32.ofNat ln))]))
  refine own_up (fun tx kx => XS.aloadN X11.here hx rfl (hb hby d14_5) rfl rfl kx) ?_
  show OwnOk p e below _ (T11.setTop (mkF m 6 #[.val (.ref a)] [(.ref a), (.int (Int32.ofNat ln))]))
  refine own_callV X11 hx hZ (y := (⟨"java/lang/String", "coder", "()B"⟩ : MethodName)) (z := (⟨"java/lang/String", "coder", "()B"⟩ : MethodName)) hown (wd_89 hw) (wd_90 hw) (notFace_of_selects (args := #[]) (mvT hZ (wd_92 hw))) (wd_92 hw) (wd_91 hw) (wd_32 hw) (wd_93 hw) (by decide) (j_coder l Z a0 hw a cz h0 n0 OL SC hcz F_coder_a) e11 (argsL := []) (rest := [(.int (Int32.ofNat ln))]) E_a (by rw [hml]; rfl) (lenOf pd_8 rfl) rfl rfl (W := 1) rfl (hb hby d14_6) (by decide) (by decide) (by decide) (by decide) (fun T13 v13 L13 X13 hQ13 => ?_)
  obtain ⟨rfl, Nq13, hh13⟩ := hQ13
  have N13 := Fr.app N0 Nq13
  show OwnOk p e below _ (T13.setTop (mkF m 9 #[.val (.ref a)] [(.int (0 : Int32)), (.int (Int32.ofNat ln))]))
  refine own_up (fun tx kx => XS.ishr X13.here hx rfl (hb hby d14_9) rfl kx) ?_
  show OwnOk p e below _ (T13.setTop (mkF m 10 #[.val (.ref a)] [(.int ((Int32.ofNat ln) >>> ((0 : Int32) &&& 31)))]))
  rw [show ((Int32.ofNat ln) >>> ((0 : Int32) &&& 31)) = (Int32.ofNat ln) from own_shr0 (Int32.ofNat ln)]
  show OwnOk p e below _ (T13.setTop (mkF m 10 #[.val (.ref a)] [(.int (Int32.ofNat ln))]))
  refine own_retI X13 hx (show meth.sig.returnType = some .int from hret) hlk (hb hby d14_10) hh13 (Nat.le_of_ble_eq_true rfl) (Nat.le_of_ble_eq_true rfl) ?_
  exact ⟨rfl, N13, rfl⟩
def Q_j_infl (h0 : Heap) (n0 : Nat) (v : Option Value) (h : Heap) (L : List Loc) : Prop := v = none ∧ Fr n0 L ∧ h = h0
set_option maxRecDepth 65536 in
set_option maxHeartbeats 40000000 in
theorem j_infl (l : Launch) (Z : State) (a0 : Array Value) (hw : ∀ d ∈ tables_1, d.before a0 Z = true) (b a : Addr) (cz : Int32) (h0 : Heap) (n0 : Nat) (OL : Old Z n0 h0) (SC : Sta Z Z.heap "java/lang/String" "COMPACT_STRINGS" "Z" (.int cz)) (hcz : ¬ cz = 0) (F_coder_b : Fld Z h0 b "java/lang/AbstractStringBuilder" "coder" "B" (.int (0 : Int32))) (E_a : Exa Z h0 a "java/lang/String") (F_coder_a : Fld Z h0 a "java/lang/String" "coder" "B" (.int (0 : Int32))) :
    own_Met l Z (⟨"java/lang/AbstractStringBuilder", "inflateIfNeededFor", "(Ljava/lang/String;)V"⟩ : MethodName) jdk_68_method_71_code 2 none ({ frames := 1, cells := 0, slots := 0, locals := 13 } : Room) #[(.ref b), (.ref a)] h0 (Q_j_infl h0 n0) := by
  refine own_body (L0 := #[.val (.ref b), .val (.ref a)]) (plainFor_of_name (by first | (simp [plainName, overriddenIn]; done) | decide +kernel)) (fun m => by first | (simp [entryFrame, mkF, argsToLocals, Value.category]; done) | rfl) ?_
  intro p e s m below meth c s₁ hx hby hml hZ hown hnm hret hlk X0 e0
  have N0 := Fr.nil n0
  have Z0 : n0 ≤ h0.size := OL.1 ▸ OL.2.1
  show OwnOk p e below _ (s₁.setTop (mkF m 0 #[.val (.ref b), .val (.ref a)] []))
  obtain ⟨T11, X11, e11, st11⟩ := getS2 X0 hx hZ hown (host := "") (Or.inl (wd_31 hw)) Via.refl e0 (SC.ext OL.2) (g := (mkF m 0 #[.val (.ref b), .val (.ref a)] [])) rfl (hb hby d17_0)
  refine own_up st11 ?_
  show OwnOk p e below _ (T11.setTop (mkF m 3 #[.val (.ref b), .val (.ref a)] [(.int cz)]))
  refine own_up (fun tx kx => XS.ifNo X11.here hx rfl (hb hby d17_3) rfl ((if0 _ _).trans (feq hcz).1) kx) ?_
  show OwnOk p e below _ (T11.setTop (mkF m 6 #[.val (.ref b), .val (.ref a)] []))
  refine own_up (fun tx kx => XS.aloadN X11.here hx rfl (hb hby d17_6) rfl rfl kx) ?_
  show OwnOk p e below _ (T11.setTop (mkF m 7 #[.val (.ref b), .val (.ref a)] [(.ref b)]))
  obtain ⟨T12, X12, e12, st12⟩ := getF X11 hx hZ hown (host := "") (Or.inl (wd_36 hw)) Via.refl e11 F_coder_b (g := (mkF m 7 #[.val (.ref b), .val (.ref a)] [(.ref b)])) rfl rfl (hb hby d17_7)
  refine own_up st12 ?_
  show OwnOk p e below _ (T12.setTop (mkF m 10 #[.val (.ref b), .val (.ref a)] [(.int (0 : Int32))]))
  refine own_up (fun tx kx => XS.aloadN X12.here hx rfl (hb hby d17_10) rfl rfl kx) ?_
  show OwnOk p e below _ (T12.setTop (mkF m 11 #[.val (.ref b), .val (.ref a)] [(.ref a), (.int (0 : Int32))]))
  refine own_callV X12 hx hZ (y := (⟨"java/lang/String", "coder", "()B"⟩ : MethodName)) (z := (⟨"java/lang/String", "coder", "()B"⟩ : MethodName)) hown (wd_106 hw) (wd_90 hw) (notFace_of_selects (args := #[]) (mvT hZ (wd_92 hw))) (wd_92 hw) (wd_91 hw) (wd_32 hw) (wd_93 hw) (by decide) (j_coder l Z a0 hw a cz h0 n0 OL SC hcz F_coder_a) e12 (argsL := []) (rest := [(.int (0 : Int32))]) E_a (by rw [hml]; rfl) (lenOf pd_8 rfl) rfl rfl (W := 1) rfl (hb hby d17_11) (by decide) (by decide) (by decide) (by decide) (fun T13 v13 L13 X13 hQ13 => ?_)
  obtain ⟨rfl, Nq13, hh13⟩ := hQ13
  have N13 := Fr.app N0 Nq13
  show OwnOk p e below _ (T13.setTop (mkF m 14 #[.val (.ref b), .val (.ref a)] [(.int (0 : Int32)), (.int (0 : Int32))]))
  refine own_up (fun tx kx => XS.icmpYes X13.here hx rfl (pc0 := 14) (pc' := 21) rfl (hb hby d17_14) rfl (teq rfl).1 (by decide) (by decide) kx) ?_
  show OwnOk p e below _ (T13.setTop (mkF m 21 #[.val (.ref b), .val (.ref a)] []))
  refine own_retV X13 hx (show meth.sig.returnType = none from hret) hlk (hb hby d17_21) hh13 (Nat.le_of_ble_eq_true rfl) (Nat.le_of_ble_eq_true rfl) ?_
  exact ⟨rfl, N13, rfl⟩
def Q_j_getB (Z : State) (t : Addr) (kt : ClassId) (cap : Nat) (f : Nat → Int32) (cnt ln : Nat) (g : Nat → Int32) (h0 : Heap) (n0 : Nat) (v : Option Value) (h : Heap) (L : List Loc) : Prop := v = none ∧ Fr n0 L ∧ Keep h0 h [t] ∧ (Arv Z h t kt .byte (Int32.ofNat cap) (own_F cap (fun j => if cnt ≤ j ∧ j < cnt + ln then g (0 + (j - cnt)) else f j)) (.int (0 : Int32)))
set_option maxRecDepth 65536 in
set_option maxHeartbeats 40000000 in
theorem j_getB (l : Launch) (Z : State) (a0 : Array Value) (hw : ∀ d ∈ tables_1, d.before a0 Z = true) (t : Addr) (kt : ClassId) (cap : Nat) (f : Nat → Int32) (cnt : Nat) (a u : Addr) (ku : ClassId) (ln : Nat) (g : Nat → Int32) (cz : Int32) (h0 : Heap) (n0 : Nat) (OL : Old Z n0 h0) (SC : Sta Z Z.heap "java/lang/String" "COMPACT_STRINGS" "Z" (.int cz)) (hcz : ¬ cz = 0) (V_t : Arv Z h0 t kt .byte (Int32.ofNat cap) (own_F cap f) (.int (0 : Int32))) (n0_t : n0 ≤ t) (E_a : Exa Z h0 a "java/lang/String") (F_value_a : Fld Z h0 a "java/lang/String" "value" "[B" (.ref u)) (F_coder_a : Fld Z h0 a "java/lang/String" "coder" "B" (.int (0 : Int32))) (V_u : Arv Z h0 u ku .byte (Int32.ofNat ln) (own_F ln g) (.int (0 : Int32))) (hm : cnt + ln ≤ cap) (hcap : cap ≤ 4000) :
    own_Met l Z (⟨"java/lang/String", "getBytes", "([BIB)V"⟩ : MethodName) jdk_42_method_147_code 4 none ({ frames := 1, cells := 0, slots := 0, locals := 30 } : Room) #[(.ref a), (.ref t), (.int (Int32.ofNat cnt)), (.int (0 : Int32))] h0 (Q_j_getB Z t kt cap f cnt ln g h0 n0) := by
  refine own_body (L0 := #[.val (.ref a), .val (.ref t), .val (.int (Int32.ofNat cnt)), .val (.int (0 : Int32))]) (plainFor_of_name (by first | (simp [plainName, overriddenIn]; done) | decide +kernel)) (fun m => by first | (simp [entryFrame, mkF, argsToLocals, Value.category]; done) | rfl) ?_
  intro p e s m below meth c s₁ hx hby hml hZ hown hnm hret hlk X0 e0
  have N0 := Fr.nil n0
  have Z0 : n0 ≤ h0.size := OL.1 ▸ OL.2.1
  show OwnOk p e below _ (s₁.setTop (mkF m 0 #[.val (.ref a), .val (.ref t), .val (.int (Int32.ofNat cnt)), .val (.int (0 : Int32))] []))
  have KP0 : Keep h0 h0 [t] := Keep.refl h0 _
  refine own_up (fun tx kx => XS.aloadN X0.here hx rfl (hb hby d18_0) rfl rfl kx) ?_
  show OwnOk p e below _ (s₁.setTop (mkF m 1 #[.val (.ref a), .val (.ref t), .val (.int (Int32.ofNat cnt)), .val (.int (0 : Int32))] [(.ref a)]))
  refine own_callV X0 hx hZ (y := (⟨"java/lang/String", "coder", "()B"⟩ : MethodName)) (z := (⟨"java/lang/String", "coder", "()B"⟩ : MethodName)) hown (wd_89 hw) (wd_90 hw) (notFace_of_selects (args := #[]) (mvT hZ (wd_92 hw))) (wd_92 hw) (wd_91 hw) (wd_32 hw) (wd_93 hw) (by decide) (j_coder l Z a0 hw a cz h0 n0 OL SC hcz F_coder_a) e0 (argsL := []) (rest := []) E_a (by rw [hml]; rfl) (lenOf pd_8 rfl) rfl rfl (W := 0) rfl (hb hby d18_1) (by decide) (by decide) (by decide) (by decide) (fun T11 v11 L11 X11 hQ11 => ?_)
  obtain ⟨rfl, Nq11, hh11⟩ := hQ11
  have N11 := Fr.app N0 Nq11
  show OwnOk p e below _ (T11.setTop (mkF m 4 #[.val (.ref a), .val (.ref t), .val (.int (Int32.ofNat cnt)), .val (.int (0 : Int32))] [(.int (0 : Int32))]))
  refine own_up (fun tx kx => XS.iloadN X11.here hx rfl (hb hby d18_4) rfl kx) ?_
  show OwnOk p e below _ (T11.setTop (mkF m 5 #[.val (.ref a), .val (.ref t), .val (.int (Int32.ofNat cnt)), .val (.int (0 : Int32))] [(.int (0 : Int32)), (.int (0 : Int32))]))
  refine own_up (fun tx kx => XS.icmpNo X11.here hx rfl (hb hby d18_5) rfl (teq rfl).2 kx) ?_
  show OwnOk p e below _ (T11.setTop (mkF m 8 #[.val (.ref a), .val (.ref t), .val (.int (Int32.ofNat cnt)), .val (.int (0 : Int32))] []))
  refine own_up (fun tx kx => XS.aloadN X11.here hx rfl (hb hby d18_8) rfl rfl kx) ?_
  show OwnOk p e below _ (T11.setTop (mkF m 9 #[.val (.ref a), .val (.ref t), .val (.int (Int32.ofNat cnt)), .val (.int (0 : Int32))] [(.ref a)]))
  obtain ⟨T12, X12, e12, st12⟩ := getF X11 hx hZ hown (host := "") (Or.inl (wd_88 hw)) Via.refl hh11 F_value_a (g := (mkF m 9 #[.val (.ref a), .val (.ref t), .val (.int (Int32.ofNat cnt)), .val (.int (0 : Int32))] [(.ref a)])) rfl rfl (hb hby d18_9)
  refine own_up st12 ?_
  show OwnOk p e below _ (T12.setTop (mkF m 12 #[.val (.ref a), .val (.ref t), .val (.int (Int32.ofNat cnt)), .val (.int (0 : Int32))] [(.ref u)]))
  refine own_up (fun tx kx => XS.iconst X12.here hx rfl (hb hby d18_12) kx) ?_
  show OwnOk p e below _ (T12.setTop (mkF m 13 #[.val (.ref a), .val (.ref t), .val (.int (Int32.ofNat cnt)), .val (.int (0 : Int32))] [(.int (0 : Int32)), (.ref u)]))
  refine own_up (fun tx kx => XS.aloadN X12.here hx rfl (hb hby d18_13) rfl rfl kx) ?_
  show OwnOk p e below _ (T12.setTop (mkF m 14 #[.val (.ref a), .val (.ref t), .val (.int (Int32.ofNat cnt)), .val (.int (0 : Int32))] [(.ref t), (.int (0 : Int32)), (.ref u)]))
  refine own_up (fun tx kx => XS.iloadN X12.here hx rfl (hb hby d18_14) rfl kx) ?_
  show OwnOk p e below _ (T12.setTop (mkF m 15 #[.val (.ref a), .val (.ref t), .val (.int (Int32.ofNat cnt)), .val (.int (0 : Int32))] [(.int (Int32.ofNat cnt)), (.ref t), (.int (0 : Int32)), (.ref u)]))
  refine own_up (fun tx kx => XS.iloadN X12.here hx rfl (hb hby d18_15) rfl kx) ?_
  show OwnOk p e below _ (T12.setTop (mkF m 16 #[.val (.ref a), .val (.ref t), .val (.int (Int32.ofNat cnt)), .val (.int (0 : Int32))] [(.int (0 : Int32)), (.int (Int32.ofNat cnt)), (.ref t), (.int (0 : Int32)), (.ref u)]))
  refine own_up (fun tx kx => XS.ishl X12.here hx rfl (hb hby d18_16) rfl kx) ?_
  show OwnOk p e below _ (T12.setTop (mkF m 17 #[.val (.ref a), .val (.ref t), .val (.int (Int32.ofNat cnt)), .val (.int (0 : Int32))] [(.int ((Int32.ofNat cnt) <<< ((0 : Int32) &&& 31))), (.ref t), (.int (0 : Int32)), (.ref u)]))
  rw [show ((Int32.ofNat cnt) <<< ((0 : Int32) &&& 31)) = (Int32.ofNat cnt) from own_shl0 (Int32.ofNat cnt)]
  show OwnOk p e below _ (T12.setTop (mkF m 17 #[.val (.ref a), .val (.ref t), .val (.int (Int32.ofNat cnt)), .val (.int (0 : Int32))] [(.int (Int32.ofNat cnt)), (.ref t), (.int (0 : Int32)), (.ref u)]))
  refine own_up (fun tx kx => XS.aloadN X12.here hx rfl (hb hby d18_17) rfl rfl kx) ?_
  show OwnOk p e below _ (T12.setTop (mkF m 18 #[.val (.ref a), .val (.ref t), .val (.int (Int32.ofNat cnt)), .val (.int (0 : Int32))] [(.ref a), (.int (Int32.ofNat cnt)), (.ref t), (.int (0 : Int32)), (.ref u)]))
  obtain ⟨T13, X13, e13, st13⟩ := getF X12 hx hZ hown (host := "") (Or.inl (wd_88 hw)) Via.refl e12 F_value_a (g := (mkF m 18 #[.val (.ref a), .val (.ref t), .val (.int (Int32.ofNat cnt)), .val (.int (0 : Int32))] [(.ref a), (.int (Int32.ofNat cnt)), (.ref t), (.int (0 : Int32)), (.ref u)])) rfl rfl (hb hby d18_18)
  refine own_up st13 ?_
  show OwnOk p e below _ (T13.setTop (mkF m 21 #[.val (.ref a), .val (.ref t), .val (.int (Int32.ofNat cnt)), .val (.int (0 : Int32))] [(.ref u), (.int (Int32.ofNat cnt)), (.ref t), (.int (0 : Int32)), (.ref u)]))
  obtain ⟨cl14, Ar14, qc14, Sz14, Nn14, Hs14, Gf14⟩ := id V_u
  have hlen14 : cl14.slots.size.toInt32 = (Int32.ofNat ln) := len_of Sz14 Nn14
  refine own_up (fun tx kx => X13.arraylength hx (own_ar e13 Ar14.1) (State.isArrayOf_alike hZ.alike Ar14.2.1) (g := (mkF m 21 #[.val (.ref a), .val (.ref t), .val (.int (Int32.ofNat cnt)), .val (.int (0 : Int32))] [(.ref u), (.int (Int32.ofNat cnt)), (.ref t), (.int (0 : Int32)), (.ref u)])) rfl rfl (hb hby d18_21) _ kx) ?_
  rw [hlen14]
  show OwnOk p e below _ (T13.setTop (mkF m 22 #[.val (.ref a), .val (.ref t), .val (.int (Int32.ofNat cnt)), .val (.int (0 : Int32))] [(.int (Int32.ofNat ln)), (.int (Int32.ofNat cnt)), (.ref t), (.int (0 : Int32)), (.ref u)]))
  show OwnOk p e below _ (T13.setTop (mkF m 22 #[.val (.ref a), .val (.ref t), .val (.int (Int32.ofNat cnt)), .val (.int (0 : Int32))] [(.int (Int32.ofNat ln)), (.int (Int32.ofNat cnt)), (.ref t), (.int (Int32.ofNat 0)), (.ref u)]))
  obtain ⟨T15, h15, L15, X15, e15, N15, K15, V15, st15⟩ := cpA X13 hx hZ hown (wd_112 hw) (wd_115 hw) (wd_113 hw) (wd_114 hw) e13 V_u V_t (Or.inl ⟨rfl, rfl⟩) (own_nn 0 (by omega)) (own_nn cnt (by omega)) (own_nn ln (by omega)) (own_cl3 (a := 0) (b := ln) (c := ln) (by omega) (by omega) (by omega) (by omega)) (own_cl3 (a := cnt) (b := ln) (c := cap) (by omega) (by omega) (by omega) (by omega)) rfl (own_clF (a := cnt) (b := ln) (by omega) (by omega) (by omega)) N11 n0_t (g := (mkF m 22 #[.val (.ref a), .val (.ref t), .val (.int (Int32.ofNat cnt)), .val (.int (0 : Int32))] [(.int (Int32.ofNat ln)), (.int (Int32.ofNat cnt)), (.ref t), (.int (Int32.ofNat 0)), (.ref u)])) rfl (by rw [hml]; rfl) rfl (hb hby d18_22) (by decide) (W := 0) (by show 2 * 0 + _ ≤ _; exact Nat.le_of_eq rfl) (by decide)
  rw [own_F_copyI (n := cap) (dp := cnt) (nn := ln) (sp := 0) (ns := ln) (by omega) (by omega) (by omega) (by omega) (by omega)] at V15
  have OL16 := OL.keep K15 (allS n0_t all0)
  have KP16 := KP0.trans K15 (allS (Or.inl (List.mem_of_getElem? (i := 0) rfl)) all0)
  refine own_up st15 ?_
  show OwnOk p e below _ (T15.setTop (mkF m 25 #[.val (.ref a), .val (.ref t), .val (.int (Int32.ofNat cnt)), .val (.int (0 : Int32))] []))
  refine own_up (fun tx kx => XS.goto X15.here hx rfl (pc0 := 25) (pc' := 43) rfl (hb hby d18_25) (by decide) (by decide) kx) ?_
  show OwnOk p e below _ (T15.setTop (mkF m 43 #[.val (.ref a), .val (.ref t), .val (.int (Int32.ofNat cnt)), .val (.int (0 : Int32))] []))
  refine own_retV X15 hx (show meth.sig.returnType = none from hret) hlk (hb hby d18_43) e15 (Nat.le_of_ble_eq_true rfl) (Nat.le_of_ble_eq_true rfl) ?_
  exact ⟨rfl, N15, KP16, V15⟩
def Q_j_putS (Z : State) (t : Addr) (kt : ClassId) (cap : Nat) (f : Nat → Int32) (cnt ln : Nat) (g : Nat → Int32) (h0 : Heap) (n0 : Nat) (v : Option Value) (h : Heap) (L : List Loc) : Prop := v = none ∧ Fr n0 L ∧ Keep h0 h [t] ∧ (Arv Z h t kt .byte (Int32.ofNat cap) (own_F cap (fun j => if cnt ≤ j ∧ j < cnt + ln then g (0 + (j - cnt)) else f j)) (.int (0 : Int32)))
set_option maxRecDepth 65536 in
set_option maxHeartbeats 40000000 in
theorem j_putS (l : Launch) (Z : State) (a0 : Array Value) (hw : ∀ d ∈ tables_1, d.before a0 Z = true) (b t : Addr) (kt : ClassId) (cap : Nat) (f : Nat → Int32) (cnt : Nat) (a u : Addr) (ku : ClassId) (ln : Nat) (g : Nat → Int32) (cz : Int32) (h0 : Heap) (n0 : Nat) (OL : Old Z n0 h0) (SC : Sta Z Z.heap "java/lang/String" "COMPACT_STRINGS" "Z" (.int cz)) (hcz : ¬ cz = 0) (E_b : Exa Z h0 b "java/lang/StringBuilder") (F_value_b : Fld Z h0 b "java/lang/AbstractStringBuilder" "value" "[B" (.ref t)) (F_coder_b : Fld Z h0 b "java/lang/AbstractStringBuilder" "coder" "B" (.int (0 : Int32))) (F_count_b : Fld Z h0 b "java/lang/AbstractStringBuilder" "count" "I" (.int (Int32.ofNat cnt))) (E_t : Exa Z h0 t "[B") (V_t : Arv Z h0 t kt .byte (Int32.ofNat cap) (own_F cap f) (.int (0 : Int32))) (n0_b : n0 ≤ b) (n0_t : n0 ≤ t) (ne_b_t : b ≠ t) (E_a : Exa Z h0 a "java/lang/String") (F_value_a : Fld Z h0 a "java/lang/String" "value" "[B" (.ref u)) (F_coder_a : Fld Z h0 a "java/lang/String" "coder" "B" (.int (0 : Int32))) (V_u : Arv Z h0 u ku .byte (Int32.ofNat ln) (own_F ln g) (.int (0 : Int32))) (ne_u_b : u ≠ b) (ne_u_t : u ≠ t) (ne_a_b : a ≠ b) (ne_a_t : a ≠ t) (hm : cnt + ln ≤ cap) (hcap : cap ≤ 4000) :
    own_Met l Z (⟨"java/lang/AbstractStringBuilder", "putStringAt", "(ILjava/lang/String;)V"⟩ : MethodName) jdk_68_method_73_code 3 none ({ frames := 2, cells := 0, slots := 0, locals := 45 } : Room) #[(.ref b), (.int (Int32.ofNat cnt)), (.ref a)] h0 (Q_j_putS Z t kt cap f cnt ln g h0 n0) := by
  refine own_body (L0 := #[.val (.ref b), .val (.int (Int32.ofNat cnt)), .val (.ref a)]) (plainFor_of_name (by first | (simp [plainName, overriddenIn]; done) | decide +kernel)) (fun m => by first | (simp [entryFrame, mkF, argsToLocals, Value.category]; done) | rfl) ?_
  intro p e s m below meth c s₁ hx hby hml hZ hown hnm hret hlk X0 e0
  have N0 := Fr.nil n0
  have Z0 : n0 ≤ h0.size := OL.1 ▸ OL.2.1
  show OwnOk p e below _ (s₁.setTop (mkF m 0 #[.val (.ref b), .val (.int (Int32.ofNat cnt)), .val (.ref a)] []))
  have KP0 : Keep h0 h0 [b, t] := Keep.refl h0 _
  have KP0 : Keep h0 h0 [t] := Keep.refl h0 _
  refine own_up (fun tx kx => XS.aloadN X0.here hx rfl (hb hby d16_0) rfl rfl kx) ?_
  show OwnOk p e below _ (s₁.setTop (mkF m 1 #[.val (.ref b), .val (.int (Int32.ofNat cnt)), .val (.ref a)] [(.ref b)]))
  refine own_up (fun tx kx => XS.aloadN X0.here hx rfl (hb hby d16_1) rfl rfl kx) ?_
  show OwnOk p e below _ (s₁.setTop (mkF m 2 #[.val (.ref b), .val (.int (Int32.ofNat cnt)), .val (.ref a)] [(.ref a), (.ref b)]))
  refine own_callV X0 hx hZ (y := (⟨"java/lang/AbstractStringBuilder", "inflateIfNeededFor", "(Ljava/lang/String;)V"⟩ : MethodName)) (z := (⟨"java/lang/AbstractStringBuilder", "inflateIfNeededFor", "(Ljava/lang/String;)V"⟩ : MethodName)) hown (wd_101 hw) (own_declares (wd_102 hw) (wd_105 hw)) (notFace_of_selects (args := #[]) (mvT hZ (wd_104 hw))) (wd_104 hw) (wd_102 hw) (wd_28 hw) (wd_105 hw) (by decide) (j_infl l Z a0 hw b a cz h0 n0 OL SC hcz F_coder_b E_a F_coder_a) e0 (argsL := [(.ref a)]) (rest := []) E_b (by rw [hml]; rfl) (lenOf pd_9 rfl) rfl rfl (W := 0) rfl (hb hby d16_2) (by decide) (by decide) (by decide) (by decide) (fun T11 v11 L11 X11 hQ11 => ?_)
  obtain ⟨rfl, Nq11, hh11⟩ := hQ11
  have N11 := Fr.app N0 Nq11
  show OwnOk p e below _ (T11.setTop (mkF m 5 #[.val (.ref b), .val (.int (Int32.ofNat cnt)), .val (.ref a)] []))
  refine own_up (fun tx kx => XS.aloadN X11.here hx rfl (hb hby d16_5) rfl rfl kx) ?_
  show OwnOk p e below _ (T11.setTop (mkF m 6 #[.val (.ref b), .val (.int (Int32.ofNat cnt)), .val (.ref a)] [(.ref a)]))
  refine own_up (fun tx kx => XS.aloadN X11.here hx rfl (hb hby d16_6) rfl rfl kx) ?_
  show OwnOk p e below _ (T11.setTop (mkF m 7 #[.val (.ref b), .val (.int (Int32.ofNat cnt)), .val (.ref a)] [(.ref b), (.ref a)]))
  obtain ⟨T12, X12, e12, st12⟩ := getF X11 hx hZ hown (host := "") (Or.inl (wd_34 hw)) Via.refl hh11 F_value_b (g := (mkF m 7 #[.val (.ref b), .val (.int (Int32.ofNat cnt)), .val (.ref a)] [(.ref b), (.ref a)])) rfl rfl (hb hby d16_7)
  refine own_up st12 ?_
  show OwnOk p e below _ (T12.setTop (mkF m 10 #[.val (.ref b), .val (.int (Int32.ofNat cnt)), .val (.ref a)] [(.ref t), (.ref a)]))
  refine own_up (fun tx kx => XS.iloadN X12.here hx rfl (hb hby d16_10) rfl kx) ?_
  show OwnOk p e below _ (T12.setTop (mkF m 11 #[.val (.ref b), .val (.int (Int32.ofNat cnt)), .val (.ref a)] [(.int (Int32.ofNat cnt)), (.ref t), (.ref a)]))
  refine own_up (fun tx kx => XS.aloadN X12.here hx rfl (hb hby d16_11) rfl rfl kx) ?_
  show OwnOk p e below _ (T12.setTop (mkF m 12 #[.val (.ref b), .val (.int (Int32.ofNat cnt)), .val (.ref a)] [(.ref b), (.int (Int32.ofNat cnt)), (.ref t), (.ref a)]))
  obtain ⟨T13, X13, e13, st13⟩ := getF X12 hx hZ hown (host := "") (Or.inl (wd_36 hw)) Via.refl e12 F_coder_b (g := (mkF m 12 #[.val (.ref b), .val (.int (Int32.ofNat cnt)), .val (.ref a)] [(.ref b), (.int (Int32.ofNat cnt)), (.ref t), (.ref a)])) rfl rfl (hb hby d16_12)
  refine own_up st13 ?_
  show OwnOk p e below _ (T13.setTop (mkF m 15 #[.val (.ref b), .val (.int (Int32.ofNat cnt)), .val (.ref a)] [(.int (0 : Int32)), (.int (Int32.ofNat cnt)), (.ref t), (.ref a)]))
  refine own_callV X13 hx hZ (y := (⟨"java/lang/String", "getBytes", "([BIB)V"⟩ : MethodName)) (z := (⟨"java/lang/String", "getBytes", "([BIB)V"⟩ : MethodName)) hown (wd_107 hw) (wd_108 hw) (notFace_of_selects (args := #[]) (mvT hZ (wd_110 hw))) (wd_110 hw) (wd_109 hw) (wd_32 hw) (wd_111 hw) (by decide) (j_getB l Z a0 hw t kt cap f cnt a u ku ln g cz h0 n0 OL SC hcz V_t n0_t E_a F_value_a F_coder_a V_u hm hcap) e13 (argsL := [(.ref t), (.int (Int32.ofNat cnt)), (.int (0 : Int32))]) (rest := []) E_a (by rw [hml]; rfl) (lenOf pd_10 rfl) rfl rfl (W := 0) rfl (hb hby d16_15) (by decide) (by decide) (by decide) (by decide) (fun T14 v14 L14 X14 hQ14 => ?_)
  obtain ⟨rfl, Nq14, Kq14, Vq14⟩ := hQ14
  have N14 := Fr.app N11 Nq14
  have OL14 := OL.keep Kq14 (allS n0_t all0)
  have KP14 := KP0.trans Kq14 (allS (Or.inl (List.mem_of_getElem? (i := 0) rfl)) all0)
  show OwnOk p e below _ (T14.setTop (mkF m 18 #[.val (.ref b), .val (.int (Int32.ofNat cnt)), .val (.ref a)] []))
  refine own_retV X14 hx (show meth.sig.returnType = none from hret) hlk (hb hby d16_18) rfl (Nat.le_of_ble_eq_true rfl) (Nat.le_of_ble_eq_true rfl) ?_
  exact ⟨rfl, N14, KP14, Vq14⟩
def Q_j_asbS (Z : State) (b t : Addr) (kt : ClassId) (cap : Nat) (f : Nat → Int32) (cnt : Nat) (ln : Nat) (g : Nat → Int32) (h0 : Heap) (n0 : Nat) (v : Option Value) (h : Heap) (L : List Loc) : Prop := v = some (.ref b) ∧ Fr n0 L ∧ Keep h0 h [b, t] ∧ (Exa Z h b "java/lang/StringBuilder") ∧ (Fld Z h b "java/lang/AbstractStringBuilder" "value" "[B" (.ref t)) ∧ (Fld Z h b "java/lang/AbstractStringBuilder" "coder" "B" (.int (0 : Int32))) ∧ (Fld Z h b "java/lang/AbstractStringBuilder" "count" "I" (.int (Int32.ofNat (cnt + ln)))) ∧ (Exa Z h t "[B") ∧ (Arv Z h t kt .byte (Int32.ofNat cap) (own_F cap (fun j => if cnt ≤ j ∧ j < cnt + ln then g (0 + (j - cnt)) else f j)) (.int (0 : Int32)))
set_option maxRecDepth 65536 in
set_option maxHeartbeats 40000000 in
theorem j_asbS (l : Launch) (Z : State) (a0 : Array Value) (hw : ∀ d ∈ tables_1, d.before a0 Z = true) (b t : Addr) (kt : ClassId) (cap : Nat) (f : Nat → Int32) (cnt : Nat) (a u : Addr) (ku : ClassId) (ln : Nat) (g : Nat → Int32) (cz : Int32) (h0 : Heap) (n0 : Nat) (OL : Old Z n0 h0) (SC : Sta Z Z.heap "java/lang/String" "COMPACT_STRINGS" "Z" (.int cz)) (hcz : ¬ cz = 0) (E_b : Exa Z h0 b "java/lang/StringBuilder") (F_value_b : Fld Z h0 b "java/lang/AbstractStringBuilder" "value" "[B" (.ref t)) (F_coder_b : Fld Z h0 b "java/lang/AbstractStringBuilder" "coder" "B" (.int (0 : Int32))) (F_count_b : Fld Z h0 b "java/lang/AbstractStringBuilder" "count" "I" (.int (Int32.ofNat cnt))) (E_t : Exa Z h0 t "[B") (V_t : Arv Z h0 t kt .byte (Int32.ofNat cap) (own_F cap f) (.int (0 : Int32))) (n0_b : n0 ≤ b) (n0_t : n0 ≤ t) (ne_b_t : b ≠ t) (E_a : Exa Z h0 a "java/lang/String") (F_value_a : Fld Z h0 a "java/lang/String" "value" "[B" (.ref u)) (F_coder_a : Fld Z h0 a "java/lang/String" "coder" "B" (.int (0 : Int32))) (V_u : Arv Z h0 u ku .byte (Int32.ofNat ln) (own_F ln g) (.int (0 : Int32))) (ne_u_b : u ≠ b) (ne_u_t : u ≠ t) (ne_a_b : a ≠ b) (ne_a_t : a ≠ t) (hm : cnt + ln ≤ cap) (hcap : cap ≤ 4000) :
    own_Met l Z (⟨"java/lang/AbstractStringBuilder", "append", "(Ljava/lang/String;)Ljava/lang/AbstractStringBuilder;"⟩ : MethodName) jdk_68_method_22_code 3 (some (.object "java/lang/AbstractStringBuilder")) ({ frames := 3, cells := 0, slots := 0, locals := 59 } : Room) #[(.ref b), (.ref a)] h0 (Q_j_asbS Z b t kt cap f cnt ln g h0 n0) := by
  refine own_body (L0 := #[.val (.ref b), .val (.ref a), .unset]) (plainFor_of_name (by first | (simp [plainName, overriddenIn]; done) | decide +kernel)) (fun m => by first | (simp [entryFrame, mkF, argsToLocals, Value.category]; done) | rfl) ?_
  intro p e s m below meth c s₁ hx hby hml hZ hown hnm hret hlk X0 e0
  have N0 := Fr.nil n0
  have Z0 : n0 ≤ h0.size := OL.1 ▸ OL.2.1
  show OwnOk p e below _ (s₁.setTop (mkF m 0 #[.val (.ref b), .val (.ref a), .unset] []))
  have KP0 : Keep h0 h0 [b, t] := Keep.refl h0 _
  refine own_up (fun tx kx => XS.aloadN X0.here hx rfl (hb hby d13_0) rfl rfl kx) ?_
  show OwnOk p e below _ (s₁.setTop (mkF m 1 #[.val (.ref b), .val (.ref a), .unset] [(.ref a)]))
  refine own_up (fun tx kx => XS.ifnonnullYes X0.here hx rfl (pc0 := 1) (pc' := 9) rfl (hb hby d13_1) rfl (by decide) (by decide) kx) ?_
  show OwnOk p e below _ (s₁.setTop (mkF m 9 #[.val (.ref b), .val (.ref a), .unset] []))
  refine own_up (fun tx kx => XS.aloadN X0.here hx rfl (hb hby d13_9) rfl rfl kx) ?_
  show OwnOk p e below _ (s₁.setTop (mkF m 10 #[.val (.ref b), .val (.ref a), .unset] [(.ref a)]))
  refine own_callV X0 hx hZ (y := (⟨"java/lang/String", "length", "()I"⟩ : MethodName)) (z := (⟨"java/lang/String", "length", "()I"⟩ : MethodName)) hown (wd_83 hw) (wd_84 hw) (notFace_of_selects (args := #[]) (mvT hZ (wd_86 hw))) (wd_86 hw) (wd_85 hw) (wd_32 hw) (wd_87 hw) (by decide) (j_length l Z a0 hw a u ku ln g cz h0 n0 OL SC hcz E_a F_value_a F_coder_a V_u) e0 (argsL := []) (rest := []) E_a (by rw [hml]; rfl) (lenOf pd_11 rfl) rfl rfl (W := 0) rfl (hb hby d13_10) (by decide) (by decide) (by decide) (by decide) (fun T11 v11 L11 X11 hQ11 => ?_)
  obtain ⟨rfl, Nq11, hh11⟩ := hQ11
  have N11 := Fr.app N0 Nq11
  show OwnOk p e below _ (T11.setTop (mkF m 13 #[.val (.ref b), .val (.ref a), .unset] [(.int (Int32.ofNat ln))]))
  refine own_up (fun tx kx => XS.istoreN X11.here hx rfl (hb hby d13_13) rfl (l' := #[.val (.ref b), .val (.ref a), .val (.int (Int32.ofNat ln))]) rfl kx) ?_
  show OwnOk p e below _ (T11.setTop (mkF m 14 #[.val (.ref b), .val (.ref a), .val (.int (Int32.ofNat ln))] []))
  refine own_up (fun tx kx => XS.aloadN X11.here hx rfl (hb hby d13_14) rfl rfl kx) ?_
  show OwnOk p e below _ (T11.setTop (mkF m 15 #[.val (.ref b), .val (.ref a), .val (.int (Int32.ofNat ln))] [(.ref b)]))
  refine own_up (fun tx kx => XS.aloadN X11.here hx rfl (hb hby d13_15) rfl rfl kx) ?_
  show OwnOk p e below _ (T11.setTop (mkF m 16 #[.val (.ref b), .val (.ref a), .val (.int (Int32.ofNat ln))] [(.ref b), (.ref b)]))
  obtain ⟨T12, X12, e12, st12⟩ := getF X11 hx hZ hown (host := "") (Or.inl (wd_48 hw)) Via.refl hh11 F_count_b (g := (mkF m 16 #[.val (.ref b), .val (.ref a), .val (.int (Int32.ofNat ln))] [(.ref b), (.ref b)])) rfl rfl (hb hby d13_16)
  refine own_up st12 ?_
  show OwnOk p e below _ (T12.setTop (mkF m 19 #[.val (.ref b), .val (.ref a), .val (.int (Int32.ofNat ln))] [(.int (Int32.ofNat cnt)), (.ref b)]))
  refine own_up (fun tx kx => XS.iloadN X12.here hx rfl (hb hby d13_19) rfl kx) ?_
  show OwnOk p e below _ (T12.setTop (mkF m 20 #[.val (.ref b), .val (.ref a), .val (.int (Int32.ofNat ln))] [(.int (Int32.ofNat ln)), (.int (Int32.ofNat cnt)), (.ref b)]))
  refine own_up (fun tx kx => XS.iadd X12.here hx rfl (hb hby d13_20) rfl kx) ?_
  show OwnOk p e below _ (T12.setTop (mkF m 21 #[.val (.ref b), .val (.ref a), .val (.int (Int32.ofNat ln))] [(.int ((Int32.ofNat cnt) + (Int32.ofNat ln))), (.ref b)]))
  rw [show ((Int32.ofNat cnt) + (Int32.ofNat ln)) = (Int32.ofNat (cnt + ln)) from (Int32.ofNat_add cnt ln).symm]
  show OwnOk p e below _ (T12.setTop (mkF m 21 #[.val (.ref b), .val (.ref a), .val (.int (Int32.ofNat ln))] [(.int (Int32.ofNat (cnt + ln))), (.ref b)]))
  refine own_callV X12 hx hZ (y := (⟨"java/lang/AbstractStringBuilder", "ensureCapacityInternal", "(I)V"⟩ : MethodName)) (z := (⟨"java/lang/AbstractStringBuilder", "ensureCapacityInternal", "(I)V"⟩ : MethodName)) hown (wd_54 hw) (own_declares (wd_55 hw) (wd_58 hw)) (notFace_of_selects (args := #[]) (mvT hZ (wd_57 hw))) (wd_57 hw) (wd_55 hw) (wd_28 hw) (wd_58 hw) (by decide) (j_fits l Z a0 hw b t kt cap f cnt (cnt + ln) h0 n0 OL E_b F_value_b F_coder_b F_count_b E_t V_t n0_b n0_t ne_b_t hm hcap) e12 (argsL := [(.int (Int32.ofNat (cnt + ln)))]) (rest := []) E_b (by rw [hml]; rfl) (lenOf pd_0 rfl) rfl rfl (W := 0) rfl (hb hby d13_21) (by decide) (by decide) (by decide) (by decide) (fun T13 v13 L13 X13 hQ13 => ?_)
  obtain ⟨rfl, Nq13, hh13⟩ := hQ13
  have N13 := Fr.app N11 Nq13
  show OwnOk p e below _ (T13.setTop (mkF m 24 #[.val (.ref b), .val (.ref a), .val (.int (Int32.ofNat ln))] []))
  refine own_up (fun tx kx => XS.aloadN X13.here hx rfl (hb hby d13_24) rfl rfl kx) ?_
  show OwnOk p e below _ (T13.setTop (mkF m 25 #[.val (.ref b), .val (.ref a), .val (.int (Int32.ofNat ln))] [(.ref b)]))
  refine own_up (fun tx kx => XS.aloadN X13.here hx rfl (hb hby d13_25) rfl rfl kx) ?_
  show OwnOk p e below _ (T13.setTop (mkF m 26 #[.val (.ref b), .val (.ref a), .val (.int (Int32.ofNat ln))] [(.ref b), (.ref b)]))
  obtain ⟨T14, X14, e14, st14⟩ := getF X13 hx hZ hown (host := "") (Or.inl (wd_48 hw)) Via.refl hh13 F_count_b (g := (mkF m 26 #[.val (.ref b), .val (.ref a), .val (.int (Int32.ofNat ln))] [(.ref b), (.ref b)])) rfl rfl (hb hby d13_26)
  refine own_up st14 ?_
  show OwnOk p e below _ (T14.setTop (mkF m 29 #[.val (.ref b), .val (.ref a), .val (.int (Int32.ofNat ln))] [(.int (Int32.ofNat cnt)), (.ref b)]))
  refine own_up (fun tx kx => XS.aloadN X14.here hx rfl (hb hby d13_29) rfl rfl kx) ?_
  show OwnOk p e below _ (T14.setTop (mkF m 30 #[.val (.ref b), .val (.ref a), .val (.int (Int32.ofNat ln))] [(.ref a), (.int (Int32.ofNat cnt)), (.ref b)]))
  refine own_callV X14 hx hZ (y := (⟨"java/lang/AbstractStringBuilder", "putStringAt", "(ILjava/lang/String;)V"⟩ : MethodName)) (z := (⟨"java/lang/AbstractStringBuilder", "putStringAt", "(ILjava/lang/String;)V"⟩ : MethodName)) hown (wd_96 hw) (own_declares (wd_97 hw) (wd_100 hw)) (notFace_of_selects (args := #[]) (mvT hZ (wd_99 hw))) (wd_99 hw) (wd_97 hw) (wd_28 hw) (wd_100 hw) (by decide) (j_putS l Z a0 hw b t kt cap f cnt a u ku ln g cz h0 n0 OL SC hcz E_b F_value_b F_coder_b F_count_b E_t V_t n0_b n0_t ne_b_t E_a F_value_a F_coder_a V_u ne_u_b ne_u_t ne_a_b ne_a_t hm hcap) e14 (argsL := [(.int (Int32.ofNat cnt)), (.ref a)]) (rest := []) E_b (by rw [hml]; rfl) (lenOf pd_12 rfl) rfl rfl (W := 0) rfl (hb hby d13_30) (by decide) (by decide) (by decide) (by decide) (fun T15 v15 L15 X15 hQ15 => ?_)
  obtain ⟨rfl, Nq15, Kq15, Vq15⟩ := hQ15
  have N15 := Fr.app N13 Nq15
  have OL15 := OL.keep Kq15 (allS n0_t all0)
  have KP15 := KP0.trans Kq15 (allS (Or.inl (List.mem_of_getElem? (i := 1) rfl)) all0)
  show OwnOk p e below _ (T15.setTop (mkF m 33 #[.val (.ref b), .val (.ref a), .val (.int (Int32.ofNat ln))] []))
  refine own_up (fun tx kx => XS.aloadN X15.here hx rfl (hb hby d13_33) rfl rfl kx) ?_
  show OwnOk p e below _ (T15.setTop (mkF m 34 #[.val (.ref b), .val (.ref a), .val (.int (Int32.ofNat ln))] [(.ref b)]))
  refine own_up (fun tx kx => XS.dup X15.here hx rfl (hb hby d13_34) rfl rfl kx) ?_
  show OwnOk p e below _ (T15.setTop (mkF m 35 #[.val (.ref b), .val (.ref a), .val (.int (Int32.ofNat ln))] [(.ref b), (.ref b)]))
  have F_count_b_16 := (F_count_b.keep Kq15 (ninS ne_b_t nin0))
  obtain ⟨T17, X17, e17, st17⟩ := getF X15 hx hZ hown (host := "") (Or.inl (wd_48 hw)) Via.refl rfl F_count_b_16 (g := (mkF m 35 #[.val (.ref b), .val (.ref a), .val (.int (Int32.ofNat ln))] [(.ref b), (.ref b)])) rfl rfl (hb hby d13_35)
  refine own_up st17 ?_
  show OwnOk p e below _ (T17.setTop (mkF m 38 #[.val (.ref b), .val (.ref a), .val (.int (Int32.ofNat ln))] [(.int (Int32.ofNat cnt)), (.ref b)]))
  refine own_up (fun tx kx => XS.iloadN X17.here hx rfl (hb hby d13_38) rfl kx) ?_
  show OwnOk p e below _ (T17.setTop (mkF m 39 #[.val (.ref b), .val (.ref a), .val (.int (Int32.ofNat ln))] [(.int (Int32.ofNat ln)), (.int (Int32.ofNat cnt)), (.ref b)]))
  refine own_up (fun tx kx => XS.iadd X17.here hx rfl (hb hby d13_39) rfl kx) ?_
  show OwnOk p e below _ (T17.setTop (mkF m 40 #[.val (.ref b), .val (.ref a), .val (.int (Int32.ofNat ln))] [(.int ((Int32.ofNat cnt) + (Int32.ofNat ln))), (.ref b)]))
  rw [show ((Int32.ofNat cnt) + (Int32.ofNat ln)) = (Int32.ofNat (cnt + ln)) from (Int32.ofNat_add cnt ln).symm]
  show OwnOk p e below _ (T17.setTop (mkF m 40 #[.val (.ref b), .val (.ref a), .val (.int (Int32.ofNat ln))] [(.int (Int32.ofNat (cnt + ln))), (.ref b)]))
  have E_b_18 := (E_b.keep Kq15)
  obtain ⟨T19, h19, X19, e19, W19, st19⟩ := putF X17 hx hZ hown (host := "") (Or.inl (wd_48 hw)) Via.refl e17 F_count_b_16 E_b_18 (Or.inl (wd_49 hw)) (wd_19 hw) (ty := .int) (by decide) rfl rfl (g := (mkF m 40 #[.val (.ref b), .val (.ref a), .val (.int (Int32.ofNat ln))] [(.int (Int32.ofNat (cnt + ln))), (.ref b)])) rfl rfl (hb hby d13_40)
  have Fw19 := Fld.same W19 F_count_b_16
  have N19 := Fr.snoc X19 N15 n0_b
  have OL20 := OL15.wr W19 n0_b
  have KP20 := KP15.wr W19 (Or.inl (List.mem_of_getElem? (i := 0) rfl))
  refine own_up st19 ?_
  show OwnOk p e below _ (T19.setTop (mkF m 43 #[.val (.ref b), .val (.ref a), .val (.int (Int32.ofNat ln))] []))
  refine own_up (fun tx kx => XS.aloadN X19.here hx rfl (hb hby d13_43) rfl rfl kx) ?_
  show OwnOk p e below _ (T19.setTop (mkF m 44 #[.val (.ref b), .val (.ref a), .val (.int (Int32.ofNat ln))] [(.ref b)]))
  have E_b_21 := (E_b_18.wr W19)
  have F_value_b_22 := ((F_value_b.keep Kq15 (ninS ne_b_t nin0)).other W19 (Or.inr (slot_ne (Or.inl (wd_35 hw)) (Or.inl (wd_49 hw)) (by decide) (t := (.array .byte)) (t' := .int) (by decide) (by decide))))
  have F_coder_b_23 := ((F_coder_b.keep Kq15 (ninS ne_b_t nin0)).other W19 (Or.inr (slot_ne (Or.inl (wd_37 hw)) (Or.inl (wd_49 hw)) (by decide) (t := .byte) (t' := .int) (by decide) (by decide))))
  have E_t_24 := ((E_t.keep Kq15).wr W19)
  have V_t_25 := (Vq15.other W19 (Ne.symm ne_b_t))
  refine own_retR X19 hx (t := (.object "java/lang/AbstractStringBuilder")) (show meth.sig.returnType = some (.object "java/lang/AbstractStringBuilder") from hret) rfl hlk rfl (hb hby d13_44) e19 (Nat.le_of_ble_eq_true rfl) (Nat.le_of_ble_eq_true rfl) ?_
  exact ⟨rfl, N19, KP20, E_b_21, F_value_b_22, F_coder_b_23, Fw19, E_t_24, V_t_25⟩
def Q_j_sbS (Z : State) (b t : Addr) (kt : ClassId) (cap : Nat) (f : Nat → Int32) (cnt : Nat) (ln : Nat) (g : Nat → Int32) (h0 : Heap) (n0 : Nat) (v : Option Value) (h : Heap) (L : List Loc) : Prop := v = some (.ref b) ∧ Fr n0 L ∧ Keep h0 h [b, t] ∧ (Exa Z h b "java/lang/StringBuilder") ∧ (Fld Z h b "java/lang/AbstractStringBuilder" "value" "[B" (.ref t)) ∧ (Fld Z h b "java/lang/AbstractStringBuilder" "coder" "B" (.int (0 : Int32))) ∧ (Fld Z h b "java/lang/AbstractStringBuilder" "count" "I" (.int (Int32.ofNat (cnt + ln)))) ∧ (Exa Z h t "[B") ∧ (Arv Z h t kt .byte (Int32.ofNat cap) (own_F cap (fun j => if cnt ≤ j ∧ j < cnt + ln then g (0 + (j - cnt)) else f j)) (.int (0 : Int32)))
set_option maxRecDepth 65536 in
set_option maxHeartbeats 40000000 in
theorem j_sbS (l : Launch) (Z : State) (a0 : Array Value) (hw : ∀ d ∈ tables_1, d.before a0 Z = true) (b t : Addr) (kt : ClassId) (cap : Nat) (f : Nat → Int32) (cnt : Nat) (a u : Addr) (ku : ClassId) (ln : Nat) (g : Nat → Int32) (cz : Int32) (h0 : Heap) (n0 : Nat) (OL : Old Z n0 h0) (SC : Sta Z Z.heap "java/lang/String" "COMPACT_STRINGS" "Z" (.int cz)) (hcz : ¬ cz = 0) (E_b : Exa Z h0 b "java/lang/StringBuilder") (F_value_b : Fld Z h0 b "java/lang/AbstractStringBuilder" "value" "[B" (.ref t)) (F_coder_b : Fld Z h0 b "java/lang/AbstractStringBuilder" "coder" "B" (.int (0 : Int32))) (F_count_b : Fld Z h0 b "java/lang/AbstractStringBuilder" "count" "I" (.int (Int32.ofNat cnt))) (E_t : Exa Z h0 t "[B") (V_t : Arv Z h0 t kt .byte (Int32.ofNat cap) (own_F cap f) (.int (0 : Int32))) (n0_b : n0 ≤ b) (n0_t : n0 ≤ t) (ne_b_t : b ≠ t) (E_a : Exa Z h0 a "java/lang/String") (F_value_a : Fld Z h0 a "java/lang/String" "value" "[B" (.ref u)) (F_coder_a : Fld Z h0 a "java/lang/String" "coder" "B" (.int (0 : Int32))) (V_u : Arv Z h0 u ku .byte (Int32.ofNat ln) (own_F ln g) (.int (0 : Int32))) (ne_u_b : u ≠ b) (ne_u_t : u ≠ t) (ne_a_b : a ≠ b) (ne_a_t : a ≠ t) (hm : cnt + ln ≤ cap) (hcap : cap ≤ 4000) :
    own_Met l Z (⟨"java/lang/StringBuilder", "append", "(Ljava/lang/String;)Ljava/lang/StringBuilder;"⟩ : MethodName) jdk_67_method_7_code 2 (some (.object "java/lang/StringBuilder")) ({ frames := 4, cells := 0, slots := 0, locals := 73 } : Room) #[(.ref b), (.ref a)] h0 (Q_j_sbS Z b t kt cap f cnt ln g h0 n0) := by
  refine own_body (L0 := #[.val (.ref b), .val (.ref a)]) (plainFor_of_name (by first | (simp [plainName, overriddenIn]; done) | decide +kernel)) (fun m => by first | (simp [entryFrame, mkF, argsToLocals, Value.category]; done) | rfl) ?_
  intro p e s m below meth c s₁ hx hby hml hZ hown hnm hret hlk X0 e0
  have N0 := Fr.nil n0
  have Z0 : n0 ≤ h0.size := OL.1 ▸ OL.2.1
  show OwnOk p e below _ (s₁.setTop (mkF m 0 #[.val (.ref b), .val (.ref a)] []))
  have KP0 : Keep h0 h0 [b, t] := Keep.refl h0 _
  refine own_up (fun tx kx => XS.aloadN X0.here hx rfl (hb hby d12_0) rfl rfl kx) ?_
  show OwnOk p e below _ (s₁.setTop (mkF m 1 #[.val (.ref b), .val (.ref a)] [(.ref b)]))
  refine own_up (fun tx kx => XS.aloadN X0.here hx rfl (hb hby d12_1) rfl rfl kx) ?_
  show OwnOk p e below _ (s₁.setTop (mkF m 2 #[.val (.ref b), .val (.ref a)] [(.ref a), (.ref b)]))
  refine own_callUB X0 hx hZ (y := (⟨"java/lang/AbstractStringBuilder", "append", "(Ljava/lang/String;)Ljava/lang/AbstractStringBuilder;"⟩ : MethodName)) hown (wd_79 hw) (own_sameMethod (own_nf (y1 := (⟨"java/lang/AbstractStringBuilder", "ensureCapacityInternal", "(I)V"⟩ : MethodName)) (notFace_of_selects (wd_57 hw)) rfl (wd_55 hw)) (wd_80 hw) (by decide)) (wd_80 hw) (wd_45 hw) (by decide) (wd_82 hw) (own_bk (j_asbS l Z a0 hw b t kt cap f cnt a u ku ln g cz h0 n0 OL SC hcz E_b F_value_b F_coder_b F_count_b E_t V_t n0_b n0_t ne_b_t E_a F_value_a F_coder_a V_u ne_u_b ne_u_t ne_a_b ne_a_t hm hcap) hZ (wd_82 hw) (wd_28 hw) (by decide) (by decide)) e0 (argsL := [(.ref a)]) (rest := []) E_b (by rw [hml]; rfl) (lenOf pd_13 rfl) rfl rfl (W := 0) rfl (hb hby d12_2) (by decide) (by decide) (fun T11 v11 L11 X11 hQ11 => ?_)
  obtain ⟨rfl, Nq11, Kq11, E_11, fv11, fc11, fn11, et11, vt11⟩ := hQ11
  have N11 := Fr.app N0 Nq11
  have OL11 := OL.keep Kq11 (allS n0_b (allS n0_t all0))
  have KP11 := KP0.trans Kq11 (allS (Or.inl (List.mem_of_getElem? (i := 0) rfl)) (allS (Or.inl (List.mem_of_getElem? (i := 1) rfl)) all0))
  show OwnOk p e below _ (T11.setTop (mkF m 5 #[.val (.ref b), .val (.ref a)] [(.ref b)]))
  refine own_up (fun tx kx => XS.pop X11.here hx rfl (hb hby d12_5) rfl rfl kx) ?_
  show OwnOk p e below _ (T11.setTop (mkF m 6 #[.val (.ref b), .val (.ref a)] []))
  refine own_up (fun tx kx => XS.aloadN X11.here hx rfl (hb hby d12_6) rfl rfl kx) ?_
  show OwnOk p e below _ (T11.setTop (mkF m 7 #[.val (.ref b), .val (.ref a)] [(.ref b)]))
  refine own_retR X11 hx (t := (.object "java/lang/StringBuilder")) (show meth.sig.returnType = some (.object "java/lang/StringBuilder") from hret) rfl hlk rfl (hb hby d12_7) rfl (Nat.le_of_ble_eq_true rfl) (Nat.le_of_ble_eq_true rfl) ?_
  exact ⟨rfl, N11, KP11, E_11, fv11, fc11, fn11, et11, vt11⟩
def Q_j_chkLen (h0 : Heap) (n0 : Nat) (v : Option Value) (h : Heap) (L : List Loc) : Prop := v = none ∧ Fr n0 L ∧ h = h0
set_option maxRecDepth 65536 in
set_option maxHeartbeats 40000000 in
theorem j_chkLen (l : Launch) (Z : State) (a0 : Array Value) (hw : ∀ d ∈ tables_1, d.before a0 Z = true) (x y : Int32) (h0 : Heap) (n0 : Nat) (OL : Old Z n0 h0) (hle : ¬ y < x) :
    own_Met l Z (⟨"java/util/Arrays", "checkLength", "(II)V"⟩ : MethodName) jdk_65_method_131_code 2 none ({ frames := 0, cells := 0, slots := 0, locals := 0 } : Room) #[(.int x), (.int y)] h0 (Q_j_chkLen h0 n0) := by
  refine own_body (L0 := #[.val (.int x), .val (.int y)]) (plainFor_of_name (by first | (simp [plainName, overriddenIn]; done) | decide +kernel)) (fun m => by first | (simp [entryFrame, mkF, argsToLocals, Value.category]; done) | rfl) ?_
  intro p e s m below meth c s₁ hx hby hml hZ hown hnm hret hlk X0 e0
  have N0 := Fr.nil n0
  have Z0 : n0 ≤ h0.size := OL.1 ▸ OL.2.1
  show OwnOk p e below _ (s₁.setTop (mkF m 0 #[.val (.int x), .val (.int y)] []))
  refine own_up (fun tx kx => XS.iloadN X0.here hx rfl (hb hby d27_0) rfl kx) ?_
  show OwnOk p e below _ (s₁.setTop (mkF m 1 #[.val (.int x), .val (.int y)] [(.int y)]))
  refine own_up (fun tx kx => XS.iloadN X0.here hx rfl (hb hby d27_1) rfl kx) ?_
  show OwnOk p e below _ (s₁.setTop (mkF m 2 #[.val (.int x), .val (.int y)] [(.int x), (.int y)]))
  refine own_up (fun tx kx => XS.icmpYes X0.here hx rfl (pc0 := 2) (pc' := 37) rfl (hb hby d27_2) rfl (flt hle).2.1 (by decide) (by decide) kx) ?_
  show OwnOk p e below _ (s₁.setTop (mkF m 37 #[.val (.int x), .val (.int y)] []))
  refine own_retV X0 hx (show meth.sig.returnType = none from hret) hlk (hb hby d27_37) e0 (Nat.le_of_ble_eq_true rfl) (Nat.le_of_ble_eq_true rfl) ?_
  exact ⟨rfl, N0, rfl⟩
def Q_j_copyB (Z : State) (f : Nat → Int32) (fr to : Nat) (h0 : Heap) (n0 : Nat) (v : Option Value) (h : Heap) (L : List Loc) : Prop := ∃ (r : Addr) (kr : ClassId), v = some (.ref r) ∧ Fr n0 L ∧ Keep h0 h [] ∧ h0.size ≤ r ∧ (Exa Z h r "[B") ∧ (Arv Z h r kr .byte (Int32.ofNat (to - fr)) (own_F (to - fr) (fun j => f (fr + j))) (.int (0 : Int32)))
set_option maxRecDepth 65536 in
set_option maxHeartbeats 40000000 in
theorem j_copyB (l : Launch) (Z : State) (a0 : Array Value) (hw : ∀ d ∈ tables_1, d.before a0 Z = true) (t : Addr) (kt : ClassId) (cap : Nat) (f : Nat → Int32) (fr to : Nat) (h0 : Heap) (n0 : Nat) (OL : Old Z n0 h0) (E_t : Exa Z h0 t "[B") (V_t : Arv Z h0 t kt .byte (Int32.ofNat cap) (own_F cap f) (.int (0 : Int32))) (h1 : fr ≤ to) (h2 : to ≤ cap) (hcap : cap ≤ 34) :
    own_Met l Z (⟨"java/util/Arrays", "copyOfRangeByte", "([BII)[B"⟩ : MethodName) jdk_65_method_133_code 5 (some (.array .byte)) ({ frames := 1, cells := 1, slots := 34, locals := 32 } : Room) #[(.ref t), (.int (Int32.ofNat fr)), (.int (Int32.ofNat to))] h0 (Q_j_copyB Z f fr to h0 n0) := by
  refine own_body (L0 := #[.val (.ref t), .val (.int (Int32.ofNat fr)), .val (.int (Int32.ofNat to)), .unset, .unset]) (plainFor_of_name (by first | (simp [plainName, overriddenIn]; done) | decide +kernel)) (fun m => by first | (simp [entryFrame, mkF, argsToLocals, Value.category]; done) | rfl) ?_
  intro p e s m below meth c s₁ hx hby hml hZ hown hnm hret hlk X0 e0
  have N0 := Fr.nil n0
  have Z0 : n0 ≤ h0.size := OL.1 ▸ OL.2.1
  show OwnOk p e below _ (s₁.setTop (mkF m 0 #[.val (.ref t), .val (.int (Int32.ofNat fr)), .val (.int (Int32.ofNat to)), .unset, .unset] []))
  have KP0 : Keep h0 h0 [] := Keep.refl h0 _
  refine own_up (fun tx kx => XS.iloadN X0.here hx rfl (hb hby d26_0) rfl kx) ?_
  show OwnOk p e below _ (s₁.setTop (mkF m 1 #[.val (.ref t), .val (.int (Int32.ofNat fr)), .val (.int (Int32.ofNat to)), .unset, .unset] [(.int (Int32.ofNat fr))]))
  refine own_up (fun tx kx => XS.iloadN X0.here hx rfl (hb hby d26_1) rfl kx) ?_
  show OwnOk p e below _ (s₁.setTop (mkF m 2 #[.val (.ref t), .val (.int (Int32.ofNat fr)), .val (.int (Int32.ofNat to)), .unset, .unset] [(.int (Int32.ofNat to)), (.int (Int32.ofNat fr))]))
  refine own_callS X0 hx hZ (y := (⟨"java/util/Arrays", "checkLength", "(II)V"⟩ : MethodName)) hown (wd_151 hw) (wd_152 hw) (wd_146 hw) (wd_153 hw) (by decide) (j_chkLen l Z a0 hw (Int32.ofNat fr) (Int32.ofNat to) h0 n0 OL (own_nlt h1 (by omega))) e0 (argsL := [(.int (Int32.ofNat fr)), (.int (Int32.ofNat to))]) (rest := []) (by rw [hml]; rfl) (lenOf pd_14 rfl) rfl rfl (W := 0) rfl (hb hby d26_2) (by decide) (by decide) (by decide) (by decide) (fun T11 v11 L11 X11 hQ11 => ?_)
  obtain ⟨rfl, Nq11, hh11⟩ := hQ11
  have N11 := Fr.app N0 Nq11
  show OwnOk p e below _ (T11.setTop (mkF m 5 #[.val (.ref t), .val (.int (Int32.ofNat fr)), .val (.int (Int32.ofNat to)), .unset, .unset] []))
  refine own_up (fun tx kx => XS.iloadN X11.here hx rfl (hb hby d26_5) rfl kx) ?_
  show OwnOk p e below _ (T11.setTop (mkF m 6 #[.val (.ref t), .val (.int (Int32.ofNat fr)), .val (.int (Int32.ofNat to)), .unset, .unset] [(.int (Int32.ofNat to))]))
  refine own_up (fun tx kx => XS.iloadN X11.here hx rfl (hb hby d26_6) rfl kx) ?_
  show OwnOk p e below _ (T11.setTop (mkF m 7 #[.val (.ref t), .val (.int (Int32.ofNat fr)), .val (.int (Int32.ofNat to)), .unset, .unset] [(.int (Int32.ofNat fr)), (.int (Int32.ofNat to))]))
  refine own_up (fun tx kx => XS.isub X11.here hx rfl (hb hby d26_7) rfl kx) ?_
  show OwnOk p e below _ (T11.setTop (mkF m 8 #[.val (.ref t), .val (.int (Int32.ofNat fr)), .val (.int (Int32.ofNat to)), .unset, .unset] [(.int ((Int32.ofNat to) - (Int32.ofNat fr)))]))
  rw [show ((Int32.ofNat to) - (Int32.ofNat fr)) = (Int32.ofNat (to - fr)) from (Int32.ofNat_sub to fr h1).symm]
  show OwnOk p e below _ (T11.setTop (mkF m 8 #[.val (.ref t), .val (.int (Int32.ofNat fr)), .val (.int (Int32.ofNat to)), .unset, .unset] [(.int (Int32.ofNat (to - fr)))]))
  refine own_up (fun tx kx => XS.istoreN X11.here hx rfl (hb hby d26_8) rfl (l' := #[.val (.ref t), .val (.int (Int32.ofNat fr)), .val (.int (Int32.ofNat to)), .val (.int (Int32.ofNat (to - fr))), .unset]) rfl kx) ?_
  show OwnOk p e below _ (T11.setTop (mkF m 9 #[.val (.ref t), .val (.int (Int32.ofNat fr)), .val (.int (Int32.ofNat to)), .val (.int (Int32.ofNat (to - fr))), .unset] []))
  refine own_up (fun tx kx => XS.iloadN X11.here hx rfl (hb hby d26_9) rfl kx) ?_
  show OwnOk p e below _ (T11.setTop (mkF m 10 #[.val (.ref t), .val (.int (Int32.ofNat fr)), .val (.int (Int32.ofNat to)), .val (.int (Int32.ofNat (to - fr))), .unset] [(.int (Int32.ofNat (to - fr)))]))
  obtain ⟨T12, h12, k12, X12, e12, E12, A12, P12, st12⟩ := newPE (aty := .byte) X11 hx hZ (wd_33 hw) hh11 (g := (mkF m 10 #[.val (.ref t), .val (.int (Int32.ofNat fr)), .val (.int (Int32.ofNat to)), .val (.int (Int32.ofNat (to - fr))), .unset] [(.int (Int32.ofNat (to - fr)))])) rfl (hb hby d26_10) rfl (own_nn (to - fr) (by omega)) (cap := 34) (by rw [own_cl _ (by omega)]; omega) (by decide) (by decide) (by decide) (ad := "[B") (by decide)
  obtain ⟨b12, g12⟩ : ∃ z, z = h0.size := ⟨_, rfl⟩
  rw [← g12] at A12 P12 st12
  have sz_b12 : h0.size ≤ b12 := Nat.le_of_eq g12.symm
  have lt_t_b12 : t < b12 := Nat.lt_of_lt_of_le E_t.lt sz_b12
  have n0_b12 : n0 ≤ b12 := Nat.le_trans (own_n0 OL) sz_b12
  have ws_b12 : h0.size ≤ b12 := Nat.le_trans KP0.1 sz_b12
  have V_b12 : Arv Z h12 b12 k12 .byte (Int32.ofNat (to - fr)) (own_F (to - fr) fun _ => 0) (.int (0 : Int32)) := own_newF (Arv.new A12 (own_nn (to - fr) (by omega))) (to - fr)
  have OL14 := OL.ext E12
  have KP14 := KP0.ext E12
  refine own_up st12 ?_
  show OwnOk p e below _ (T12.setTop (mkF m 12 #[.val (.ref t), .val (.int (Int32.ofNat fr)), .val (.int (Int32.ofNat to)), .val (.int (Int32.ofNat (to - fr))), .unset] [(.ref b12)]))
  refine own_up (fun tx kx => XS.astore X12.here hx rfl (hb hby d26_12) rfl rfl (l' := #[.val (.ref t), .val (.int (Int32.ofNat fr)), .val (.int (Int32.ofNat to)), .val (.int (Int32.ofNat (to - fr))), .val (.ref b12)]) rfl kx) ?_
  show OwnOk p e below _ (T12.setTop (mkF m 14 #[.val (.ref t), .val (.int (Int32.ofNat fr)), .val (.int (Int32.ofNat to)), .val (.int (Int32.ofNat (to - fr))), .val (.ref b12)] []))
  refine own_up (fun tx kx => XS.aloadN X12.here hx rfl (hb hby d26_14) rfl rfl kx) ?_
  show OwnOk p e below _ (T12.setTop (mkF m 15 #[.val (.ref t), .val (.int (Int32.ofNat fr)), .val (.int (Int32.ofNat to)), .val (.int (Int32.ofNat (to - fr))), .val (.ref b12)] [(.ref t)]))
  refine own_up (fun tx kx => XS.iloadN X12.here hx rfl (hb hby d26_15) rfl kx) ?_
  show OwnOk p e below _ (T12.setTop (mkF m 16 #[.val (.ref t), .val (.int (Int32.ofNat fr)), .val (.int (Int32.ofNat to)), .val (.int (Int32.ofNat (to - fr))), .val (.ref b12)] [(.int (Int32.ofNat fr)), (.ref t)]))
  refine own_up (fun tx kx => XS.aload X12.here hx rfl (hb hby d26_16) rfl rfl kx) ?_
  show OwnOk p e below _ (T12.setTop (mkF m 18 #[.val (.ref t), .val (.int (Int32.ofNat fr)), .val (.int (Int32.ofNat to)), .val (.int (Int32.ofNat (to - fr))), .val (.ref b12)] [(.ref b12), (.int (Int32.ofNat fr)), (.ref t)]))
  refine own_up (fun tx kx => XS.iconst X12.here hx rfl (hb hby d26_18) kx) ?_
  show OwnOk p e below _ (T12.setTop (mkF m 19 #[.val (.ref t), .val (.int (Int32.ofNat fr)), .val (.int (Int32.ofNat to)), .val (.int (Int32.ofNat (to - fr))), .val (.ref b12)] [(.int (0 : Int32)), (.ref b12), (.int (Int32.ofNat fr)), (.ref t)]))
  refine own_up (fun tx kx => XS.aloadN X12.here hx rfl (hb hby d26_19) rfl rfl kx) ?_
  show OwnOk p e below _ (T12.setTop (mkF m 20 #[.val (.ref t), .val (.int (Int32.ofNat fr)), .val (.int (Int32.ofNat to)), .val (.int (Int32.ofNat (to - fr))), .val (.ref b12)] [(.ref t), (.int (0 : Int32)), (.ref b12), (.int (Int32.ofNat fr)), (.ref t)]))
  have V_t_15 := (V_t.ext E12)
  obtain ⟨cl16, Ar16, qc16, Sz16, Nn16, Hs16, Gf16⟩ := id V_t_15
  have hlen16 : cl16.slots.size.toInt32 = (Int32.ofNat cap) := len_of Sz16 Nn16
  refine own_up (fun tx kx => X12.arraylength hx (own_ar e12 Ar16.1) (State.isArrayOf_alike hZ.alike Ar16.2.1) (g := (mkF m 20 #[.val (.ref t), .val (.int (Int32.ofNat fr)), .val (.int (Int32.ofNat to)), .val (.int (Int32.ofNat (to - fr))), .val (.ref b12)] [(.ref t), (.int (0 : Int32)), (.ref b12), (.int (Int32.ofNat fr)), (.ref t)])) rfl rfl (hb hby d26_20) _ kx) ?_
  rw [hlen16]
  show OwnOk p e below _ (T12.setTop (mkF m 21 #[.val (.ref t), .val (.int (Int32.ofNat fr)), .val (.int (Int32.ofNat to)), .val (.int (Int32.ofNat (to - fr))), .val (.ref b12)] [(.int (Int32.ofNat cap)), (.int (0 : Int32)), (.ref b12), (.int (Int32.ofNat fr)), (.ref t)]))
  refine own_up (fun tx kx => XS.iloadN X12.here hx rfl (hb hby d26_21) rfl kx) ?_
  show OwnOk p e below _ (T12.setTop (mkF m 22 #[.val (.ref t), .val (.int (Int32.ofNat fr)), .val (.int (Int32.ofNat to)), .val (.int (Int32.ofNat (to - fr))), .val (.ref b12)] [(.int (Int32.ofNat fr)), (.int (Int32.ofNat cap)), (.int (0 : Int32)), (.ref b12), (.int (Int32.ofNat fr)), (.ref t)]))
  refine own_up (fun tx kx => XS.isub X12.here hx rfl (hb hby d26_22) rfl kx) ?_
  show OwnOk p e below _ (T12.setTop (mkF m 23 #[.val (.ref t), .val (.int (Int32.ofNat fr)), .val (.int (Int32.ofNat to)), .val (.int (Int32.ofNat (to - fr))), .val (.ref b12)] [(.int ((Int32.ofNat cap) - (Int32.ofNat fr))), (.int (0 : Int32)), (.ref b12), (.int (Int32.ofNat fr)), (.ref t)]))
  rw [show ((Int32.ofNat cap) - (Int32.ofNat fr)) = (Int32.ofNat (cap - fr)) from (Int32.ofNat_sub cap fr (by omega)).symm]
  show OwnOk p e below _ (T12.setTop (mkF m 23 #[.val (.ref t), .val (.int (Int32.ofNat fr)), .val (.int (Int32.ofNat to)), .val (.int (Int32.ofNat (to - fr))), .val (.ref b12)] [(.int (Int32.ofNat (cap - fr))), (.int (0 : Int32)), (.ref b12), (.int (Int32.ofNat fr)), (.ref t)]))
  refine own_up (fun tx kx => XS.iloadN X12.here hx rfl (hb hby d26_23) rfl kx) ?_
  show OwnOk p e below _ (T12.setTop (mkF m 24 #[.val (.ref t), .val (.int (Int32.ofNat fr)), .val (.int (Int32.ofNat to)), .val (.int (Int32.ofNat (to - fr))), .val (.ref b12)] [(.int (Int32.ofNat (to - fr))), (.int (Int32.ofNat (cap - fr))), (.int (0 : Int32)), (.ref b12), (.int (Int32.ofNat fr)), (.ref t)]))
  refine own_callS X12 hx hZ (y := (⟨"java/lang/Math", "min", "(II)I"⟩ : MethodName)) hown (wd_154 hw) (wd_155 hw) (wd_156 hw) (wd_157 hw) (by decide) (j_min l Z a0 hw (Int32.ofNat (cap - fr)) (Int32.ofNat (to - fr)) h12 n0 OL14) e12 (argsL := [(.int (Int32.ofNat (cap - fr))), (.int (Int32.ofNat (to - fr)))]) (rest := [(.int (0 : Int32)), (.ref b12), (.int (Int32.ofNat fr)), (.ref t)]) (by rw [hml]; rfl) (lenOf pd_1 rfl) rfl rfl (W := 4) rfl (hb hby d26_24) (by decide) (by decide) (by decide) (by decide) (fun T17 v17 L17 X17 hQ17 => ?_)
  obtain ⟨rfl, Nq17, hh17⟩ := hQ17
  have N17 := Fr.app N11 Nq17
  show OwnOk p e below _ (T17.setTop (mkF m 27 #[.val (.ref t), .val (.int (Int32.ofNat fr)), .val (.int (Int32.ofNat to)), .val (.int (Int32.ofNat (to - fr))), .val (.ref b12)] [(.int (if (Int32.ofNat (to - fr)) < (Int32.ofNat (cap - fr)) then (Int32.ofNat (to - fr)) else (Int32.ofNat (cap - fr)))), (.int (0 : Int32)), (.ref b12), (.int (Int32.ofNat fr)), (.ref t)]))
  rw [show (if (Int32.ofNat (to - fr)) < (Int32.ofNat (cap - fr)) then (Int32.ofNat (to - fr)) else (Int32.ofNat (cap - fr))) = (Int32.ofNat (to - fr)) from own_min (by omega : to - fr ≤ cap - fr) (by omega)]
  show OwnOk p e below _ (T17.setTop (mkF m 27 #[.val (.ref t), .val (.int (Int32.ofNat fr)), .val (.int (Int32.ofNat to)), .val (.int (Int32.ofNat (to - fr))), .val (.ref b12)] [(.int (Int32.ofNat (to - fr))), (.int (0 : Int32)), (.ref b12), (.int (Int32.ofNat fr)), (.ref t)]))
  show OwnOk p e below _ (T17.setTop (mkF m 27 #[.val (.ref t), .val (.int (Int32.ofNat fr)), .val (.int (Int32.ofNat to)), .val (.int (Int32.ofNat (to - fr))), .val (.ref b12)] [(.int (Int32.ofNat (to - fr))), (.int (Int32.ofNat 0)), (.ref b12), (.int (Int32.ofNat fr)), (.ref t)]))
  obtain ⟨T18, h18, L18, X18, e18, N18, K18, V18, st18⟩ := cpA X17 hx hZ hown (wd_158 hw) (wd_115 hw) (wd_113 hw) (wd_114 hw) hh17 V_t_15 V_b12 (Or.inl ⟨rfl, rfl⟩) (own_nn fr (by omega)) (own_nn 0 (by omega)) (own_nn (to - fr) (by omega)) (own_cl3 (a := fr) (b := (to - fr)) (c := cap) (by omega) (by omega) (by omega) (by omega)) (own_cl3 (a := 0) (b := (to - fr)) (c := (to - fr)) (by omega) (by omega) (by omega) (by omega)) rfl (own_clF (a := 0) (b := (to - fr)) (by omega) (by omega) (by omega)) N17 n0_b12 (g := (mkF m 27 #[.val (.ref t), .val (.int (Int32.ofNat fr)), .val (.int (Int32.ofNat to)), .val (.int (Int32.ofNat (to - fr))), .val (.ref b12)] [(.int (Int32.ofNat (to - fr))), (.int (Int32.ofNat 0)), (.ref b12), (.int (Int32.ofNat fr)), (.ref t)])) rfl (by rw [hml]; rfl) rfl (hb hby d26_27) (by decide) (W := 0) (by show 2 * 0 + _ ≤ _; exact Nat.le_of_eq rfl) (by decide)
  rw [own_F_copyI (n := (to - fr)) (dp := 0) (nn := (to - fr)) (sp := fr) (ns := cap) (by omega) (by omega) (by omega) (by omega) (by omega)] at V18
  have OL19 := OL14.keep K18 (allS n0_b12 all0)
  have KP19 := KP14.trans K18 (allS (Or.inr ws_b12) all0)
  refine own_up st18 ?_
  show OwnOk p e below _ (T18.setTop (mkF m 30 #[.val (.ref t), .val (.int (Int32.ofNat fr)), .val (.int (Int32.ofNat to)), .val (.int (Int32.ofNat (to - fr))), .val (.ref b12)] []))
  refine own_up (fun tx kx => XS.aload X18.here hx rfl (hb hby d26_30) rfl rfl kx) ?_
  show OwnOk p e below _ (T18.setTop (mkF m 32 #[.val (.ref t), .val (.int (Int32.ofNat fr)), .val (.int (Int32.ofNat to)), .val (.int (Int32.ofNat (to - fr))), .val (.ref b12)] [(.ref b12)]))
  have Vf : Arv Z h18 b12 k12 .byte (Int32.ofNat (to - fr)) (own_F (to - fr) (fun j => f (fr + j))) (.int (0 : Int32)) := (own_F_congr (n := to - fr) (f := fun j => if 0 ≤ j ∧ j < 0 + (to - fr) then f (fr + (j - 0)) else (fun _ => 0) j) (g := fun j => f (fr + j)) (fun j hj => by dsimp only; rw [if_pos ⟨Nat.zero_le _, by omega⟩, Nat.sub_zero])) ▸ V18
  have E_b12_20 := (P12.keep K18)
  refine own_retR X18 hx (t := (.array .byte)) (show meth.sig.returnType = some (.array .byte) from hret) rfl hlk rfl (hb hby d26_32) e18 (Nat.le_of_ble_eq_true rfl) (Nat.le_of_ble_eq_true rfl) ?_
  exact ⟨b12, _, rfl, N18, KP19, ws_b12, E_b12_20, Vf⟩
def Q_j_copyR (Z : State) (f : Nat → Int32) (fr to : Nat) (h0 : Heap) (n0 : Nat) (v : Option Value) (h : Heap) (L : List Loc) : Prop := ∃ (r : Addr) (kr : ClassId), v = some (.ref r) ∧ Fr n0 L ∧ Keep h0 h [] ∧ h0.size ≤ r ∧ (Exa Z h r "[B") ∧ (Arv Z h r kr .byte (Int32.ofNat (to - fr)) (own_F (to - fr) (fun j => f (fr + j))) (.int (0 : Int32)))
set_option maxRecDepth 65536 in
set_option maxHeartbeats 40000000 in
theorem j_copyR (l : Launch) (Z : State) (a0 : Array Value) (hw : ∀ d ∈ tables_1, d.before a0 Z = true) (t : Addr) (kt : ClassId) (cap : Nat) (f : Nat → Int32) (fr to : Nat) (h0 : Heap) (n0 : Nat) (OL : Old Z n0 h0) (E_t : Exa Z h0 t "[B") (V_t : Arv Z h0 t kt .byte (Int32.ofNat cap) (own_F cap f) (.int (0 : Int32))) (h1 : fr ≤ to) (h2 : to ≤ cap) (hcap : cap ≤ 34) :
    own_Met l Z (⟨"java/util/Arrays", "copyOfRange", "([BII)[B"⟩ : MethodName) jdk_65_method_132_code 3 (some (.array .byte)) ({ frames := 2, cells := 1, slots := 34, locals := 48 } : Room) #[(.ref t), (.int (Int32.ofNat fr)), (.int (Int32.ofNat to))] h0 (Q_j_copyR Z f fr to h0 n0) := by
  refine own_body (L0 := #[.val (.ref t), .val (.int (Int32.ofNat fr)), .val (.int (Int32.ofNat to))]) (plainFor_of_name (by first | (simp [plainName, overriddenIn]; done) | decide +kernel)) (fun m => by first | (simp [entryFrame, mkF, argsToLocals, Value.category]; done) | rfl) ?_
  intro p e s m below meth c s₁ hx hby hml hZ hown hnm hret hlk X0 e0
  have N0 := Fr.nil n0
  have Z0 : n0 ≤ h0.size := OL.1 ▸ OL.2.1
  show OwnOk p e below _ (s₁.setTop (mkF m 0 #[.val (.ref t), .val (.int (Int32.ofNat fr)), .val (.int (Int32.ofNat to))] []))
  have KP0 : Keep h0 h0 [] := Keep.refl h0 _
  refine own_up (fun tx kx => XS.iloadN X0.here hx rfl (hb hby d25_0) rfl kx) ?_
  show OwnOk p e below _ (s₁.setTop (mkF m 1 #[.val (.ref t), .val (.int (Int32.ofNat fr)), .val (.int (Int32.ofNat to))] [(.int (Int32.ofNat fr))]))
  by_cases hz : (Int32.ofNat fr) = (0 : Int32)
  · refine own_up (fun tx kx => XS.ifNo X0.here hx rfl (hb hby d25_1) rfl ((if0 _ _).trans (teq hz).2) kx) ?_
    show OwnOk p e below _ (s₁.setTop (mkF m 4 #[.val (.ref t), .val (.int (Int32.ofNat fr)), .val (.int (Int32.ofNat to))] []))
    refine own_up (fun tx kx => XS.iloadN X0.here hx rfl (hb hby d25_4) rfl kx) ?_
    show OwnOk p e below _ (s₁.setTop (mkF m 5 #[.val (.ref t), .val (.int (Int32.ofNat fr)), .val (.int (Int32.ofNat to))] [(.int (Int32.ofNat to))]))
    refine own_up (fun tx kx => XS.aloadN X0.here hx rfl (hb hby d25_5) rfl rfl kx) ?_
    show OwnOk p e below _ (s₁.setTop (mkF m 6 #[.val (.ref t), .val (.int (Int32.ofNat fr)), .val (.int (Int32.ofNat to))] [(.ref t), (.int (Int32.ofNat to))]))
    obtain ⟨cl11, Ar11, qc11, Sz11, Nn11, Hs11, Gf11⟩ := id V_t
    have hlen11 : cl11.slots.size.toInt32 = (Int32.ofNat cap) := len_of Sz11 Nn11
    refine own_up (fun tx kx => X0.arraylength hx (own_ar e0 Ar11.1) (State.isArrayOf_alike hZ.alike Ar11.2.1) (g := (mkF m 6 #[.val (.ref t), .val (.int (Int32.ofNat fr)), .val (.int (Int32.ofNat to))] [(.ref t), (.int (Int32.ofNat to))])) rfl rfl (hb hby d25_6) _ kx) ?_
    rw [hlen11]
    show OwnOk p e below _ (s₁.setTop (mkF m 7 #[.val (.ref t), .val (.int (Int32.ofNat fr)), .val (.int (Int32.ofNat to))] [(.int (Int32.ofNat cap)), (.int (Int32.ofNat to))]))
    by_cases hq : (Int32.ofNat to) = (Int32.ofNat cap)
    · refine own_up (fun tx kx => XS.icmpYes X0.here hx rfl (pc0 := 7) (pc' := 17) rfl (hb hby d25_7) rfl (teq hq).1 (by decide) (by decide) kx) ?_
      show OwnOk p e below _ (s₁.setTop (mkF m 17 #[.val (.ref t), .val (.int (Int32.ofNat fr)), .val (.int (Int32.ofNat to))] []))
      have hf0 : fr = 0 := own_ofNat0 hz (by omega)
      have ht0 : to = cap := own_ofNatEq hq (by omega) (by omega)
      subst hf0 ht0
      show OwnOk p e below _ (s₁.setTop (mkF m 17 #[.val (.ref t), .val (.int (Int32.ofNat 0)), .val (.int (Int32.ofNat to))] []))
      refine own_up (fun tx kx => XS.aloadN X0.here hx rfl (hb hby d25_17) rfl rfl kx) ?_
      show OwnOk p e below _ (s₁.setTop (mkF m 18 #[.val (.ref t), .val (.int (Int32.ofNat 0)), .val (.int (Int32.ofNat to))] [(.ref t)]))
      obtain ⟨T12, h12, X12, e12, E12, V12, P12, st12⟩ := cloneH X0 hx hZ hown (wd_230 hw) (wd_231 hw) (wd_235 hw) (wd_233 hw) (wd_234 hw) (wd_236 hw) e0 (Arv.arh V_t) E_t (g := (mkF m 18 #[.val (.ref t), .val (.int (Int32.ofNat 0)), .val (.int (Int32.ofNat to))] [(.ref t)])) rfl (by rw [hml]; rfl) rfl (hb hby d25_18) (by decide) (W := 0) (cap := 34) (by show 2 * 0 + _ ≤ _; exact Nat.le_of_eq rfl) (by decide) (by rw [own_cl _ (by omega)]; omega) (by decide) (by decide)
      obtain ⟨b12, g12⟩ : ∃ z, z = h0.size := ⟨_, rfl⟩
      rw [← g12] at V12 P12 st12
      have sz_b12 : h0.size ≤ b12 := Nat.le_of_eq g12.symm
      have lt_t_b12 : t < b12 := Nat.lt_of_lt_of_le E_t.lt sz_b12
      have n0_b12 : n0 ≤ b12 := Nat.le_trans (own_n0 OL) sz_b12
      have ws_b12 : h0.size ≤ b12 := Nat.le_trans KP0.1 sz_b12
      have OL14 := OL.ext E12
      have KP14 := KP0.ext E12
      refine own_up st12 ?_
      show OwnOk p e below _ (T12.setTop (mkF m 21 #[.val (.ref t), .val (.int (Int32.ofNat 0)), .val (.int (Int32.ofNat to))] [(.ref b12)]))
      obtain ⟨T15, X15, e15, st15⟩ := castY X12 hx hZ hown (wd_237 hw) e12 (Ins.self P12) (g := (mkF m 21 #[.val (.ref t), .val (.int (Int32.ofNat 0)), .val (.int (Int32.ofNat to))] [(.ref b12)])) rfl rfl (hb hby d25_21)
      refine own_up st15 ?_
      show OwnOk p e below _ (T15.setTop (mkF m 24 #[.val (.ref t), .val (.int (Int32.ofNat 0)), .val (.int (Int32.ofNat to))] [(.ref b12)]))
      have Vf : Arv Z h12 b12 kt .byte (Int32.ofNat (to - 0)) (own_F (to - 0) (fun j => f (0 + j))) (.int (0 : Int32)) := (own_F_congr (n := to) (f := f) (g := fun j => f (0 + j)) (fun j hj => by rw [Nat.zero_add])) ▸ (show Arv Z h12 b12 kt .byte (Int32.ofNat to) (own_F to f) (.int (0 : Int32)) from V12)
      refine own_retR X15 hx (t := (.array .byte)) (show meth.sig.returnType = some (.array .byte) from hret) rfl hlk rfl (hb hby d25_24) e15 (Nat.le_of_ble_eq_true rfl) (Nat.le_of_ble_eq_true rfl) ?_
      exact ⟨b12, kt, rfl, N0, KP14, ws_b12, P12, Vf⟩
    · refine own_up (fun tx kx => XS.icmpNo X0.here hx rfl (hb hby d25_7) rfl (feq hq).1 kx) ?_
      show OwnOk p e below _ (s₁.setTop (mkF m 10 #[.val (.ref t), .val (.int (Int32.ofNat fr)), .val (.int (Int32.ofNat to))] []))
      refine own_up (fun tx kx => XS.aloadN X0.here hx rfl (hb hby d25_10) rfl rfl kx) ?_
      show OwnOk p e below _ (s₁.setTop (mkF m 11 #[.val (.ref t), .val (.int (Int32.ofNat fr)), .val (.int (Int32.ofNat to))] [(.ref t)]))
      refine own_up (fun tx kx => XS.iloadN X0.here hx rfl (hb hby d25_11) rfl kx) ?_
      show OwnOk p e below _ (s₁.setTop (mkF m 12 #[.val (.ref t), .val (.int (Int32.ofNat fr)), .val (.int (Int32.ofNat to))] [(.int (Int32.ofNat fr)), (.ref t)]))
      refine own_up (fun tx kx => XS.iloadN X0.here hx rfl (hb hby d25_12) rfl kx) ?_
      show OwnOk p e below _ (s₁.setTop (mkF m 13 #[.val (.ref t), .val (.int (Int32.ofNat fr)), .val (.int (Int32.ofNat to))] [(.int (Int32.ofNat to)), (.int (Int32.ofNat fr)), (.ref t)]))
      refine own_callS X0 hx hZ (y := (⟨"java/util/Arrays", "copyOfRangeByte", "([BII)[B"⟩ : MethodName)) hown (wd_148 hw) (wd_149 hw) (wd_146 hw) (wd_150 hw) (by decide) (j_copyB l Z a0 hw t kt cap f fr to h0 n0 OL E_t V_t h1 h2 hcap) e0 (argsL := [(.ref t), (.int (Int32.ofNat fr)), (.int (Int32.ofNat to))]) (rest := []) (by rw [hml]; rfl) (lenOf pd_15 rfl) rfl rfl (W := 0) rfl (hb hby d25_13) (by decide) (by decide) (by decide) (by decide) (fun T16 v16 L16 X16 hQ16 => ?_)
      obtain ⟨rr16, kr16, rfl, Nq16, Kq16, gr16, er16, vr16⟩ := hQ16
      have N16 := Fr.app N0 Nq16
      have OL16 := OL.keep Kq16 all0
      have KP16 := KP0.trans Kq16 all0
      show OwnOk p e below _ (T16.setTop (mkF m 16 #[.val (.ref t), .val (.int (Int32.ofNat fr)), .val (.int (Int32.ofNat to))] [(.ref rr16)]))
      refine own_retR X16 hx (t := (.array .byte)) (show meth.sig.returnType = some (.array .byte) from hret) rfl hlk rfl (hb hby d25_16) rfl (Nat.le_of_ble_eq_true rfl) (Nat.le_of_ble_eq_true rfl) ?_
      exact ⟨rr16, kr16, rfl, N16, KP16, gr16, er16, vr16⟩
  · refine own_up (fun tx kx => XS.ifYes X0.here hx rfl (pc0 := 1) (pc' := 10) rfl (hb hby d25_1) rfl ((if0 _ _).trans (feq hz).2) (by decide) (by decide) kx) ?_
    show OwnOk p e below _ (s₁.setTop (mkF m 10 #[.val (.ref t), .val (.int (Int32.ofNat fr)), .val (.int (Int32.ofNat to))] []))
    refine own_up (fun tx kx => XS.aloadN X0.here hx rfl (hb hby d25_10) rfl rfl kx) ?_
    show OwnOk p e below _ (s₁.setTop (mkF m 11 #[.val (.ref t), .val (.int (Int32.ofNat fr)), .val (.int (Int32.ofNat to))] [(.ref t)]))
    refine own_up (fun tx kx => XS.iloadN X0.here hx rfl (hb hby d25_11) rfl kx) ?_
    show OwnOk p e below _ (s₁.setTop (mkF m 12 #[.val (.ref t), .val (.int (Int32.ofNat fr)), .val (.int (Int32.ofNat to))] [(.int (Int32.ofNat fr)), (.ref t)]))
    refine own_up (fun tx kx => XS.iloadN X0.here hx rfl (hb hby d25_12) rfl kx) ?_
    show OwnOk p e below _ (s₁.setTop (mkF m 13 #[.val (.ref t), .val (.int (Int32.ofNat fr)), .val (.int (Int32.ofNat to))] [(.int (Int32.ofNat to)), (.int (Int32.ofNat fr)), (.ref t)]))
    refine own_callS X0 hx hZ (y := (⟨"java/util/Arrays", "copyOfRangeByte", "([BII)[B"⟩ : MethodName)) hown (wd_148 hw) (wd_149 hw) (wd_146 hw) (wd_150 hw) (by decide) (j_copyB l Z a0 hw t kt cap f fr to h0 n0 OL E_t V_t h1 h2 hcap) e0 (argsL := [(.ref t), (.int (Int32.ofNat fr)), (.int (Int32.ofNat to))]) (rest := []) (by rw [hml]; rfl) (lenOf pd_15 rfl) rfl rfl (W := 0) rfl (hb hby d25_13) (by decide) (by decide) (by decide) (by decide) (fun T17 v17 L17 X17 hQ17 => ?_)
    obtain ⟨rr17, kr17, rfl, Nq17, Kq17, gr17, er17, vr17⟩ := hQ17
    have N17 := Fr.app N0 Nq17
    have OL17 := OL.keep Kq17 all0
    have KP17 := KP0.trans Kq17 all0
    show OwnOk p e below _ (T17.setTop (mkF m 16 #[.val (.ref t), .val (.int (Int32.ofNat fr)), .val (.int (Int32.ofNat to))] [(.ref rr17)]))
    refine own_retR X17 hx (t := (.array .byte)) (show meth.sig.returnType = some (.array .byte) from hret) rfl hlk rfl (hb hby d25_16) rfl (Nat.le_of_ble_eq_true rfl) (Nat.le_of_ble_eq_true rfl) ?_
    exact ⟨rr17, kr17, rfl, N17, KP17, gr17, er17, vr17⟩
def Q_j_getV (t : Addr) (h0 : Heap) (n0 : Nat) (v : Option Value) (h : Heap) (L : List Loc) : Prop := v = some (.ref t) ∧ Fr n0 L ∧ h = h0
set_option maxRecDepth 65536 in
set_option maxHeartbeats 40000000 in
theorem j_getV (l : Launch) (Z : State) (a0 : Array Value) (hw : ∀ d ∈ tables_1, d.before a0 Z = true) (b t : Addr) (h0 : Heap) (n0 : Nat) (OL : Old Z n0 h0) (F_value_b : Fld Z h0 b "java/lang/AbstractStringBuilder" "value" "[B" (.ref t)) :
    own_Met l Z (⟨"java/lang/AbstractStringBuilder", "getValue", "()[B"⟩ : MethodName) jdk_68_method_64_code 1 (some (.array .byte)) ({ frames := 0, cells := 0, slots := 0, locals := 0 } : Room) #[(.ref b)] h0 (Q_j_getV t h0 n0) := by
  refine own_body (L0 := #[.val (.ref b)]) (plainFor_of_name (by first | (simp [plainName, overriddenIn]; done) | decide +kernel)) (fun m => by first | (simp [entryFrame, mkF, argsToLocals, Value.category]; done) | rfl) ?_
  intro p e s m below meth c s₁ hx hby hml hZ hown hnm hret hlk X0 e0
  have N0 := Fr.nil n0
  have Z0 : n0 ≤ h0.size := OL.1 ▸ OL.2.1
  show OwnOk p e below _ (s₁.setTop (mkF m 0 #[.val (.ref b)] []))
  refine own_up (fun tx kx => XS.aloadN X0.here hx rfl (hb hby d22_0) rfl rfl kx) ?_
  show OwnOk p e below _ (s₁.setTop (mkF m 1 #[.val (.ref b)] [(.ref b)]))
  obtain ⟨T11, X11, e11, st11⟩ := getF X0 hx hZ hown (host := "") (Or.inl (wd_34 hw)) Via.refl e0 F_value_b (g := (mkF m 1 #[.val (.ref b)] [(.ref b)])) rfl rfl (hb hby d22_1)
  refine own_up st11 ?_
  show OwnOk p e below _ (T11.setTop (mkF m 4 #[.val (.ref b)] [(.ref t)]))
  refine own_retR X11 hx (t := (.array .byte)) (show meth.sig.returnType = some (.array .byte) from hret) rfl hlk rfl (hb hby d22_4) e11 (Nat.le_of_ble_eq_true rfl) (Nat.le_of_ble_eq_true rfl) ?_
  exact ⟨rfl, N0, rfl⟩
def Q_j_asbLen (x : Int32) (h0 : Heap) (n0 : Nat) (v : Option Value) (h : Heap) (L : List Loc) : Prop := v = some (.int x) ∧ Fr n0 L ∧ h = h0
set_option maxRecDepth 65536 in
set_option maxHeartbeats 40000000 in
theorem j_asbLen (l : Launch) (Z : State) (a0 : Array Value) (hw : ∀ d ∈ tables_1, d.before a0 Z = true) (b : Addr) (x : Int32) (h0 : Heap) (n0 : Nat) (OL : Old Z n0 h0) (F_count_b : Fld Z h0 b "java/lang/AbstractStringBuilder" "count" "I" (.int x)) :
    own_Met l Z (⟨"java/lang/AbstractStringBuilder", "length", "()I"⟩ : MethodName) jdk_68_method_6_code 1 (some .int) ({ frames := 0, cells := 0, slots := 0, locals := 0 } : Room) #[(.ref b)] h0 (Q_j_asbLen x h0 n0) := by
  refine own_body (L0 := #[.val (.ref b)]) (plainFor_of_name (by first | (simp [plainName, overriddenIn]; done) | decide +kernel)) (fun m => by first | (simp [entryFrame, mkF, argsToLocals, Value.category]; done) | rfl) ?_
  intro p e s m below meth c s₁ hx hby hml hZ hown hnm hret hlk X0 e0
  have N0 := Fr.nil n0
  have Z0 : n0 ≤ h0.size := OL.1 ▸ OL.2.1
  show OwnOk p e below _ (s₁.setTop (mkF m 0 #[.val (.ref b)] []))
  refine own_up (fun tx kx => XS.aloadN X0.here hx rfl (hb hby d24_0) rfl rfl kx) ?_
  show OwnOk p e below _ (s₁.setTop (mkF m 1 #[.val (.ref b)] [(.ref b)]))
  obtain ⟨T11, X11, e11, st11⟩ := getF X0 hx hZ hown (host := "") (Or.inl (wd_48 hw)) Via.refl e0 F_count_b (g := (mkF m 1 #[.val (.ref b)] [(.ref b)])) rfl rfl (hb hby d24_1)
  refine own_up st11 ?_
  show OwnOk p e below _ (T11.setTop (mkF m 4 #[.val (.ref b)] [(.int x)]))
  refine own_retI X11 hx (show meth.sig.returnType = some .int from hret) hlk (hb hby d24_4) e11 (Nat.le_of_ble_eq_true rfl) (Nat.le_of_ble_eq_true rfl) ?_
  exact ⟨rfl, N0, rfl⟩
def Q_j_sbLen (x : Int32) (h0 : Heap) (n0 : Nat) (v : Option Value) (h : Heap) (L : List Loc) : Prop := v = some (.int x) ∧ Fr n0 L ∧ h = h0
set_option maxRecDepth 65536 in
set_option maxHeartbeats 40000000 in
theorem j_sbLen (l : Launch) (Z : State) (a0 : Array Value) (hw : ∀ d ∈ tables_1, d.before a0 Z = true) (b : Addr) (x : Int32) (h0 : Heap) (n0 : Nat) (OL : Old Z n0 h0) (E_b : Exa Z h0 b "java/lang/StringBuilder") (F_count_b : Fld Z h0 b "java/lang/AbstractStringBuilder" "count" "I" (.int x)) :
    own_Met l Z (⟨"java/lang/StringBuilder", "length", "()I"⟩ : MethodName) jdk_67_method_93_code 1 (some .int) ({ frames := 1, cells := 0, slots := 0, locals := 12 } : Room) #[(.ref b)] h0 (Q_j_sbLen x h0 n0) := by
  refine own_body (L0 := #[.val (.ref b)]) (plainFor_of_name (by first | (simp [plainName, overriddenIn]; done) | decide +kernel)) (fun m => by first | (simp [entryFrame, mkF, argsToLocals, Value.category]; done) | rfl) ?_
  intro p e s m below meth c s₁ hx hby hml hZ hown hnm hret hlk X0 e0
  have N0 := Fr.nil n0
  have Z0 : n0 ≤ h0.size := OL.1 ▸ OL.2.1
  show OwnOk p e below _ (s₁.setTop (mkF m 0 #[.val (.ref b)] []))
  refine own_up (fun tx kx => XS.aloadN X0.here hx rfl (hb hby d23_0) rfl rfl kx) ?_
  show OwnOk p e below _ (s₁.setTop (mkF m 1 #[.val (.ref b)] [(.ref b)]))
  refine own_callUB X0 hx hZ (y := (⟨"java/lang/AbstractStringBuilder", "length", "()I"⟩ : MethodName)) hown (wd_141 hw) (own_sameMethod (own_nf (y1 := (⟨"java/lang/AbstractStringBuilder", "ensureCapacityInternal", "(I)V"⟩ : MethodName)) (notFace_of_selects (wd_57 hw)) rfl (wd_55 hw)) (wd_137 hw) (by decide)) (wd_137 hw) (wd_45 hw) (by decide) (wd_142 hw) (own_bk (j_asbLen l Z a0 hw b x h0 n0 OL F_count_b) hZ (wd_142 hw) (wd_28 hw) (by decide) (by decide)) e0 (argsL := []) (rest := []) E_b (by rw [hml]; rfl) (lenOf pd_11 rfl) rfl rfl (W := 0) rfl (hb hby d23_1) (by decide) (by decide) (fun T11 v11 L11 X11 hQ11 => ?_)
  obtain ⟨rfl, Nq11, hh11⟩ := hQ11
  have N11 := Fr.app N0 Nq11
  show OwnOk p e below _ (T11.setTop (mkF m 4 #[.val (.ref b)] [(.int x)]))
  refine own_retI X11 hx (show meth.sig.returnType = some .int from hret) hlk (hb hby d23_4) hh11 (Nat.le_of_ble_eq_true rfl) (Nat.le_of_ble_eq_true rfl) ?_
  exact ⟨rfl, N11, rfl⟩
def Q_j_strA (Z : State) (a : Addr) (f : Nat → Int32) (cnt : Nat) (h0 : Heap) (n0 : Nat) (v : Option Value) (h : Heap) (L : List Loc) : Prop := v = none ∧ Fr n0 L ∧ Keep h0 h [a] ∧ ∃ (u : Addr) (ku : ClassId), h0.size ≤ u ∧ (Exa Z h a "java/lang/String") ∧ (Fld Z h a "java/lang/String" "value" "[B" (.ref u)) ∧ (Fld Z h a "java/lang/String" "coder" "B" (.int (0 : Int32))) ∧ (Arv Z h u ku .byte (Int32.ofNat cnt) (own_F cnt f) (.int (0 : Int32)))
set_option maxRecDepth 65536 in
set_option maxHeartbeats 40000000 in
theorem j_strA (l : Launch) (Z : State) (a0 : Array Value) (hw : ∀ d ∈ tables_1, d.before a0 Z = true) (b t : Addr) (kt : ClassId) (cap : Nat) (f : Nat → Int32) (cnt : Nat) (a : Addr) (cz : Int32) (h0 : Heap) (n0 : Nat) (OL : Old Z n0 h0) (SC : Sta Z Z.heap "java/lang/String" "COMPACT_STRINGS" "Z" (.int cz)) (hcz : ¬ cz = 0) (E_b : Exa Z h0 b "java/lang/StringBuilder") (F_value_b : Fld Z h0 b "java/lang/AbstractStringBuilder" "value" "[B" (.ref t)) (F_coder_b : Fld Z h0 b "java/lang/AbstractStringBuilder" "coder" "B" (.int (0 : Int32))) (F_count_b : Fld Z h0 b "java/lang/AbstractStringBuilder" "count" "I" (.int (Int32.ofNat cnt))) (E_t : Exa Z h0 t "[B") (V_t : Arv Z h0 t kt .byte (Int32.ofNat cap) (own_F cap f) (.int (0 : Int32))) (n0_b : n0 ≤ b) (n0_t : n0 ≤ t) (ne_b_t : b ≠ t) (E_a : Exa Z h0 a "java/lang/String") (F_value_a : Fld Z h0 a "java/lang/String" "value" "[B" .null) (F_coder_a : Fld Z h0 a "java/lang/String" "coder" "B" (.int (0 : Int32))) (n0_a : n0 ≤ a) (hm : cnt ≤ cap) (hcap : cap ≤ 34) (ne_a_b : a ≠ b) (ne_a_t : a ≠ t) :
    own_Met l Z (⟨"java/lang/String", "<init>", "(Ljava/lang/AbstractStringBuilder;Ljava/lang/Void;)V"⟩ : MethodName) jdk_42_method_150_code 5 none ({ frames := 3, cells := 1, slots := 34, locals := 63 } : Room) #[(.ref a), (.ref b), .null] h0 (Q_j_strA Z a f cnt h0 n0) := by
  refine own_body (L0 := #[.val (.ref a), .val (.ref b), .val .null, .unset, .unset]) (plainFor_of_name (by first | (simp [plainName, overriddenIn]; done) | decide +kernel)) (fun m => by first | (simp [entryFrame, mkF, argsToLocals, Value.category]; done) | rfl) ?_
  intro p e s m below meth c s₁ hx hby hml hZ hown hnm hret hlk X0 e0
  have N0 := Fr.nil n0
  have Z0 : n0 ≤ h0.size := OL.1 ▸ OL.2.1
  show OwnOk p e below _ (s₁.setTop (mkF m 0 #[.val (.ref a), .val (.ref b), .val .null, .unset, .unset] []))
  have KP0 : Keep h0 h0 [a] := Keep.refl h0 _
  refine own_up (fun tx kx => XS.aloadN X0.here hx rfl (hb hby d21_0) rfl rfl kx) ?_
  show OwnOk p e below _ (s₁.setTop (mkF m 1 #[.val (.ref a), .val (.ref b), .val .null, .unset, .unset] [(.ref a)]))
  obtain ⟨T11, X11, e11, st11⟩ := initO X0 hx hZ hown (wd_129 hw) (wd_7 hw) (wd_8 hw) e0 (g := (mkF m 1 #[.val (.ref a), .val (.ref b), .val .null, .unset, .unset] [(.ref a)])) rfl (by rw [hml]; rfl) rfl (hb hby d21_1) (by decide) (W := 0) (by show 2 * 0 + _ ≤ _; exact Nat.le_of_eq rfl) (by decide)
  refine own_up st11 ?_
  show OwnOk p e below _ (T11.setTop (mkF m 4 #[.val (.ref a), .val (.ref b), .val .null, .unset, .unset] []))
  refine own_up (fun tx kx => XS.aloadN X11.here hx rfl (hb hby d21_4) rfl rfl kx) ?_
  show OwnOk p e below _ (T11.setTop (mkF m 5 #[.val (.ref a), .val (.ref b), .val .null, .unset, .unset] [(.ref b)]))
  refine own_callV X11 hx hZ (y := (⟨"java/lang/AbstractStringBuilder", "getValue", "()[B"⟩ : MethodName)) (z := (⟨"java/lang/AbstractStringBuilder", "getValue", "()[B"⟩ : MethodName)) hown (wd_130 hw) (wd_131 hw) (notFace_of_selects (args := #[]) (mvT hZ (wd_133 hw))) (wd_133 hw) (wd_132 hw) (wd_28 hw) (wd_134 hw) (by decide) (j_getV l Z a0 hw b t h0 n0 OL F_value_b) e11 (argsL := []) (rest := []) E_b (by rw [hml]; rfl) (lenOf pd_16 rfl) rfl rfl (W := 0) rfl (hb hby d21_5) (by decide) (by decide) (by decide) (by decide) (fun T12 v12 L12 X12 hQ12 => ?_)
  obtain ⟨rfl, Nq12, hh12⟩ := hQ12
  have N12 := Fr.app N0 Nq12
  show OwnOk p e below _ (T12.setTop (mkF m 8 #[.val (.ref a), .val (.ref b), .val .null, .unset, .unset] [(.ref t)]))
  refine own_up (fun tx kx => XS.astoreN X12.here hx rfl (hb hby d21_8) rfl rfl (l' := #[.val (.ref a), .val (.ref b), .val .null, .val (.ref t), .unset]) rfl kx) ?_
  show OwnOk p e below _ (T12.setTop (mkF m 9 #[.val (.ref a), .val (.ref b), .val .null, .val (.ref t), .unset] []))
  refine own_up (fun tx kx => XS.aloadN X12.here hx rfl (hb hby d21_9) rfl rfl kx) ?_
  show OwnOk p e below _ (T12.setTop (mkF m 10 #[.val (.ref a), .val (.ref b), .val .null, .val (.ref t), .unset] [(.ref b)]))
  refine own_callV X12 hx hZ (y := (⟨"java/lang/AbstractStringBuilder", "length", "()I"⟩ : MethodName)) (z := (⟨"java/lang/StringBuilder", "length", "()I"⟩ : MethodName)) hown (wd_135 hw) (wd_136 hw) (own_nf (a0 := #[]) (y1 := (⟨"java/lang/AbstractStringBuilder", "isLatin1", "()Z"⟩ : MethodName)) (notFace_of_selects (args := #[]) (mvT hZ (wd_62 hw))) rfl (mvT hZ (wd_61 hw))) (wd_138 hw) (wd_139 hw) (wd_20 hw) (wd_140 hw) (by decide) (j_sbLen l Z a0 hw b (Int32.ofNat cnt) h0 n0 OL E_b F_count_b) hh12 (argsL := []) (rest := []) E_b (by rw [hml]; rfl) (lenOf pd_11 rfl) rfl rfl (W := 0) rfl (hb hby d21_10) (by decide) (by decide) (by decide) (by decide) (fun T13 v13 L13 X13 hQ13 => ?_)
  obtain ⟨rfl, Nq13, hh13⟩ := hQ13
  have N13 := Fr.app N12 Nq13
  show OwnOk p e below _ (T13.setTop (mkF m 13 #[.val (.ref a), .val (.ref b), .val .null, .val (.ref t), .unset] [(.int (Int32.ofNat cnt))]))
  refine own_up (fun tx kx => XS.istore X13.here hx rfl (hb hby d21_13) rfl (l' := #[.val (.ref a), .val (.ref b), .val .null, .val (.ref t), .val (.int (Int32.ofNat cnt))]) rfl kx) ?_
  show OwnOk p e below _ (T13.setTop (mkF m 15 #[.val (.ref a), .val (.ref b), .val .null, .val (.ref t), .val (.int (Int32.ofNat cnt))] []))
  refine own_up (fun tx kx => XS.aloadN X13.here hx rfl (hb hby d21_15) rfl rfl kx) ?_
  show OwnOk p e below _ (T13.setTop (mkF m 16 #[.val (.ref a), .val (.ref b), .val .null, .val (.ref t), .val (.int (Int32.ofNat cnt))] [(.ref b)]))
  refine own_callV X13 hx hZ (y := (⟨"java/lang/AbstractStringBuilder", "isLatin1", "()Z"⟩ : MethodName)) (z := (⟨"java/lang/AbstractStringBuilder", "isLatin1", "()Z"⟩ : MethodName)) hown (wd_143 hw) (wd_60 hw) (notFace_of_selects (args := #[]) (mvT hZ (wd_62 hw))) (wd_62 hw) (wd_61 hw) (wd_28 hw) (wd_63 hw) (by decide) (j_lat1 l Z a0 hw b cz h0 n0 OL SC hcz F_coder_b) hh13 (argsL := []) (rest := []) E_b (by rw [hml]; rfl) (lenOf pd_5 rfl) rfl rfl (W := 0) rfl (hb hby d21_16) (by decide) (by decide) (by decide) (by decide) (fun T14 v14 L14 X14 hQ14 => ?_)
  obtain ⟨rfl, Nq14, hh14⟩ := hQ14
  have N14 := Fr.app N13 Nq14
  show OwnOk p e below _ (T14.setTop (mkF m 19 #[.val (.ref a), .val (.ref b), .val .null, .val (.ref t), .val (.int (Int32.ofNat cnt))] [(.int (1 : Int32))]))
  refine own_up (fun tx kx => XS.ifNo X14.here hx rfl (hb hby d21_19) rfl ((if0 _ _).trans (feq (by decide)).1) kx) ?_
  show OwnOk p e below _ (T14.setTop (mkF m 22 #[.val (.ref a), .val (.ref b), .val .null, .val (.ref t), .val (.int (Int32.ofNat cnt))] []))
  refine own_up (fun tx kx => XS.aloadN X14.here hx rfl (hb hby d21_22) rfl rfl kx) ?_
  show OwnOk p e below _ (T14.setTop (mkF m 23 #[.val (.ref a), .val (.ref b), .val .null, .val (.ref t), .val (.int (Int32.ofNat cnt))] [(.ref a)]))
  refine own_up (fun tx kx => XS.iconst X14.here hx rfl (hb hby d21_23) kx) ?_
  show OwnOk p e below _ (T14.setTop (mkF m 24 #[.val (.ref a), .val (.ref b), .val .null, .val (.ref t), .val (.int (Int32.ofNat cnt))] [(.int (0 : Int32)), (.ref a)]))
  obtain ⟨T15, h15, X15, e15, W15, st15⟩ := putFN X14 hx hZ hown (wd_95 hw) Via.refl hh14 F_coder_a E_a (Or.inr ⟨(wd_71 hw), rfl, hnm⟩) (wd_69 hw) (ty := .byte) (v := (.int (0 : Int32))) (v' := (.int (0 : Int32))) (by decide) (by decide) (by decide) (g := (mkF m 24 #[.val (.ref a), .val (.ref b), .val .null, .val (.ref t), .val (.int (Int32.ofNat cnt))] [(.int (0 : Int32)), (.ref a)])) rfl rfl (hb hby d21_24)
  have Fw15 := Fld.same W15 F_coder_a
  have N15 := Fr.snoc X15 N14 n0_a
  have OL16 := OL.wr W15 n0_a
  have KP16 := KP0.wr W15 (Or.inl (List.mem_of_getElem? (i := 0) rfl))
  refine own_up st15 ?_
  show OwnOk p e below _ (T15.setTop (mkF m 27 #[.val (.ref a), .val (.ref b), .val .null, .val (.ref t), .val (.int (Int32.ofNat cnt))] []))
  refine own_up (fun tx kx => XS.aloadN X15.here hx rfl (hb hby d21_27) rfl rfl kx) ?_
  show OwnOk p e below _ (T15.setTop (mkF m 28 #[.val (.ref a), .val (.ref b), .val .null, .val (.ref t), .val (.int (Int32.ofNat cnt))] [(.ref a)]))
  refine own_up (fun tx kx => XS.aloadN X15.here hx rfl (hb hby d21_28) rfl rfl kx) ?_
  show OwnOk p e below _ (T15.setTop (mkF m 29 #[.val (.ref a), .val (.ref b), .val .null, .val (.ref t), .val (.int (Int32.ofNat cnt))] [(.ref t), (.ref a)]))
  refine own_up (fun tx kx => XS.iconst X15.here hx rfl (hb hby d21_29) kx) ?_
  show OwnOk p e below _ (T15.setTop (mkF m 30 #[.val (.ref a), .val (.ref b), .val .null, .val (.ref t), .val (.int (Int32.ofNat cnt))] [(.int (0 : Int32)), (.ref t), (.ref a)]))
  refine own_up (fun tx kx => XS.iload X15.here hx rfl (hb hby d21_30) rfl kx) ?_
  show OwnOk p e below _ (T15.setTop (mkF m 32 #[.val (.ref a), .val (.ref b), .val .null, .val (.ref t), .val (.int (Int32.ofNat cnt))] [(.int (Int32.ofNat cnt)), (.int (0 : Int32)), (.ref t), (.ref a)]))
  show OwnOk p e below _ (T15.setTop (mkF m 32 #[.val (.ref a), .val (.ref b), .val .null, .val (.ref t), .val (.int (Int32.ofNat cnt))] [(.int (Int32.ofNat cnt)), (.int (Int32.ofNat 0)), (.ref t), (.ref a)]))
  have E_t_17 := (E_t.wr W15)
  have V_t_18 := (V_t.other W15 (Ne.symm ne_a_t))
  refine own_callS X15 hx hZ (y := (⟨"java/util/Arrays", "copyOfRange", "([BII)[B"⟩ : MethodName)) hown (wd_144 hw) (wd_145 hw) (wd_146 hw) (wd_147 hw) (by decide) (j_copyR l Z a0 hw t kt cap f 0 cnt h15 n0 OL16 E_t_17 V_t_18 (by omega) hm hcap) e15 (argsL := [(.ref t), (.int (Int32.ofNat 0)), (.int (Int32.ofNat cnt))]) (rest := [(.ref a)]) (by rw [hml]; rfl) (lenOf pd_15 rfl) rfl rfl (W := 1) rfl (hb hby d21_32) (by decide) (by decide) (by decide) (by decide) (fun T19 v19 L19 X19 hQ19 => ?_)
  obtain ⟨rr19, kr19, rfl, Nq19, Kq19, gr19, er19, vr19⟩ := hQ19
  have N19 := Fr.app N15 Nq19
  have E_b_20 := (E_b.wr W15)
  have lt_b_rr19 : b < rr19 := Nat.lt_of_lt_of_le E_b_20.lt gr19
  have lt_t_rr19 : t < rr19 := Nat.lt_of_lt_of_le E_t_17.lt gr19
  have E_a_21 := (E_a.wr W15)
  have lt_a_rr19 : a < rr19 := Nat.lt_of_lt_of_le E_a_21.lt gr19
  have n0_rr19 : n0 ≤ rr19 := Nat.le_trans (own_n0 OL16) gr19
  have ws_rr19 : h0.size ≤ rr19 := Nat.le_trans KP16.1 gr19
  have OL19 := OL16.keep Kq19 all0
  have KP19 := KP16.trans Kq19 all0
  show OwnOk p e below _ (T19.setTop (mkF m 35 #[.val (.ref a), .val (.ref b), .val .null, .val (.ref t), .val (.int (Int32.ofNat cnt))] [(.ref rr19), (.ref a)]))
  have F_value_a_22 := ((F_value_a.other W15 (Or.inr (slot_ne (Or.inr (wd_70 hw)) (Or.inr (wd_71 hw)) (by decide) (t := (.array .byte)) (t' := .byte) (by decide) (by decide)))).keep Kq19 nin0)
  have E_a_23 := (E_a_21.keep Kq19)
  obtain ⟨T24, h24, X24, e24, W24, st24⟩ := putF X19 hx hZ hown (host := "") (Or.inl (wd_88 hw)) Via.refl rfl F_value_a_22 E_a_23 (Or.inr ⟨(wd_70 hw), rfl, hnm⟩) (wd_69 hw) (ty := (.array .byte)) (by decide) rfl rfl (g := (mkF m 35 #[.val (.ref a), .val (.ref b), .val .null, .val (.ref t), .val (.int (Int32.ofNat cnt))] [(.ref rr19), (.ref a)])) rfl rfl (hb hby d21_35)
  have Fw24 := Fld.same W24 F_value_a_22
  have N24 := Fr.snoc X24 N19 n0_a
  have OL25 := OL19.wr W24 n0_a
  have KP25 := KP19.wr W24 (Or.inl (List.mem_of_getElem? (i := 0) rfl))
  refine own_up st24 ?_
  show OwnOk p e below _ (T24.setTop (mkF m 38 #[.val (.ref a), .val (.ref b), .val .null, .val (.ref t), .val (.int (Int32.ofNat cnt))] []))
  refine own_up (fun tx kx => XS.goto X24.here hx rfl (pc0 := 38) (pc' := 97) rfl (hb hby d21_38) (by decide) (by decide) kx) ?_
  show OwnOk p e below _ (T24.setTop (mkF m 97 #[.val (.ref a), .val (.ref b), .val .null, .val (.ref t), .val (.int (Int32.ofNat cnt))] []))
  have V_rr19_26 := (vr19.other W24 (Nat.ne_of_gt lt_a_rr19))
  have Vf : Arv Z h24 rr19 kr19 .byte (Int32.ofNat cnt) (own_F cnt f) (.int (0 : Int32)) := (own_F_congr (n := cnt) (f := fun j => f (0 + j)) (g := f) (fun j hj => by rw [Nat.zero_add])) ▸ (show Arv Z h24 rr19 kr19 .byte (Int32.ofNat cnt) (own_F cnt fun j => f (0 + j)) (.int (0 : Int32)) from V_rr19_26)
  have E_a_27 := (E_a_23.wr W24)
  have F_coder_a_28 := ((Fw15.keep Kq19 nin0).other W24 (Or.inr (slot_ne (Or.inr (wd_71 hw)) (Or.inr (wd_70 hw)) (by decide) (t := .byte) (t' := (.array .byte)) (by decide) (by decide))))
  refine own_retV X24 hx (show meth.sig.returnType = none from hret) hlk (hb hby d21_97) e24 (Nat.le_of_ble_eq_true rfl) (Nat.le_of_ble_eq_true rfl) ?_
  exact ⟨rfl, N24, KP25, rr19, kr19, ws_rr19, E_a_27, Fw24, F_coder_a_28, Vf⟩
def Q_j_strB (Z : State) (a : Addr) (f : Nat → Int32) (cnt : Nat) (h0 : Heap) (n0 : Nat) (v : Option Value) (h : Heap) (L : List Loc) : Prop := v = none ∧ Fr n0 L ∧ Keep h0 h [a] ∧ ∃ (u : Addr) (ku : ClassId), h0.size ≤ u ∧ (Exa Z h a "java/lang/String") ∧ (Fld Z h a "java/lang/String" "value" "[B" (.ref u)) ∧ (Fld Z h a "java/lang/String" "coder" "B" (.int (0 : Int32))) ∧ (Arv Z h u ku .byte (Int32.ofNat cnt) (own_F cnt f) (.int (0 : Int32)))
set_option maxRecDepth 65536 in
set_option maxHeartbeats 40000000 in
theorem j_strB (l : Launch) (Z : State) (a0 : Array Value) (hw : ∀ d ∈ tables_1, d.before a0 Z = true) (b t : Addr) (kt : ClassId) (cap : Nat) (f : Nat → Int32) (cnt : Nat) (a : Addr) (cz : Int32) (h0 : Heap) (n0 : Nat) (OL : Old Z n0 h0) (SC : Sta Z Z.heap "java/lang/String" "COMPACT_STRINGS" "Z" (.int cz)) (hcz : ¬ cz = 0) (E_b : Exa Z h0 b "java/lang/StringBuilder") (F_value_b : Fld Z h0 b "java/lang/AbstractStringBuilder" "value" "[B" (.ref t)) (F_coder_b : Fld Z h0 b "java/lang/AbstractStringBuilder" "coder" "B" (.int (0 : Int32))) (F_count_b : Fld Z h0 b "java/lang/AbstractStringBuilder" "count" "I" (.int (Int32.ofNat cnt))) (E_t : Exa Z h0 t "[B") (V_t : Arv Z h0 t kt .byte (Int32.ofNat cap) (own_F cap f) (.int (0 : Int32))) (n0_b : n0 ≤ b) (n0_t : n0 ≤ t) (ne_b_t : b ≠ t) (E_a : Exa Z h0 a "java/lang/String") (F_value_a : Fld Z h0 a "java/lang/String" "value" "[B" .null) (F_coder_a : Fld Z h0 a "java/lang/String" "coder" "B" (.int (0 : Int32))) (n0_a : n0 ≤ a) (hm : cnt ≤ cap) (hcap : cap ≤ 34) (ne_a_b : a ≠ b) (ne_a_t : a ≠ t) :
    own_Met l Z (⟨"java/lang/String", "<init>", "(Ljava/lang/StringBuilder;)V"⟩ : MethodName) jdk_42_method_53_code 2 none ({ frames := 4, cells := 1, slots := 34, locals := 79 } : Room) #[(.ref a), (.ref b)] h0 (Q_j_strB Z a f cnt h0 n0) := by
  refine own_body (L0 := #[.val (.ref a), .val (.ref b)]) (plainFor_of_name (by first | (simp [plainName, overriddenIn]; done) | decide +kernel)) (fun m => by first | (simp [entryFrame, mkF, argsToLocals, Value.category]; done) | rfl) ?_
  intro p e s m below meth c s₁ hx hby hml hZ hown hnm hret hlk X0 e0
  have N0 := Fr.nil n0
  have Z0 : n0 ≤ h0.size := OL.1 ▸ OL.2.1
  show OwnOk p e below _ (s₁.setTop (mkF m 0 #[.val (.ref a), .val (.ref b)] []))
  have KP0 : Keep h0 h0 [a] := Keep.refl h0 _
  refine own_up (fun tx kx => XS.aloadN X0.here hx rfl (hb hby d20_0) rfl rfl kx) ?_
  show OwnOk p e below _ (s₁.setTop (mkF m 1 #[.val (.ref a), .val (.ref b)] [(.ref a)]))
  refine own_up (fun tx kx => XS.aloadN X0.here hx rfl (hb hby d20_1) rfl rfl kx) ?_
  show OwnOk p e below _ (s₁.setTop (mkF m 2 #[.val (.ref a), .val (.ref b)] [(.ref b), (.ref a)]))
  refine own_up (fun tx kx => XS.aconstNull X0.here hx rfl (hb hby d20_2) kx) ?_
  show OwnOk p e below _ (s₁.setTop (mkF m 3 #[.val (.ref a), .val (.ref b)] [.null, (.ref b), (.ref a)]))
  refine own_callC X0 hx hZ (y := (⟨"java/lang/String", "<init>", "(Ljava/lang/AbstractStringBuilder;Ljava/lang/Void;)V"⟩ : MethodName)) rfl hown (wd_126 hw) (wd_127 hw) (wd_32 hw) (wd_128 hw) (by decide) (j_strA l Z a0 hw b t kt cap f cnt a cz h0 n0 OL SC hcz E_b F_value_b F_coder_b F_count_b E_t V_t n0_b n0_t ne_b_t E_a F_value_a F_coder_a n0_a hm hcap ne_a_b ne_a_t) e0 (argsL := [(.ref b), .null]) (rest := []) (a := a) (by rw [hml]; rfl) (lenOf pd_17 rfl) rfl rfl (W := 0) rfl (hb hby d20_3) (by decide) (by decide) (by decide) (by decide) (fun T11 v11 L11 X11 hQ11 => ?_)
  obtain ⟨rfl, Nq11, Kq11, uu11, ku11, gu11, ea11, fv11, fc11, vu11⟩ := hQ11
  have N11 := Fr.app N0 Nq11
  have OL11 := OL.keep Kq11 (allS n0_a all0)
  have KP11 := KP0.trans Kq11 (allS (Or.inl (List.mem_of_getElem? (i := 0) rfl)) all0)
  show OwnOk p e below _ (T11.setTop (mkF m 6 #[.val (.ref a), .val (.ref b)] []))
  refine own_retV X11 hx (show meth.sig.returnType = none from hret) hlk (hb hby d20_6) rfl (Nat.le_of_ble_eq_true rfl) (Nat.le_of_ble_eq_true rfl) ?_
  exact ⟨rfl, N11, KP11, uu11, ku11, gu11, ea11, fv11, fc11, vu11⟩
def Q_j_toS (Z : State) (f : Nat → Int32) (cnt : Nat) (h0 : Heap) (n0 : Nat) (v : Option Value) (h : Heap) (L : List Loc) : Prop := ∃ (a u : Addr) (ku : ClassId), v = some (.ref a) ∧ Fr n0 L ∧ Keep h0 h [] ∧ h0.size ≤ a ∧ h0.size ≤ u ∧ (Exa Z h a "java/lang/String") ∧ (Fld Z h a "java/lang/String" "value" "[B" (.ref u)) ∧ (Fld Z h a "java/lang/String" "coder" "B" (.int (0 : Int32))) ∧ (Arv Z h u ku .byte (Int32.ofNat cnt) (own_F cnt f) (.int (0 : Int32)))
set_option maxRecDepth 65536 in
set_option maxHeartbeats 40000000 in
theorem j_toS (l : Launch) (Z : State) (a0 : Array Value) (hw : ∀ d ∈ tables_1, d.before a0 Z = true) (b t : Addr) (kt : ClassId) (cap : Nat) (f : Nat → Int32) (cnt : Nat) (cz : Int32) (h0 : Heap) (n0 : Nat) (OL : Old Z n0 h0) (SC : Sta Z Z.heap "java/lang/String" "COMPACT_STRINGS" "Z" (.int cz)) (hcz : ¬ cz = 0) (E_b : Exa Z h0 b "java/lang/StringBuilder") (F_value_b : Fld Z h0 b "java/lang/AbstractStringBuilder" "value" "[B" (.ref t)) (F_coder_b : Fld Z h0 b "java/lang/AbstractStringBuilder" "coder" "B" (.int (0 : Int32))) (F_count_b : Fld Z h0 b "java/lang/AbstractStringBuilder" "count" "I" (.int (Int32.ofNat cnt))) (E_t : Exa Z h0 t "[B") (V_t : Arv Z h0 t kt .byte (Int32.ofNat cap) (own_F cap f) (.int (0 : Int32))) (n0_b : n0 ≤ b) (n0_t : n0 ≤ t) (ne_b_t : b ≠ t) (hm : cnt ≤ cap) (hcap : cap ≤ 34) :
    own_Met l Z (⟨"java/lang/StringBuilder", "toString", "()Ljava/lang/String;"⟩ : MethodName) jdk_67_method_42_code 1 (some (.object "java/lang/String")) ({ frames := 5, cells := 2, slots := 38, locals := 93 } : Room) #[(.ref b)] h0 (Q_j_toS Z f cnt h0 n0) := by
  refine own_body (L0 := #[.val (.ref b)]) (plainFor_of_name (by first | (simp [plainName, overriddenIn]; done) | decide +kernel)) (fun m => by first | (simp [entryFrame, mkF, argsToLocals, Value.category]; done) | rfl) ?_
  intro p e s m below meth c s₁ hx hby hml hZ hown hnm hret hlk X0 e0
  have N0 := Fr.nil n0
  have Z0 : n0 ≤ h0.size := OL.1 ▸ OL.2.1
  show OwnOk p e below _ (s₁.setTop (mkF m 0 #[.val (.ref b)] []))
  have KP0 : Keep h0 h0 [] := Keep.refl h0 _
  obtain ⟨T11, h11, X11, e11, E11, A11, D11, -, st11⟩ := newO X0 hx hZ hown (wd_121 hw) (wd_69 hw) (wd_32 hw) e0 (g := (mkF m 0 #[.val (.ref b)] [])) rfl (hb hby d19_0) (by decide) (by decide)
  obtain ⟨b11, g11⟩ : ∃ z, z = h0.size := ⟨_, rfl⟩
  rw [← g11] at A11 D11 st11
  have sz_b11 : h0.size ≤ b11 := Nat.le_of_eq g11.symm
  have lt_b_b11 : b < b11 := Nat.lt_of_lt_of_le E_b.lt sz_b11
  have lt_t_b11 : t < b11 := Nat.lt_of_lt_of_le E_t.lt sz_b11
  have n0_b11 : n0 ≤ b11 := Nat.le_trans (own_n0 OL) sz_b11
  have ws_b11 : h0.size ≤ b11 := Nat.le_trans KP0.1 sz_b11
  have F_value_b11 : Fld Z h11 b11 "java/lang/String" "value" "[B" .null := D11 (Or.inr (wd_70 hw)) (ty := (.array .byte)) (by decide)
  have F_coder_b11 : Fld Z h11 b11 "java/lang/String" "coder" "B" (.int (0 : Int32)) := D11 (Or.inr (wd_71 hw)) (ty := .byte) (by decide)
  have OL13 := OL.ext E11
  have KP13 := KP0.ext E11
  refine own_up st11 ?_
  show OwnOk p e below _ (T11.setTop (mkF m 3 #[.val (.ref b)] [(.ref b11)]))
  refine own_up (fun tx kx => XS.dup X11.here hx rfl (hb hby d19_3) rfl rfl kx) ?_
  show OwnOk p e below _ (T11.setTop (mkF m 4 #[.val (.ref b)] [(.ref b11), (.ref b11)]))
  refine own_up (fun tx kx => XS.aloadN X11.here hx rfl (hb hby d19_4) rfl rfl kx) ?_
  show OwnOk p e below _ (T11.setTop (mkF m 5 #[.val (.ref b)] [(.ref b), (.ref b11), (.ref b11)]))
  have E_b_14 := (E_b.ext E11)
  have F_value_b_15 := (F_value_b.ext E11)
  have F_coder_b_16 := (F_coder_b.ext E11)
  have F_count_b_17 := (F_count_b.ext E11)
  have E_t_18 := (E_t.ext E11)
  have V_t_19 := (V_t.ext E11)
  refine own_callC X11 hx hZ (y := (⟨"java/lang/String", "<init>", "(Ljava/lang/StringBuilder;)V"⟩ : MethodName)) rfl hown (wd_122 hw) (wd_123 hw) (wd_32 hw) (wd_125 hw) (by decide) (j_strB l Z a0 hw b t kt cap f cnt b11 cz h11 n0 OL13 SC hcz E_b_14 F_value_b_15 F_coder_b_16 F_count_b_17 E_t_18 V_t_19 n0_b n0_t ne_b_t A11 F_value_b11 F_coder_b11 n0_b11 hm hcap (Nat.ne_of_gt lt_b_b11) (Nat.ne_of_gt lt_t_b11)) e11 (argsL := [(.ref b)]) (rest := [(.ref b11)]) (a := b11) (by rw [hml]; rfl) (lenOf pd_18 rfl) rfl rfl (W := 1) rfl (hb hby d19_5) (by decide) (by decide) (by decide) (by decide) (fun T20 v20 L20 X20 hQ20 => ?_)
  obtain ⟨rfl, Nq20, Kq20, uu20, ku20, gu20, ea20, fv20, fc20, vu20⟩ := hQ20
  have N20 := Fr.app N0 Nq20
  have lt_b_uu20 : b < uu20 := Nat.lt_of_lt_of_le E_b_14.lt gu20
  have lt_t_uu20 : t < uu20 := Nat.lt_of_lt_of_le E_t_18.lt gu20
  have lt_b11_uu20 : b11 < uu20 := Nat.lt_of_lt_of_le A11.lt gu20
  have n0_uu20 : n0 ≤ uu20 := Nat.le_trans (own_n0 OL13) gu20
  have ws_uu20 : h0.size ≤ uu20 := Nat.le_trans KP13.1 gu20
  have OL20 := OL13.keep Kq20 (allS n0_b11 all0)
  have KP20 := KP13.trans Kq20 (allS (Or.inr ws_b11) all0)
  show OwnOk p e below _ (T20.setTop (mkF m 8 #[.val (.ref b)] [(.ref b11)]))
  refine own_retR X20 hx (t := (.object "java/lang/String")) (show meth.sig.returnType = some (.object "java/lang/String") from hret) rfl hlk rfl (hb hby d19_8) rfl (Nat.le_of_ble_eq_true rfl) (Nat.le_of_ble_eq_true rfl) ?_
  exact ⟨b11, uu20, ku20, rfl, N20, KP20, ws_b11, ws_uu20, ea20, fv20, fc20, vu20⟩
def Q_l_abs (z : Int64) (h0 : Heap) (n0 : Nat) (v : Option Value) (h : Heap) (L : List Loc) : Prop := v = some (.long (if z < 0 then -z else z)) ∧ Fr n0 L ∧ h = h0
set_option maxRecDepth 65536 in
set_option maxHeartbeats 40000000 in
theorem l_abs (l : Launch) (Z : State) (a0 : Array Value) (hw : ∀ d ∈ tables_1, d.before a0 Z = true) (z : Int64) (h0 : Heap) (n0 : Nat) (OL : Old Z n0 h0)  :
    own_Met l Z (⟨"java/lang/Math", "abs", "(J)J"⟩ : MethodName) jdk_29_method_61_code 2 (some .long) ({ frames := 0, cells := 0, slots := 0, locals := 0 } : Room) #[(.long z)] h0 (Q_l_abs z h0 n0) := by
  refine own_body (L0 := #[.val (.long z), .second]) (by decide +kernel) (fun m => by first | (simp [entryFrame, mkF, argsToLocals, Value.category]; done) | rfl) ?_
  intro p e s m below meth c s₁ hx hby hml hZ hown hnm hret hlk X0 e0
  have N0 := Fr.nil n0
  have Z0 : n0 ≤ h0.size := OL.1 ▸ OL.2.1
  show OwnOk p e below _ (s₁.setTop (mkF m 0 #[.val (.long z), .second] []))
  refine own_up (fun tx kx => XS.lloadN X0.here hx rfl (hb hby d30_0) rfl kx) ?_
  show OwnOk p e below _ (s₁.setTop (mkF m 1 #[.val (.long z), .second] [(.long z)]))
  refine own_up (fun tx kx => XS.lconst X0.here hx rfl (hb hby d30_1) kx) ?_
  show OwnOk p e below _ (s₁.setTop (mkF m 2 #[.val (.long z), .second] [(.long (0 : Int64)), (.long z)]))
  refine own_up (fun tx kx => XS.lcmp X0.here hx rfl (hb hby d30_2) rfl kx) ?_
  show OwnOk p e below _ (s₁.setTop (mkF m 3 #[.val (.long z), .second] [(.int (lcmpW z (0 : Int64)))]))
  by_cases hk : z < (0 : Int64)
  · refine own_up (fun tx kx => XS.ifNo X0.here hx rfl (hb hby d30_3) rfl (own_jtlt hk).2.1 kx) ?_
    show OwnOk p e below _ (s₁.setTop (mkF m 6 #[.val (.long z), .second] []))
    refine own_up (fun tx kx => XS.lloadN X0.here hx rfl (hb hby d30_6) rfl kx) ?_
    show OwnOk p e below _ (s₁.setTop (mkF m 7 #[.val (.long z), .second] [(.long z)]))
    refine own_up (fun tx kx => XS.lneg X0.here hx rfl (hb hby d30_7) rfl kx) ?_
    show OwnOk p e below _ (s₁.setTop (mkF m 8 #[.val (.long z), .second] [(.long (-z))]))
    refine own_up (fun tx kx => XS.goto X0.here hx rfl (pc0 := 8) (pc' := 12) rfl (hb hby d30_8) (by decide) (by decide) kx) ?_
    show OwnOk p e below _ (s₁.setTop (mkF m 12 #[.val (.long z), .second] [(.long (-z))]))
    refine own_retJ X0 hx (show meth.sig.returnType = some .long from hret) hlk (hb hby d30_12) e0 (Nat.le_of_ble_eq_true rfl) (Nat.le_of_ble_eq_true rfl) ?_
    exact ⟨by rw [if_pos hk], N0, rfl⟩
  · refine own_up (fun tx kx => XS.ifYes X0.here hx rfl (pc0 := 3) (pc' := 11) rfl (hb hby d30_3) rfl (own_jflt hk).2.1 (by decide) (by decide) kx) ?_
    show OwnOk p e below _ (s₁.setTop (mkF m 11 #[.val (.long z), .second] []))
    refine own_up (fun tx kx => XS.lloadN X0.here hx rfl (hb hby d30_11) rfl kx) ?_
    show OwnOk p e below _ (s₁.setTop (mkF m 12 #[.val (.long z), .second] [(.long z)]))
    refine own_retJ X0 hx (show meth.sig.returnType = some .long from hret) hlk (hb hby d30_12) e0 (Nat.le_of_ble_eq_true rfl) (Nat.le_of_ble_eq_true rfl) ?_
    exact ⟨by rw [if_neg hk], N0, rfl⟩
def Q_l_digits (n : Nat) (h0 : Heap) (n0 : Nat) (v : Option Value) (h : Heap) (L : List Loc) : Prop := v = some (.int (Int32.ofNat (Jvm.Free.SBG.digits n))) ∧ Fr n0 L ∧ h = h0
set_option maxRecDepth 65536 in
set_option maxHeartbeats 40000000 in
theorem l_digits (l : Launch) (Z : State) (a0 : Array Value) (hw : ∀ d ∈ tables_1, d.before a0 Z = true) (n : Nat) (h0 : Heap) (n0 : Nat) (OL : Old Z n0 h0) (hn : n ≤ 2 ^ 31) :
    own_Met l Z (⟨"com/example/winnower/winnower/narrowing/PairToStringPinLaw", "digits", "(J)I"⟩ : MethodName) method_6_code 2 (some .int) ({ frames := 0, cells := 0, slots := 0, locals := 0 } : Room) #[(.long (Int64.ofNat n))] h0 (Q_l_digits n h0 n0) := by
  refine own_body (L0 := #[.val (.long (Int64.ofNat n)), .second]) (plainFor_of_name (by first | (simp [plainName, overriddenIn]; done) | decide +kernel)) (fun m => by first | (simp [entryFrame, mkF, argsToLocals, Value.category]; done) | rfl) ?_
  intro p e s m below meth c s₁ hx hby hml hZ hown hnm hret hlk X0 e0
  have N0 := Fr.nil n0
  have Z0 : n0 ≤ h0.size := OL.1 ▸ OL.2.1
  show OwnOk p e below _ (s₁.setTop (mkF m 0 #[.val (.long (Int64.ofNat n)), .second] []))
  have lim : ∀ k, k < 9223372036854775808 → (Int64.ofNat n < Int64.ofNat k ↔ n < k) := fun k hk => own_lt64 (by omega) hk
  show OwnOk p e below _ (s₁.setTop (mkF m 0 #[.val (.long (Int64.ofNat n)), .second] []))
  refine own_up (fun tx kx => XS.lloadN X0.here hx rfl (hb hby d31_0) rfl kx) ?_
  show OwnOk p e below _ (s₁.setTop (mkF m 1 #[.val (.long (Int64.ofNat n)), .second] [(.long (Int64.ofNat n))]))
  refine own_up (fun tx kx => X0.ldc2Long hx hown (mvT hZ (wd_169 hw)) (g := (mkF m 1 #[.val (.long (Int64.ofNat n)), .second] [(.long (Int64.ofNat n))])) rfl (hb hby d31_1) _ kx) ?_
  show OwnOk p e below _ (s₁.setTop (mkF m 4 #[.val (.long (Int64.ofNat n)), .second] [(.long (10 : Int64)), (.long (Int64.ofNat n))]))
  refine own_up (fun tx kx => XS.lcmp X0.here hx rfl (hb hby d31_4) rfl kx) ?_
  show OwnOk p e below _ (s₁.setTop (mkF m 5 #[.val (.long (Int64.ofNat n)), .second] [(.int (lcmpW (Int64.ofNat n) (10 : Int64)))]))
  by_cases h1 : (Int64.ofNat n) < (10 : Int64)
  · refine own_up (fun tx kx => XS.ifNo X0.here hx rfl (hb hby d31_5) rfl (own_jtlt h1).2.1 kx) ?_
    show OwnOk p e below _ (s₁.setTop (mkF m 8 #[.val (.long (Int64.ofNat n)), .second] []))
    refine own_up (fun tx kx => XS.iconst X0.here hx rfl (hb hby d31_8) kx) ?_
    show OwnOk p e below _ (s₁.setTop (mkF m 9 #[.val (.long (Int64.ofNat n)), .second] [(.int (1 : Int32))]))
    refine own_retI X0 hx (show meth.sig.returnType = some .int from hret) hlk (hb hby d31_9) e0 (Nat.le_of_ble_eq_true rfl) (Nat.le_of_ble_eq_true rfl) ?_
    exact ⟨by unfold Jvm.Free.SBG.digits; rw [if_pos ((lim 10 (by decide)).mp h1)]; rfl, N0, rfl⟩
  · refine own_up (fun tx kx => XS.ifYes X0.here hx rfl (pc0 := 5) (pc' := 10) rfl (hb hby d31_5) rfl (own_jflt h1).2.1 (by decide) (by decide) kx) ?_
    show OwnOk p e below _ (s₁.setTop (mkF m 10 #[.val (.long (Int64.ofNat n)), .second] []))
    refine own_up (fun tx kx => XS.lloadN X0.here hx rfl (hb hby d31_10) rfl kx) ?_
    show OwnOk p e below _ (s₁.setTop (mkF m 11 #[.val (.long (Int64.ofNat n)), .second] [(.long (Int64.ofNat n))]))
    refine own_up (fun tx kx => X0.ldc2Long hx hown (mvT hZ (wd_199 hw)) (g := (mkF m 11 #[.val (.long (Int64.ofNat n)), .second] [(.long (Int64.ofNat n))])) rfl (hb hby d31_11) _ kx) ?_
    show OwnOk p e below _ (s₁.setTop (mkF m 14 #[.val (.long (Int64.ofNat n)), .second] [(.long (100 : Int64)), (.long (Int64.ofNat n))]))
    refine own_up (fun tx kx => XS.lcmp X0.here hx rfl (hb hby d31_14) rfl kx) ?_
    show OwnOk p e below _ (s₁.setTop (mkF m 15 #[.val (.long (Int64.ofNat n)), .second] [(.int (lcmpW (Int64.ofNat n) (100 : Int64)))]))
    by_cases h2 : (Int64.ofNat n) < (100 : Int64)
    · refine own_up (fun tx kx => XS.ifNo X0.here hx rfl (hb hby d31_15) rfl (own_jtlt h2).2.1 kx) ?_
      show OwnOk p e below _ (s₁.setTop (mkF m 18 #[.val (.long (Int64.ofNat n)), .second] []))
      refine own_up (fun tx kx => XS.iconst X0.here hx rfl (hb hby d31_18) kx) ?_
      show OwnOk p e below _ (s₁.setTop (mkF m 19 #[.val (.long (Int64.ofNat n)), .second] [(.int (2 : Int32))]))
      refine own_retI X0 hx (show meth.sig.returnType = some .int from hret) hlk (hb hby d31_19) e0 (Nat.le_of_ble_eq_true rfl) (Nat.le_of_ble_eq_true rfl) ?_
      exact ⟨by unfold Jvm.Free.SBG.digits; rw [if_neg (fun q => h1 ((lim 10 (by decide)).mpr q)), if_pos ((lim 100 (by decide)).mp h2)]; rfl, N0, rfl⟩
    · refine own_up (fun tx kx => XS.ifYes X0.here hx rfl (pc0 := 15) (pc' := 20) rfl (hb hby d31_15) rfl (own_jflt h2).2.1 (by decide) (by decide) kx) ?_
      show OwnOk p e below _ (s₁.setTop (mkF m 20 #[.val (.long (Int64.ofNat n)), .second] []))
      refine own_up (fun tx kx => XS.lloadN X0.here hx rfl (hb hby d31_20) rfl kx) ?_
      show OwnOk p e below _ (s₁.setTop (mkF m 21 #[.val (.long (Int64.ofNat n)), .second] [(.long (Int64.ofNat n))]))
      refine own_up (fun tx kx => X0.ldc2Long hx hown (mvT hZ (wd_200 hw)) (g := (mkF m 21 #[.val (.long (Int64.ofNat n)), .second] [(.long (Int64.ofNat n))])) rfl (hb hby d31_21) _ kx) ?_
      show OwnOk p e below _ (s₁.setTop (mkF m 24 #[.val (.long (Int64.ofNat n)), .second] [(.long (1000 : Int64)), (.long (Int64.ofNat n))]))
      refine own_up (fun tx kx => XS.lcmp X0.here hx rfl (hb hby d31_24) rfl kx) ?_
      show OwnOk p e below _ (s₁.setTop (mkF m 25 #[.val (.long (Int64.ofNat n)), .second] [(.int (lcmpW (Int64.ofNat n) (1000 : Int64)))]))
      by_cases h3 : (Int64.ofNat n) < (1000 : Int64)
      · refine own_up (fun tx kx => XS.ifNo X0.here hx rfl (hb hby d31_25) rfl (own_jtlt h3).2.1 kx) ?_
        show OwnOk p e below _ (s₁.setTop (mkF m 28 #[.val (.long (Int64.ofNat n)), .second] []))
        refine own_up (fun tx kx => XS.iconst X0.here hx rfl (hb hby d31_28) kx) ?_
        show OwnOk p e below _ (s₁.setTop (mkF m 29 #[.val (.long (Int64.ofNat n)), .second] [(.int (3 : Int32))]))
        refine own_retI X0 hx (show meth.sig.returnType = some .int from hret) hlk (hb hby d31_29) e0 (Nat.le_of_ble_eq_true rfl) (Nat.le_of_ble_eq_true rfl) ?_
        exact ⟨by unfold Jvm.Free.SBG.digits; rw [if_neg (fun q => h1 ((lim 10 (by decide)).mpr q)), if_neg (fun q => h2 ((lim 100 (by decide)).mpr q)), if_pos ((lim 1000 (by decide)).mp h3)]; rfl, N0, rfl⟩
      · refine own_up (fun tx kx => XS.ifYes X0.here hx rfl (pc0 := 25) (pc' := 30) rfl (hb hby d31_25) rfl (own_jflt h3).2.1 (by decide) (by decide) kx) ?_
        show OwnOk p e below _ (s₁.setTop (mkF m 30 #[.val (.long (Int64.ofNat n)), .second] []))
        refine own_up (fun tx kx => XS.lloadN X0.here hx rfl (hb hby d31_30) rfl kx) ?_
        show OwnOk p e below _ (s₁.setTop (mkF m 31 #[.val (.long (Int64.ofNat n)), .second] [(.long (Int64.ofNat n))]))
        refine own_up (fun tx kx => X0.ldc2Long hx hown (mvT hZ (wd_224 hw)) (g := (mkF m 31 #[.val (.long (Int64.ofNat n)), .second] [(.long (Int64.ofNat n))])) rfl (hb hby d31_31) _ kx) ?_
        show OwnOk p e below _ (s₁.setTop (mkF m 34 #[.val (.long (Int64.ofNat n)), .second] [(.long (10000 : Int64)), (.long (Int64.ofNat n))]))
        refine own_up (fun tx kx => XS.lcmp X0.here hx rfl (hb hby d31_34) rfl kx) ?_
        show OwnOk p e below _ (s₁.setTop (mkF m 35 #[.val (.long (Int64.ofNat n)), .second] [(.int (lcmpW (Int64.ofNat n) (10000 : Int64)))]))
        by_cases h4 : (Int64.ofNat n) < (10000 : Int64)
        · refine own_up (fun tx kx => XS.ifNo X0.here hx rfl (hb hby d31_35) rfl (own_jtlt h4).2.1 kx) ?_
          show OwnOk p e below _ (s₁.setTop (mkF m 38 #[.val (.long (Int64.ofNat n)), .second] []))
          refine own_up (fun tx kx => XS.iconst X0.here hx rfl (hb hby d31_38) kx) ?_
          show OwnOk p e below _ (s₁.setTop (mkF m 39 #[.val (.long (Int64.ofNat n)), .second] [(.int (4 : Int32))]))
          refine own_retI X0 hx (show meth.sig.returnType = some .int from hret) hlk (hb hby d31_39) e0 (Nat.le_of_ble_eq_true rfl) (Nat.le_of_ble_eq_true rfl) ?_
          exact ⟨by unfold Jvm.Free.SBG.digits; rw [if_neg (fun q => h1 ((lim 10 (by decide)).mpr q)), if_neg (fun q => h2 ((lim 100 (by decide)).mpr q)), if_neg (fun q => h3 ((lim 1000 (by decide)).mpr q)), if_pos ((lim 10000 (by decide)).mp h4)]; rfl, N0, rfl⟩
        · refine own_up (fun tx kx => XS.ifYes X0.here hx rfl (pc0 := 35) (pc' := 40) rfl (hb hby d31_35) rfl (own_jflt h4).2.1 (by decide) (by decide) kx) ?_
          show OwnOk p e below _ (s₁.setTop (mkF m 40 #[.val (.long (Int64.ofNat n)), .second] []))
          refine own_up (fun tx kx => XS.lloadN X0.here hx rfl (hb hby d31_40) rfl kx) ?_
          show OwnOk p e below _ (s₁.setTop (mkF m 41 #[.val (.long (Int64.ofNat n)), .second] [(.long (Int64.ofNat n))]))
          refine own_up (fun tx kx => X0.ldc2Long hx hown (mvT hZ (wd_225 hw)) (g := (mkF m 41 #[.val (.long (Int64.ofNat n)), .second] [(.long (Int64.ofNat n))])) rfl (hb hby d31_41) _ kx) ?_
          show OwnOk p e below _ (s₁.setTop (mkF m 44 #[.val (.long (Int64.ofNat n)), .second] [(.long (100000 : Int64)), (.long (Int64.ofNat n))]))
          refine own_up (fun tx kx => XS.lcmp X0.here hx rfl (hb hby d31_44) rfl kx) ?_
          show OwnOk p e below _ (s₁.setTop (mkF m 45 #[.val (.long (Int64.ofNat n)), .second] [(.int (lcmpW (Int64.ofNat n) (100000 : Int64)))]))
          by_cases h5 : (Int64.ofNat n) < (100000 : Int64)
          · refine own_up (fun tx kx => XS.ifNo X0.here hx rfl (hb hby d31_45) rfl (own_jtlt h5).2.1 kx) ?_
            show OwnOk p e below _ (s₁.setTop (mkF m 48 #[.val (.long (Int64.ofNat n)), .second] []))
            refine own_up (fun tx kx => XS.iconst X0.here hx rfl (hb hby d31_48) kx) ?_
            show OwnOk p e below _ (s₁.setTop (mkF m 49 #[.val (.long (Int64.ofNat n)), .second] [(.int (5 : Int32))]))
            refine own_retI X0 hx (show meth.sig.returnType = some .int from hret) hlk (hb hby d31_49) e0 (Nat.le_of_ble_eq_true rfl) (Nat.le_of_ble_eq_true rfl) ?_
            exact ⟨by unfold Jvm.Free.SBG.digits; rw [if_neg (fun q => h1 ((lim 10 (by decide)).mpr q)), if_neg (fun q => h2 ((lim 100 (by decide)).mpr q)), if_neg (fun q => h3 ((lim 1000 (by decide)).mpr q)), if_neg (fun q => h4 ((lim 10000 (by decide)).mpr q)), if_pos ((lim 100000 (by decide)).mp h5)]; rfl, N0, rfl⟩
          · refine own_up (fun tx kx => XS.ifYes X0.here hx rfl (pc0 := 45) (pc' := 50) rfl (hb hby d31_45) rfl (own_jflt h5).2.1 (by decide) (by decide) kx) ?_
            show OwnOk p e below _ (s₁.setTop (mkF m 50 #[.val (.long (Int64.ofNat n)), .second] []))
            refine own_up (fun tx kx => XS.lloadN X0.here hx rfl (hb hby d31_50) rfl kx) ?_
            show OwnOk p e below _ (s₁.setTop (mkF m 51 #[.val (.long (Int64.ofNat n)), .second] [(.long (Int64.ofNat n))]))
            refine own_up (fun tx kx => X0.ldc2Long hx hown (mvT hZ (wd_226 hw)) (g := (mkF m 51 #[.val (.long (Int64.ofNat n)), .second] [(.long (Int64.ofNat n))])) rfl (hb hby d31_51) _ kx) ?_
            show OwnOk p e below _ (s₁.setTop (mkF m 54 #[.val (.long (Int64.ofNat n)), .second] [(.long (1000000 : Int64)), (.long (Int64.ofNat n))]))
            refine own_up (fun tx kx => XS.lcmp X0.here hx rfl (hb hby d31_54) rfl kx) ?_
            show OwnOk p e below _ (s₁.setTop (mkF m 55 #[.val (.long (Int64.ofNat n)), .second] [(.int (lcmpW (Int64.ofNat n) (1000000 : Int64)))]))
            by_cases h6 : (Int64.ofNat n) < (1000000 : Int64)
            · refine own_up (fun tx kx => XS.ifNo X0.here hx rfl (hb hby d31_55) rfl (own_jtlt h6).2.1 kx) ?_
              show OwnOk p e below _ (s₁.setTop (mkF m 58 #[.val (.long (Int64.ofNat n)), .second] []))
              refine own_up (fun tx kx => XS.bipush X0.here hx rfl (hb hby d31_58) kx) ?_
              show OwnOk p e below _ (s₁.setTop (mkF m 60 #[.val (.long (Int64.ofNat n)), .second] [(.int (6 : Int32))]))
              refine own_retI X0 hx (show meth.sig.returnType = some .int from hret) hlk (hb hby d31_60) e0 (Nat.le_of_ble_eq_true rfl) (Nat.le_of_ble_eq_true rfl) ?_
              exact ⟨by unfold Jvm.Free.SBG.digits; rw [if_neg (fun q => h1 ((lim 10 (by decide)).mpr q)), if_neg (fun q => h2 ((lim 100 (by decide)).mpr q)), if_neg (fun q => h3 ((lim 1000 (by decide)).mpr q)), if_neg (fun q => h4 ((lim 10000 (by decide)).mpr q)), if_neg (fun q => h5 ((lim 100000 (by decide)).mpr q)), if_pos ((lim 1000000 (by decide)).mp h6)]; rfl, N0, rfl⟩
            · refine own_up (fun tx kx => XS.ifYes X0.here hx rfl (pc0 := 55) (pc' := 61) rfl (hb hby d31_55) rfl (own_jflt h6).2.1 (by decide) (by decide) kx) ?_
              show OwnOk p e below _ (s₁.setTop (mkF m 61 #[.val (.long (Int64.ofNat n)), .second] []))
              refine own_up (fun tx kx => XS.lloadN X0.here hx rfl (hb hby d31_61) rfl kx) ?_
              show OwnOk p e below _ (s₁.setTop (mkF m 62 #[.val (.long (Int64.ofNat n)), .second] [(.long (Int64.ofNat n))]))
              refine own_up (fun tx kx => X0.ldc2Long hx hown (mvT hZ (wd_227 hw)) (g := (mkF m 62 #[.val (.long (Int64.ofNat n)), .second] [(.long (Int64.ofNat n))])) rfl (hb hby d31_62) _ kx) ?_
              show OwnOk p e below _ (s₁.setTop (mkF m 65 #[.val (.long (Int64.ofNat n)), .second] [(.long (10000000 : Int64)), (.long (Int64.ofNat n))]))
              refine own_up (fun tx kx => XS.lcmp X0.here hx rfl (hb hby d31_65) rfl kx) ?_
              show OwnOk p e below _ (s₁.setTop (mkF m 66 #[.val (.long (Int64.ofNat n)), .second] [(.int (lcmpW (Int64.ofNat n) (10000000 : Int64)))]))
              by_cases h7 : (Int64.ofNat n) < (10000000 : Int64)
              · refine own_up (fun tx kx => XS.ifNo X0.here hx rfl (hb hby d31_66) rfl (own_jtlt h7).2.1 kx) ?_
                show OwnOk p e below _ (s₁.setTop (mkF m 69 #[.val (.long (Int64.ofNat n)), .second] []))
                refine own_up (fun tx kx => XS.bipush X0.here hx rfl (hb hby d31_69) kx) ?_
                show OwnOk p e below _ (s₁.setTop (mkF m 71 #[.val (.long (Int64.ofNat n)), .second] [(.int (7 : Int32))]))
                refine own_retI X0 hx (show meth.sig.returnType = some .int from hret) hlk (hb hby d31_71) e0 (Nat.le_of_ble_eq_true rfl) (Nat.le_of_ble_eq_true rfl) ?_
                exact ⟨by unfold Jvm.Free.SBG.digits; rw [if_neg (fun q => h1 ((lim 10 (by decide)).mpr q)), if_neg (fun q => h2 ((lim 100 (by decide)).mpr q)), if_neg (fun q => h3 ((lim 1000 (by decide)).mpr q)), if_neg (fun q => h4 ((lim 10000 (by decide)).mpr q)), if_neg (fun q => h5 ((lim 100000 (by decide)).mpr q)), if_neg (fun q => h6 ((lim 1000000 (by decide)).mpr q)), if_pos ((lim 10000000 (by decide)).mp h7)]; rfl, N0, rfl⟩
              · refine own_up (fun tx kx => XS.ifYes X0.here hx rfl (pc0 := 66) (pc' := 72) rfl (hb hby d31_66) rfl (own_jflt h7).2.1 (by decide) (by decide) kx) ?_
                show OwnOk p e below _ (s₁.setTop (mkF m 72 #[.val (.long (Int64.ofNat n)), .second] []))
                refine own_up (fun tx kx => XS.lloadN X0.here hx rfl (hb hby d31_72) rfl kx) ?_
                show OwnOk p e below _ (s₁.setTop (mkF m 73 #[.val (.long (Int64.ofNat n)), .second] [(.long (Int64.ofNat n))]))
                refine own_up (fun tx kx => X0.ldc2Long hx hown (mvT hZ (wd_228 hw)) (g := (mkF m 73 #[.val (.long (Int64.ofNat n)), .second] [(.long (Int64.ofNat n))])) rfl (hb hby d31_73) _ kx) ?_
                show OwnOk p e below _ (s₁.setTop (mkF m 76 #[.val (.long (Int64.ofNat n)), .second] [(.long (100000000 : Int64)), (.long (Int64.ofNat n))]))
                refine own_up (fun tx kx => XS.lcmp X0.here hx rfl (hb hby d31_76) rfl kx) ?_
                show OwnOk p e below _ (s₁.setTop (mkF m 77 #[.val (.long (Int64.ofNat n)), .second] [(.int (lcmpW (Int64.ofNat n) (100000000 : Int64)))]))
                by_cases h8 : (Int64.ofNat n) < (100000000 : Int64)
                · refine own_up (fun tx kx => XS.ifNo X0.here hx rfl (hb hby d31_77) rfl (own_jtlt h8).2.1 kx) ?_
                  show OwnOk p e below _ (s₁.setTop (mkF m 80 #[.val (.long (Int64.ofNat n)), .second] []))
                  refine own_up (fun tx kx => XS.bipush X0.here hx rfl (hb hby d31_80) kx) ?_
                  show OwnOk p e below _ (s₁.setTop (mkF m 82 #[.val (.long (Int64.ofNat n)), .second] [(.int (8 : Int32))]))
                  refine own_retI X0 hx (show meth.sig.returnType = some .int from hret) hlk (hb hby d31_82) e0 (Nat.le_of_ble_eq_true rfl) (Nat.le_of_ble_eq_true rfl) ?_
                  exact ⟨by unfold Jvm.Free.SBG.digits; rw [if_neg (fun q => h1 ((lim 10 (by decide)).mpr q)), if_neg (fun q => h2 ((lim 100 (by decide)).mpr q)), if_neg (fun q => h3 ((lim 1000 (by decide)).mpr q)), if_neg (fun q => h4 ((lim 10000 (by decide)).mpr q)), if_neg (fun q => h5 ((lim 100000 (by decide)).mpr q)), if_neg (fun q => h6 ((lim 1000000 (by decide)).mpr q)), if_neg (fun q => h7 ((lim 10000000 (by decide)).mpr q)), if_pos ((lim 100000000 (by decide)).mp h8)]; rfl, N0, rfl⟩
                · refine own_up (fun tx kx => XS.ifYes X0.here hx rfl (pc0 := 77) (pc' := 83) rfl (hb hby d31_77) rfl (own_jflt h8).2.1 (by decide) (by decide) kx) ?_
                  show OwnOk p e below _ (s₁.setTop (mkF m 83 #[.val (.long (Int64.ofNat n)), .second] []))
                  refine own_up (fun tx kx => XS.lloadN X0.here hx rfl (hb hby d31_83) rfl kx) ?_
                  show OwnOk p e below _ (s₁.setTop (mkF m 84 #[.val (.long (Int64.ofNat n)), .second] [(.long (Int64.ofNat n))]))
                  refine own_up (fun tx kx => X0.ldc2Long hx hown (mvT hZ (wd_229 hw)) (g := (mkF m 84 #[.val (.long (Int64.ofNat n)), .second] [(.long (Int64.ofNat n))])) rfl (hb hby d31_84) _ kx) ?_
                  show OwnOk p e below _ (s₁.setTop (mkF m 87 #[.val (.long (Int64.ofNat n)), .second] [(.long (1000000000 : Int64)), (.long (Int64.ofNat n))]))
                  refine own_up (fun tx kx => XS.lcmp X0.here hx rfl (hb hby d31_87) rfl kx) ?_
                  show OwnOk p e below _ (s₁.setTop (mkF m 88 #[.val (.long (Int64.ofNat n)), .second] [(.int (lcmpW (Int64.ofNat n) (1000000000 : Int64)))]))
                  by_cases h9 : (Int64.ofNat n) < (1000000000 : Int64)
                  · refine own_up (fun tx kx => XS.ifNo X0.here hx rfl (hb hby d31_88) rfl (own_jtlt h9).2.1 kx) ?_
                    show OwnOk p e below _ (s₁.setTop (mkF m 91 #[.val (.long (Int64.ofNat n)), .second] []))
                    refine own_up (fun tx kx => XS.bipush X0.here hx rfl (hb hby d31_91) kx) ?_
                    show OwnOk p e below _ (s₁.setTop (mkF m 93 #[.val (.long (Int64.ofNat n)), .second] [(.int (9 : Int32))]))
                    refine own_retI X0 hx (show meth.sig.returnType = some .int from hret) hlk (hb hby d31_93) e0 (Nat.le_of_ble_eq_true rfl) (Nat.le_of_ble_eq_true rfl) ?_
                    exact ⟨by unfold Jvm.Free.SBG.digits; rw [if_neg (fun q => h1 ((lim 10 (by decide)).mpr q)), if_neg (fun q => h2 ((lim 100 (by decide)).mpr q)), if_neg (fun q => h3 ((lim 1000 (by decide)).mpr q)), if_neg (fun q => h4 ((lim 10000 (by decide)).mpr q)), if_neg (fun q => h5 ((lim 100000 (by decide)).mpr q)), if_neg (fun q => h6 ((lim 1000000 (by decide)).mpr q)), if_neg (fun q => h7 ((lim 10000000 (by decide)).mpr q)), if_neg (fun q => h8 ((lim 100000000 (by decide)).mpr q)), if_pos ((lim 1000000000 (by decide)).mp h9)]; rfl, N0, rfl⟩
                  · refine own_up (fun tx kx => XS.ifYes X0.here hx rfl (pc0 := 88) (pc' := 94) rfl (hb hby d31_88) rfl (own_jflt h9).2.1 (by decide) (by decide) kx) ?_
                    show OwnOk p e below _ (s₁.setTop (mkF m 94 #[.val (.long (Int64.ofNat n)), .second] []))
                    refine own_up (fun tx kx => XS.bipush X0.here hx rfl (hb hby d31_94) kx) ?_
                    show OwnOk p e below _ (s₁.setTop (mkF m 96 #[.val (.long (Int64.ofNat n)), .second] [(.int (10 : Int32))]))
                    refine own_retI X0 hx (show meth.sig.returnType = some .int from hret) hlk (hb hby d31_96) e0 (Nat.le_of_ble_eq_true rfl) (Nat.le_of_ble_eq_true rfl) ?_
                    exact ⟨by unfold Jvm.Free.SBG.digits; rw [if_neg (fun q => h1 ((lim 10 (by decide)).mpr q)), if_neg (fun q => h2 ((lim 100 (by decide)).mpr q)), if_neg (fun q => h3 ((lim 1000 (by decide)).mpr q)), if_neg (fun q => h4 ((lim 10000 (by decide)).mpr q)), if_neg (fun q => h5 ((lim 100000 (by decide)).mpr q)), if_neg (fun q => h6 ((lim 1000000 (by decide)).mpr q)), if_neg (fun q => h7 ((lim 10000000 (by decide)).mpr q)), if_neg (fun q => h8 ((lim 100000000 (by decide)).mpr q)), if_neg (fun q => h9 ((lim 1000000000 (by decide)).mpr q))]; rfl, N0, rfl⟩
def Q_l_pow10 (e1 : Nat) (h0 : Heap) (n0 : Nat) (v : Option Value) (h : Heap) (L : List Loc) : Prop := v = some (.long (Int64.ofNat (10 ^ e1))) ∧ Fr n0 L ∧ h = h0
set_option maxRecDepth 65536 in
set_option maxHeartbeats 40000000 in
theorem l_pow10 (l : Launch) (Z : State) (a0 : Array Value) (hw : ∀ d ∈ tables_1, d.before a0 Z = true) (e1 : Nat) (h0 : Heap) (n0 : Nat) (OL : Old Z n0 h0) (he : e1 ≤ 9) :
    own_Met l Z (⟨"com/example/winnower/winnower/narrowing/PairToStringPinLaw", "pow10", "(I)J"⟩ : MethodName) method_7_code 1 (some .long) ({ frames := 0, cells := 0, slots := 0, locals := 0 } : Room) #[(.int (Int32.ofNat e1))] h0 (Q_l_pow10 e1 h0 n0) := by
  refine own_body (L0 := #[.val (.int (Int32.ofNat e1))]) (plainFor_of_name (by first | (simp [plainName, overriddenIn]; done) | decide +kernel)) (fun m => by first | (simp [entryFrame, mkF, argsToLocals, Value.category]; done) | rfl) ?_
  intro p e s m below meth c s₁ hx hby hml hZ hown hnm hret hlk X0 e0
  have N0 := Fr.nil n0
  have Z0 : n0 ≤ h0.size := OL.1 ▸ OL.2.1
  show OwnOk p e below _ (s₁.setTop (mkF m 0 #[.val (.int (Int32.ofNat e1))] []))
  refine own_up (fun tx kx => XS.iloadN X0.here hx rfl (hb hby d39_0) rfl kx) ?_
  show OwnOk p e below _ (s₁.setTop (mkF m 1 #[.val (.int (Int32.ofNat e1))] [(.int (Int32.ofNat e1))]))
  by_cases h0p : (0 : Int32) < (Int32.ofNat e1)
  · refine own_up (fun tx kx => XS.ifYes X0.here hx rfl (pc0 := 1) (pc' := 6) rfl (hb hby d39_1) rfl ((if0 _ _).trans (tlt h0p).2.2.1) (by decide) (by decide) kx) ?_
    show OwnOk p e below _ (s₁.setTop (mkF m 6 #[.val (.int (Int32.ofNat e1))] []))
    refine own_up (fun tx kx => XS.iloadN X0.here hx rfl (hb hby d39_6) rfl kx) ?_
    show OwnOk p e below _ (s₁.setTop (mkF m 7 #[.val (.int (Int32.ofNat e1))] [(.int (Int32.ofNat e1))]))
    refine own_up (fun tx kx => XS.iconst X0.here hx rfl (hb hby d39_7) kx) ?_
    show OwnOk p e below _ (s₁.setTop (mkF m 8 #[.val (.int (Int32.ofNat e1))] [(.int (1 : Int32)), (.int (Int32.ofNat e1))]))
    by_cases h1 : (Int32.ofNat e1) = (1 : Int32)
    · refine own_up (fun tx kx => XS.icmpNo X0.here hx rfl (hb hby d39_8) rfl (teq h1).2 kx) ?_
      show OwnOk p e below _ (s₁.setTop (mkF m 11 #[.val (.int (Int32.ofNat e1))] []))
      refine own_up (fun tx kx => X0.ldc2Long hx hown (mvT hZ (wd_169 hw)) (g := (mkF m 11 #[.val (.int (Int32.ofNat e1))] [])) rfl (hb hby d39_11) _ kx) ?_
      show OwnOk p e below _ (s₁.setTop (mkF m 14 #[.val (.int (Int32.ofNat e1))] [(.long (10 : Int64))]))
      have ee : e1 = 1 := own_ofNatEq (n := 1) h1 (by omega) (by omega)
      subst ee
      refine own_retJ X0 hx (show meth.sig.returnType = some .long from hret) hlk (hb hby d39_14) e0 (Nat.le_of_ble_eq_true rfl) (Nat.le_of_ble_eq_true rfl) ?_
      exact ⟨rfl, N0, rfl⟩
    · refine own_up (fun tx kx => XS.icmpYes X0.here hx rfl (pc0 := 8) (pc' := 15) rfl (hb hby d39_8) rfl (feq h1).2 (by decide) (by decide) kx) ?_
      show OwnOk p e below _ (s₁.setTop (mkF m 15 #[.val (.int (Int32.ofNat e1))] []))
      refine own_up (fun tx kx => XS.iloadN X0.here hx rfl (hb hby d39_15) rfl kx) ?_
      show OwnOk p e below _ (s₁.setTop (mkF m 16 #[.val (.int (Int32.ofNat e1))] [(.int (Int32.ofNat e1))]))
      refine own_up (fun tx kx => XS.iconst X0.here hx rfl (hb hby d39_16) kx) ?_
      show OwnOk p e below _ (s₁.setTop (mkF m 17 #[.val (.int (Int32.ofNat e1))] [(.int (2 : Int32)), (.int (Int32.ofNat e1))]))
      by_cases h2 : (Int32.ofNat e1) = (2 : Int32)
      · refine own_up (fun tx kx => XS.icmpNo X0.here hx rfl (hb hby d39_17) rfl (teq h2).2 kx) ?_
        show OwnOk p e below _ (s₁.setTop (mkF m 20 #[.val (.int (Int32.ofNat e1))] []))
        refine own_up (fun tx kx => X0.ldc2Long hx hown (mvT hZ (wd_199 hw)) (g := (mkF m 20 #[.val (.int (Int32.ofNat e1))] [])) rfl (hb hby d39_20) _ kx) ?_
        show OwnOk p e below _ (s₁.setTop (mkF m 23 #[.val (.int (Int32.ofNat e1))] [(.long (100 : Int64))]))
        have ee : e1 = 2 := own_ofNatEq (n := 2) h2 (by omega) (by omega)
        subst ee
        refine own_retJ X0 hx (show meth.sig.returnType = some .long from hret) hlk (hb hby d39_23) e0 (Nat.le_of_ble_eq_true rfl) (Nat.le_of_ble_eq_true rfl) ?_
        exact ⟨rfl, N0, rfl⟩
      · refine own_up (fun tx kx => XS.icmpYes X0.here hx rfl (pc0 := 17) (pc' := 24) rfl (hb hby d39_17) rfl (feq h2).2 (by decide) (by decide) kx) ?_
        show OwnOk p e below _ (s₁.setTop (mkF m 24 #[.val (.int (Int32.ofNat e1))] []))
        refine own_up (fun tx kx => XS.iloadN X0.here hx rfl (hb hby d39_24) rfl kx) ?_
        show OwnOk p e below _ (s₁.setTop (mkF m 25 #[.val (.int (Int32.ofNat e1))] [(.int (Int32.ofNat e1))]))
        refine own_up (fun tx kx => XS.iconst X0.here hx rfl (hb hby d39_25) kx) ?_
        show OwnOk p e below _ (s₁.setTop (mkF m 26 #[.val (.int (Int32.ofNat e1))] [(.int (3 : Int32)), (.int (Int32.ofNat e1))]))
        by_cases h3 : (Int32.ofNat e1) = (3 : Int32)
        · refine own_up (fun tx kx => XS.icmpNo X0.here hx rfl (hb hby d39_26) rfl (teq h3).2 kx) ?_
          show OwnOk p e below _ (s₁.setTop (mkF m 29 #[.val (.int (Int32.ofNat e1))] []))
          refine own_up (fun tx kx => X0.ldc2Long hx hown (mvT hZ (wd_200 hw)) (g := (mkF m 29 #[.val (.int (Int32.ofNat e1))] [])) rfl (hb hby d39_29) _ kx) ?_
          show OwnOk p e below _ (s₁.setTop (mkF m 32 #[.val (.int (Int32.ofNat e1))] [(.long (1000 : Int64))]))
          have ee : e1 = 3 := own_ofNatEq (n := 3) h3 (by omega) (by omega)
          subst ee
          refine own_retJ X0 hx (show meth.sig.returnType = some .long from hret) hlk (hb hby d39_32) e0 (Nat.le_of_ble_eq_true rfl) (Nat.le_of_ble_eq_true rfl) ?_
          exact ⟨rfl, N0, rfl⟩
        · refine own_up (fun tx kx => XS.icmpYes X0.here hx rfl (pc0 := 26) (pc' := 33) rfl (hb hby d39_26) rfl (feq h3).2 (by decide) (by decide) kx) ?_
          show OwnOk p e below _ (s₁.setTop (mkF m 33 #[.val (.int (Int32.ofNat e1))] []))
          refine own_up (fun tx kx => XS.iloadN X0.here hx rfl (hb hby d39_33) rfl kx) ?_
          show OwnOk p e below _ (s₁.setTop (mkF m 34 #[.val (.int (Int32.ofNat e1))] [(.int (Int32.ofNat e1))]))
          refine own_up (fun tx kx => XS.iconst X0.here hx rfl (hb hby d39_34) kx) ?_
          show OwnOk p e below _ (s₁.setTop (mkF m 35 #[.val (.int (Int32.ofNat e1))] [(.int (4 : Int32)), (.int (Int32.ofNat e1))]))
          by_cases h4 : (Int32.ofNat e1) = (4 : Int32)
          · refine own_up (fun tx kx => XS.icmpNo X0.here hx rfl (hb hby d39_35) rfl (teq h4).2 kx) ?_
            show OwnOk p e below _ (s₁.setTop (mkF m 38 #[.val (.int (Int32.ofNat e1))] []))
            refine own_up (fun tx kx => X0.ldc2Long hx hown (mvT hZ (wd_224 hw)) (g := (mkF m 38 #[.val (.int (Int32.ofNat e1))] [])) rfl (hb hby d39_38) _ kx) ?_
            show OwnOk p e below _ (s₁.setTop (mkF m 41 #[.val (.int (Int32.ofNat e1))] [(.long (10000 : Int64))]))
            have ee : e1 = 4 := own_ofNatEq (n := 4) h4 (by omega) (by omega)
            subst ee
            refine own_retJ X0 hx (show meth.sig.returnType = some .long from hret) hlk (hb hby d39_41) e0 (Nat.le_of_ble_eq_true rfl) (Nat.le_of_ble_eq_true rfl) ?_
            exact ⟨rfl, N0, rfl⟩
          · refine own_up (fun tx kx => XS.icmpYes X0.here hx rfl (pc0 := 35) (pc' := 42) rfl (hb hby d39_35) rfl (feq h4).2 (by decide) (by decide) kx) ?_
            show OwnOk p e below _ (s₁.setTop (mkF m 42 #[.val (.int (Int32.ofNat e1))] []))
            refine own_up (fun tx kx => XS.iloadN X0.here hx rfl (hb hby d39_42) rfl kx) ?_
            show OwnOk p e below _ (s₁.setTop (mkF m 43 #[.val (.int (Int32.ofNat e1))] [(.int (Int32.ofNat e1))]))
            refine own_up (fun tx kx => XS.iconst X0.here hx rfl (hb hby d39_43) kx) ?_
            show OwnOk p e below _ (s₁.setTop (mkF m 44 #[.val (.int (Int32.ofNat e1))] [(.int (5 : Int32)), (.int (Int32.ofNat e1))]))
            by_cases h5 : (Int32.ofNat e1) = (5 : Int32)
            · refine own_up (fun tx kx => XS.icmpNo X0.here hx rfl (hb hby d39_44) rfl (teq h5).2 kx) ?_
              show OwnOk p e below _ (s₁.setTop (mkF m 47 #[.val (.int (Int32.ofNat e1))] []))
              refine own_up (fun tx kx => X0.ldc2Long hx hown (mvT hZ (wd_225 hw)) (g := (mkF m 47 #[.val (.int (Int32.ofNat e1))] [])) rfl (hb hby d39_47) _ kx) ?_
              show OwnOk p e below _ (s₁.setTop (mkF m 50 #[.val (.int (Int32.ofNat e1))] [(.long (100000 : Int64))]))
              have ee : e1 = 5 := own_ofNatEq (n := 5) h5 (by omega) (by omega)
              subst ee
              refine own_retJ X0 hx (show meth.sig.returnType = some .long from hret) hlk (hb hby d39_50) e0 (Nat.le_of_ble_eq_true rfl) (Nat.le_of_ble_eq_true rfl) ?_
              exact ⟨rfl, N0, rfl⟩
            · refine own_up (fun tx kx => XS.icmpYes X0.here hx rfl (pc0 := 44) (pc' := 51) rfl (hb hby d39_44) rfl (feq h5).2 (by decide) (by decide) kx) ?_
              show OwnOk p e below _ (s₁.setTop (mkF m 51 #[.val (.int (Int32.ofNat e1))] []))
              refine own_up (fun tx kx => XS.iloadN X0.here hx rfl (hb hby d39_51) rfl kx) ?_
              show OwnOk p e below _ (s₁.setTop (mkF m 52 #[.val (.int (Int32.ofNat e1))] [(.int (Int32.ofNat e1))]))
              refine own_up (fun tx kx => XS.bipush X0.here hx rfl (hb hby d39_52) kx) ?_
              show OwnOk p e below _ (s₁.setTop (mkF m 54 #[.val (.int (Int32.ofNat e1))] [(.int (6 : Int32)), (.int (Int32.ofNat e1))]))
              by_cases h6 : (Int32.ofNat e1) = (6 : Int32)
              · refine own_up (fun tx kx => XS.icmpNo X0.here hx rfl (hb hby d39_54) rfl (teq h6).2 kx) ?_
                show OwnOk p e below _ (s₁.setTop (mkF m 57 #[.val (.int (Int32.ofNat e1))] []))
                refine own_up (fun tx kx => X0.ldc2Long hx hown (mvT hZ (wd_226 hw)) (g := (mkF m 57 #[.val (.int (Int32.ofNat e1))] [])) rfl (hb hby d39_57) _ kx) ?_
                show OwnOk p e below _ (s₁.setTop (mkF m 60 #[.val (.int (Int32.ofNat e1))] [(.long (1000000 : Int64))]))
                have ee : e1 = 6 := own_ofNatEq (n := 6) h6 (by omega) (by omega)
                subst ee
                refine own_retJ X0 hx (show meth.sig.returnType = some .long from hret) hlk (hb hby d39_60) e0 (Nat.le_of_ble_eq_true rfl) (Nat.le_of_ble_eq_true rfl) ?_
                exact ⟨rfl, N0, rfl⟩
              · refine own_up (fun tx kx => XS.icmpYes X0.here hx rfl (pc0 := 54) (pc' := 61) rfl (hb hby d39_54) rfl (feq h6).2 (by decide) (by decide) kx) ?_
                show OwnOk p e below _ (s₁.setTop (mkF m 61 #[.val (.int (Int32.ofNat e1))] []))
                refine own_up (fun tx kx => XS.iloadN X0.here hx rfl (hb hby d39_61) rfl kx) ?_
                show OwnOk p e below _ (s₁.setTop (mkF m 62 #[.val (.int (Int32.ofNat e1))] [(.int (Int32.ofNat e1))]))
                refine own_up (fun tx kx => XS.bipush X0.here hx rfl (hb hby d39_62) kx) ?_
                show OwnOk p e below _ (s₁.setTop (mkF m 64 #[.val (.int (Int32.ofNat e1))] [(.int (7 : Int32)), (.int (Int32.ofNat e1))]))
                by_cases h7 : (Int32.ofNat e1) = (7 : Int32)
                · refine own_up (fun tx kx => XS.icmpNo X0.here hx rfl (hb hby d39_64) rfl (teq h7).2 kx) ?_
                  show OwnOk p e below _ (s₁.setTop (mkF m 67 #[.val (.int (Int32.ofNat e1))] []))
                  refine own_up (fun tx kx => X0.ldc2Long hx hown (mvT hZ (wd_227 hw)) (g := (mkF m 67 #[.val (.int (Int32.ofNat e1))] [])) rfl (hb hby d39_67) _ kx) ?_
                  show OwnOk p e below _ (s₁.setTop (mkF m 70 #[.val (.int (Int32.ofNat e1))] [(.long (10000000 : Int64))]))
                  have ee : e1 = 7 := own_ofNatEq (n := 7) h7 (by omega) (by omega)
                  subst ee
                  refine own_retJ X0 hx (show meth.sig.returnType = some .long from hret) hlk (hb hby d39_70) e0 (Nat.le_of_ble_eq_true rfl) (Nat.le_of_ble_eq_true rfl) ?_
                  exact ⟨rfl, N0, rfl⟩
                · refine own_up (fun tx kx => XS.icmpYes X0.here hx rfl (pc0 := 64) (pc' := 71) rfl (hb hby d39_64) rfl (feq h7).2 (by decide) (by decide) kx) ?_
                  show OwnOk p e below _ (s₁.setTop (mkF m 71 #[.val (.int (Int32.ofNat e1))] []))
                  refine own_up (fun tx kx => XS.iloadN X0.here hx rfl (hb hby d39_71) rfl kx) ?_
                  show OwnOk p e below _ (s₁.setTop (mkF m 72 #[.val (.int (Int32.ofNat e1))] [(.int (Int32.ofNat e1))]))
                  refine own_up (fun tx kx => XS.bipush X0.here hx rfl (hb hby d39_72) kx) ?_
                  show OwnOk p e below _ (s₁.setTop (mkF m 74 #[.val (.int (Int32.ofNat e1))] [(.int (8 : Int32)), (.int (Int32.ofNat e1))]))
                  by_cases h8 : (Int32.ofNat e1) = (8 : Int32)
                  · refine own_up (fun tx kx => XS.icmpNo X0.here hx rfl (hb hby d39_74) rfl (teq h8).2 kx) ?_
                    show OwnOk p e below _ (s₁.setTop (mkF m 77 #[.val (.int (Int32.ofNat e1))] []))
                    refine own_up (fun tx kx => X0.ldc2Long hx hown (mvT hZ (wd_228 hw)) (g := (mkF m 77 #[.val (.int (Int32.ofNat e1))] [])) rfl (hb hby d39_77) _ kx) ?_
                    show OwnOk p e below _ (s₁.setTop (mkF m 80 #[.val (.int (Int32.ofNat e1))] [(.long (100000000 : Int64))]))
                    have ee : e1 = 8 := own_ofNatEq (n := 8) h8 (by omega) (by omega)
                    subst ee
                    refine own_retJ X0 hx (show meth.sig.returnType = some .long from hret) hlk (hb hby d39_80) e0 (Nat.le_of_ble_eq_true rfl) (Nat.le_of_ble_eq_true rfl) ?_
                    exact ⟨rfl, N0, rfl⟩
                  · refine own_up (fun tx kx => XS.icmpYes X0.here hx rfl (pc0 := 74) (pc' := 81) rfl (hb hby d39_74) rfl (feq h8).2 (by decide) (by decide) kx) ?_
                    show OwnOk p e below _ (s₁.setTop (mkF m 81 #[.val (.int (Int32.ofNat e1))] []))
                    refine own_up (fun tx kx => X0.ldc2Long hx hown (mvT hZ (wd_229 hw)) (g := (mkF m 81 #[.val (.int (Int32.ofNat e1))] [])) rfl (hb hby d39_81) _ kx) ?_
                    show OwnOk p e below _ (s₁.setTop (mkF m 84 #[.val (.int (Int32.ofNat e1))] [(.long (1000000000 : Int64))]))
                    have ee : e1 = 9 := by
                      have q0 : e1 ≠ 0 := fun q => by subst q; exact absurd h0p (by decide)
                      have q1 : e1 ≠ 1 := fun q => h1 (by rw [q]; rfl)
                      have q2 : e1 ≠ 2 := fun q => h2 (by rw [q]; rfl)
                      have q3 : e1 ≠ 3 := fun q => h3 (by rw [q]; rfl)
                      have q4 : e1 ≠ 4 := fun q => h4 (by rw [q]; rfl)
                      have q5 : e1 ≠ 5 := fun q => h5 (by rw [q]; rfl)
                      have q6 : e1 ≠ 6 := fun q => h6 (by rw [q]; rfl)
                      have q7 : e1 ≠ 7 := fun q => h7 (by rw [q]; rfl)
                      have q8 : e1 ≠ 8 := fun q => h8 (by rw [q]; rfl)
                      omega
                    subst ee
                    refine own_retJ X0 hx (show meth.sig.returnType = some .long from hret) hlk (hb hby d39_84) e0 (Nat.le_of_ble_eq_true rfl) (Nat.le_of_ble_eq_true rfl) ?_
                    exact ⟨rfl, N0, rfl⟩
  · refine own_up (fun tx kx => XS.ifNo X0.here hx rfl (hb hby d39_1) rfl ((if0 _ _).trans (flt h0p).2.2.1) kx) ?_
    show OwnOk p e below _ (s₁.setTop (mkF m 4 #[.val (.int (Int32.ofNat e1))] []))
    refine own_up (fun tx kx => XS.lconst X0.here hx rfl (hb hby d39_4) kx) ?_
    show OwnOk p e below _ (s₁.setTop (mkF m 5 #[.val (.int (Int32.ofNat e1))] [(.long (1 : Int64))]))
    have ee : e1 = 0 := Nat.eq_zero_of_not_pos fun q => h0p (own_lt (i := 0) q (by omega))
    subst ee
    refine own_retJ X0 hx (show meth.sig.returnType = some .long from hret) hlk (hb hby d39_5) e0 (Nat.le_of_ble_eq_true rfl) (Nat.le_of_ble_eq_true rfl) ?_
    exact ⟨rfl, N0, rfl⟩
def Q_l_decLen (x : Int32) (h0 : Heap) (n0 : Nat) (v : Option Value) (h : Heap) (L : List Loc) : Prop := v = some (.int (Int32.ofNat (own_sz x))) ∧ Fr n0 L ∧ h = h0
set_option maxRecDepth 65536 in
set_option maxHeartbeats 40000000 in
theorem l_decLen (l : Launch) (Z : State) (a0 : Array Value) (hw : ∀ d ∈ tables_1, d.before a0 Z = true) (x : Int32) (h0 : Heap) (n0 : Nat) (OL : Old Z n0 h0)  :
    own_Met l Z (⟨"com/example/winnower/winnower/narrowing/PairToStringPinLaw", "decLen", "(I)I"⟩ : MethodName) method_5_code 4 (some .int) ({ frames := 1, cells := 0, slots := 0, locals := 20 } : Room) #[(.int x)] h0 (Q_l_decLen x h0 n0) := by
  refine own_body (L0 := #[.val (.int x), .unset, .unset, .unset]) (plainFor_of_name (by first | (simp [plainName, overriddenIn]; done) | decide +kernel)) (fun m => by first | (simp [entryFrame, mkF, argsToLocals, Value.category]; done) | rfl) ?_
  intro p e s m below meth c s₁ hx hby hml hZ hown hnm hret hlk X0 e0
  have N0 := Fr.nil n0
  have Z0 : n0 ≤ h0.size := OL.1 ▸ OL.2.1
  show OwnOk p e below _ (s₁.setTop (mkF m 0 #[.val (.int x), .unset, .unset, .unset] []))
  refine own_up (fun tx kx => XS.iloadN X0.here hx rfl (hb hby d29_0) rfl kx) ?_
  show OwnOk p e below _ (s₁.setTop (mkF m 1 #[.val (.int x), .unset, .unset, .unset] [(.int x)]))
  refine own_up (fun tx kx => XS.i2l X0.here hx rfl (hb hby d29_1) rfl kx) ?_
  show OwnOk p e below _ (s₁.setTop (mkF m 2 #[.val (.int x), .unset, .unset, .unset] [(.long (x.toInt64))]))
  refine own_callS X0 hx hZ (y := (⟨"java/lang/Math", "abs", "(J)J"⟩ : MethodName)) hown (wd_163 hw) (wd_164 hw) (wd_156 hw) (wd_165 hw) (by decide) (l_abs l Z a0 hw (x.toInt64) h0 n0 OL) e0 (argsL := [(.long (x.toInt64))]) (rest := []) (by rw [hml]; rfl) (lenOf pd_19 rfl) rfl rfl (W := 0) rfl (hb hby d29_2) (by decide) (by decide) (by decide) (by decide) (fun T11 v11 L11 X11 hQ11 => ?_)
  obtain ⟨rfl, Nq11, hh11⟩ := hQ11
  have N11 := Fr.app N0 Nq11
  show OwnOk p e below _ (T11.setTop (mkF m 5 #[.val (.int x), .unset, .unset, .unset] [(.long (if (x.toInt64) < 0 then -(x.toInt64) else (x.toInt64)))]))
  rw [show (if (x.toInt64) < 0 then -(x.toInt64) else (x.toInt64)) = (Int64.ofNat (own_ab x)) from own_abJ x]
  show OwnOk p e below _ (T11.setTop (mkF m 5 #[.val (.int x), .unset, .unset, .unset] [(.long (Int64.ofNat (own_ab x)))]))
  refine own_up (fun tx kx => XS.lstoreN X11.here hx rfl (hb hby d29_5) rfl (l' := #[.val (.int x), .val (.long (Int64.ofNat (own_ab x))), .second, .unset]) rfl kx) ?_
  show OwnOk p e below _ (T11.setTop (mkF m 6 #[.val (.int x), .val (.long (Int64.ofNat (own_ab x))), .second, .unset] []))
  refine own_up (fun tx kx => XS.lloadN X11.here hx rfl (hb hby d29_6) rfl kx) ?_
  show OwnOk p e below _ (T11.setTop (mkF m 7 #[.val (.int x), .val (.long (Int64.ofNat (own_ab x))), .second, .unset] [(.long (Int64.ofNat (own_ab x)))]))
  refine own_callS X11 hx hZ (y := (⟨"com/example/winnower/winnower/narrowing/PairToStringPinLaw", "digits", "(J)I"⟩ : MethodName)) hown (wd_166 hw) (wd_167 hw) (wd_161 hw) (wd_168 hw) (by decide) (l_digits l Z a0 hw (own_ab x) h0 n0 OL (own_ab_le x)) hh11 (argsL := [(.long (Int64.ofNat (own_ab x)))]) (rest := []) (by rw [hml]; rfl) (lenOf pd_20 rfl) rfl rfl (W := 0) rfl (hb hby d29_7) (by decide) (by decide) (by decide) (by decide) (fun T12 v12 L12 X12 hQ12 => ?_)
  obtain ⟨rfl, Nq12, hh12⟩ := hQ12
  have N12 := Fr.app N11 Nq12
  show OwnOk p e below _ (T12.setTop (mkF m 10 #[.val (.int x), .val (.long (Int64.ofNat (own_ab x))), .second, .unset] [(.int (Int32.ofNat (Jvm.Free.SBG.digits (own_ab x))))]))
  refine own_up (fun tx kx => XS.istoreN X12.here hx rfl (hb hby d29_10) rfl (l' := #[.val (.int x), .val (.long (Int64.ofNat (own_ab x))), .second, .val (.int (Int32.ofNat (Jvm.Free.SBG.digits (own_ab x))))]) rfl kx) ?_
  show OwnOk p e below _ (T12.setTop (mkF m 11 #[.val (.int x), .val (.long (Int64.ofNat (own_ab x))), .second, .val (.int (Int32.ofNat (Jvm.Free.SBG.digits (own_ab x))))] []))
  refine own_up (fun tx kx => XS.iloadN X12.here hx rfl (hb hby d29_11) rfl kx) ?_
  show OwnOk p e below _ (T12.setTop (mkF m 12 #[.val (.int x), .val (.long (Int64.ofNat (own_ab x))), .second, .val (.int (Int32.ofNat (Jvm.Free.SBG.digits (own_ab x))))] [(.int x)]))
  by_cases hk : x < (0 : Int32)
  · refine own_up (fun tx kx => XS.ifNo X12.here hx rfl (hb hby d29_12) rfl ((if0 _ _).trans (tlt hk).2.1) kx) ?_
    show OwnOk p e below _ (T12.setTop (mkF m 15 #[.val (.int x), .val (.long (Int64.ofNat (own_ab x))), .second, .val (.int (Int32.ofNat (Jvm.Free.SBG.digits (own_ab x))))] []))
    refine own_up (fun tx kx => XS.iloadN X12.here hx rfl (hb hby d29_15) rfl kx) ?_
    show OwnOk p e below _ (T12.setTop (mkF m 16 #[.val (.int x), .val (.long (Int64.ofNat (own_ab x))), .second, .val (.int (Int32.ofNat (Jvm.Free.SBG.digits (own_ab x))))] [(.int (Int32.ofNat (Jvm.Free.SBG.digits (own_ab x))))]))
    refine own_up (fun tx kx => XS.iconst X12.here hx rfl (hb hby d29_16) kx) ?_
    show OwnOk p e below _ (T12.setTop (mkF m 17 #[.val (.int x), .val (.long (Int64.ofNat (own_ab x))), .second, .val (.int (Int32.ofNat (Jvm.Free.SBG.digits (own_ab x))))] [(.int (1 : Int32)), (.int (Int32.ofNat (Jvm.Free.SBG.digits (own_ab x))))]))
    refine own_up (fun tx kx => XS.iadd X12.here hx rfl (hb hby d29_17) rfl kx) ?_
    show OwnOk p e below _ (T12.setTop (mkF m 18 #[.val (.int x), .val (.long (Int64.ofNat (own_ab x))), .second, .val (.int (Int32.ofNat (Jvm.Free.SBG.digits (own_ab x))))] [(.int ((Int32.ofNat (Jvm.Free.SBG.digits (own_ab x))) + (1 : Int32)))]))
    refine own_up (fun tx kx => XS.goto X12.here hx rfl (pc0 := 18) (pc' := 22) rfl (hb hby d29_18) (by decide) (by decide) kx) ?_
    show OwnOk p e below _ (T12.setTop (mkF m 22 #[.val (.int x), .val (.long (Int64.ofNat (own_ab x))), .second, .val (.int (Int32.ofNat (Jvm.Free.SBG.digits (own_ab x))))] [(.int ((Int32.ofNat (Jvm.Free.SBG.digits (own_ab x))) + (1 : Int32)))]))
    refine own_retI X12 hx (show meth.sig.returnType = some .int from hret) hlk (hb hby d29_22) hh12 (Nat.le_of_ble_eq_true rfl) (Nat.le_of_ble_eq_true rfl) ?_
    exact ⟨by unfold own_sz Jvm.Free.SBG.GetChars.sgn; rw [if_pos hk, Int32.ofNat_add]; rfl, N12, rfl⟩
  · refine own_up (fun tx kx => XS.ifYes X12.here hx rfl (pc0 := 12) (pc' := 21) rfl (hb hby d29_12) rfl ((if0 _ _).trans (flt hk).2.1) (by decide) (by decide) kx) ?_
    show OwnOk p e below _ (T12.setTop (mkF m 21 #[.val (.int x), .val (.long (Int64.ofNat (own_ab x))), .second, .val (.int (Int32.ofNat (Jvm.Free.SBG.digits (own_ab x))))] []))
    refine own_up (fun tx kx => XS.iloadN X12.here hx rfl (hb hby d29_21) rfl kx) ?_
    show OwnOk p e below _ (T12.setTop (mkF m 22 #[.val (.int x), .val (.long (Int64.ofNat (own_ab x))), .second, .val (.int (Int32.ofNat (Jvm.Free.SBG.digits (own_ab x))))] [(.int (Int32.ofNat (Jvm.Free.SBG.digits (own_ab x))))]))
    refine own_retI X12 hx (show meth.sig.returnType = some .int from hret) hlk (hb hby d29_22) hh12 (Nat.le_of_ble_eq_true rfl) (Nat.le_of_ble_eq_true rfl) ?_
    exact ⟨by unfold own_sz Jvm.Free.SBG.GetChars.sgn; rw [if_neg hk]; rfl, N12, rfl⟩
def Q_l_decChar (x : Int32) (j : Nat) (h0 : Heap) (n0 : Nat) (v : Option Value) (h : Heap) (L : List Loc) : Prop := v = some (.int (own_dg (own_ab x) x j)) ∧ Fr n0 L ∧ h = h0
set_option maxRecDepth 65536 in
set_option maxHeartbeats 40000000 in
theorem l_decChar (l : Launch) (Z : State) (a0 : Array Value) (hw : ∀ d ∈ tables_1, d.before a0 Z = true) (x : Int32) (j : Nat) (h0 : Heap) (n0 : Nat) (OL : Old Z n0 h0) (hj : j < own_sz x) :
    own_Met l Z (⟨"com/example/winnower/winnower/narrowing/PairToStringPinLaw", "decChar", "(III)C"⟩ : MethodName) method_4_code 10 (some .char) ({ frames := 1, cells := 0, slots := 0, locals := 20 } : Room) #[(.int x), (.int (Int32.ofNat (own_sz x))), (.int (Int32.ofNat j))] h0 (Q_l_decChar x j h0 n0) := by
  refine own_body (L0 := #[.val (.int x), .val (.int (Int32.ofNat (own_sz x))), .val (.int (Int32.ofNat j)), .unset, .unset, .unset, .unset, .unset, .unset, .unset]) (plainFor_of_name (by first | (simp [plainName, overriddenIn]; done) | decide +kernel)) (fun m => by first | (simp [entryFrame, mkF, argsToLocals, Value.category]; done) | rfl) ?_
  intro p e s m below meth c s₁ hx hby hml hZ hown hnm hret hlk X0 e0
  have N0 := Fr.nil n0
  have Z0 : n0 ≤ h0.size := OL.1 ▸ OL.2.1
  show OwnOk p e below _ (s₁.setTop (mkF m 0 #[.val (.int x), .val (.int (Int32.ofNat (own_sz x))), .val (.int (Int32.ofNat j)), .unset, .unset, .unset, .unset, .unset, .unset, .unset] []))
  have hdp := Jvm.Free.SBG.digits_pos (own_ab x)
  have hsz : own_sz x = Jvm.Free.SBG.digits (own_ab x) + Jvm.Free.SBG.GetChars.sgn x := rfl
  have hsg : Jvm.Free.SBG.GetChars.sgn x = if x < 0 then 1 else 0 := rfl
  show OwnOk p e below _ (s₁.setTop (mkF m 0 #[.val (.int x), .val (.int (Int32.ofNat (own_sz x))), .val (.int (Int32.ofNat j)), .unset, .unset, .unset, .unset, .unset, .unset, .unset] []))
  refine own_up (fun tx kx => XS.iloadN X0.here hx rfl (hb hby d38_0) rfl kx) ?_
  show OwnOk p e below _ (s₁.setTop (mkF m 1 #[.val (.int x), .val (.int (Int32.ofNat (own_sz x))), .val (.int (Int32.ofNat j)), .unset, .unset, .unset, .unset, .unset, .unset, .unset] [(.int x)]))
  by_cases hk : x < (0 : Int32)
  · refine own_up (fun tx kx => XS.ifNo X0.here hx rfl (hb hby d38_1) rfl ((if0 _ _).trans (tlt hk).2.1) kx) ?_
    show OwnOk p e below _ (s₁.setTop (mkF m 4 #[.val (.int x), .val (.int (Int32.ofNat (own_sz x))), .val (.int (Int32.ofNat j)), .unset, .unset, .unset, .unset, .unset, .unset, .unset] []))
    refine own_up (fun tx kx => XS.iloadN X0.here hx rfl (hb hby d38_4) rfl kx) ?_
    show OwnOk p e below _ (s₁.setTop (mkF m 5 #[.val (.int x), .val (.int (Int32.ofNat (own_sz x))), .val (.int (Int32.ofNat j)), .unset, .unset, .unset, .unset, .unset, .unset, .unset] [(.int (Int32.ofNat j))]))
    by_cases hz : (Int32.ofNat j) = (0 : Int32)
    · refine own_up (fun tx kx => XS.ifNo X0.here hx rfl (hb hby d38_5) rfl ((if0 _ _).trans (teq hz).2) kx) ?_
      show OwnOk p e below _ (s₁.setTop (mkF m 8 #[.val (.int x), .val (.int (Int32.ofNat (own_sz x))), .val (.int (Int32.ofNat j)), .unset, .unset, .unset, .unset, .unset, .unset, .unset] []))
      refine own_up (fun tx kx => XS.bipush X0.here hx rfl (hb hby d38_8) kx) ?_
      show OwnOk p e below _ (s₁.setTop (mkF m 10 #[.val (.int x), .val (.int (Int32.ofNat (own_sz x))), .val (.int (Int32.ofNat j)), .unset, .unset, .unset, .unset, .unset, .unset, .unset] [(.int (45 : Int32))]))
      refine own_retN X0 hx (t := .char) (show meth.sig.returnType = some .char from hret) (by simp) hlk (hb hby d38_10) (z' := own_dg (own_ab x) x j) (by have hj0 : j = 0 := own_ofNat0 hz (by have := own_sz_le x; omega); unfold own_dg; rw [if_pos ⟨hj0, hk⟩]; rfl) e0 (Nat.le_of_ble_eq_true rfl) (Nat.le_of_ble_eq_true rfl) ?_
      exact ⟨rfl, N0, rfl⟩
    · refine own_up (fun tx kx => XS.ifYes X0.here hx rfl (pc0 := 5) (pc' := 11) rfl (hb hby d38_5) rfl ((if0 _ _).trans (feq hz).2) (by decide) (by decide) kx) ?_
      show OwnOk p e below _ (s₁.setTop (mkF m 11 #[.val (.int x), .val (.int (Int32.ofNat (own_sz x))), .val (.int (Int32.ofNat j)), .unset, .unset, .unset, .unset, .unset, .unset, .unset] []))
      rw [if_pos hk] at hsg
      have hj1 : 1 ≤ j := Nat.pos_of_ne_zero fun q => hz (by rw [q]; rfl)
      have he : (own_sz x - 1 - j) ≤ 9 := by omega
      have hdg : own_dg (own_ab x) x j = Int32.ofNat (48 + own_ab x / 10 ^ (own_sz x - 1 - j) % 10) := by unfold own_dg; rw [if_neg (fun q => absurd q.1 (by omega))]; rfl
      show OwnOk p e below _ (s₁.setTop (mkF m 11 #[.val (.int x), .val (.int (Int32.ofNat (own_sz x))), .val (.int (Int32.ofNat j)), .unset, .unset, .unset, .unset, .unset, .unset, .unset] []))
      refine own_up (fun tx kx => XS.iloadN X0.here hx rfl (hb hby d38_11) rfl kx) ?_
      show OwnOk p e below _ (s₁.setTop (mkF m 12 #[.val (.int x), .val (.int (Int32.ofNat (own_sz x))), .val (.int (Int32.ofNat j)), .unset, .unset, .unset, .unset, .unset, .unset, .unset] [(.int x)]))
      refine own_up (fun tx kx => XS.i2l X0.here hx rfl (hb hby d38_12) rfl kx) ?_
      show OwnOk p e below _ (s₁.setTop (mkF m 13 #[.val (.int x), .val (.int (Int32.ofNat (own_sz x))), .val (.int (Int32.ofNat j)), .unset, .unset, .unset, .unset, .unset, .unset, .unset] [(.long (x.toInt64))]))
      refine own_callS X0 hx hZ (y := (⟨"java/lang/Math", "abs", "(J)J"⟩ : MethodName)) hown (wd_163 hw) (wd_164 hw) (wd_156 hw) (wd_165 hw) (by decide) (l_abs l Z a0 hw (x.toInt64) h0 n0 OL) e0 (argsL := [(.long (x.toInt64))]) (rest := []) (by rw [hml]; rfl) (lenOf pd_19 rfl) rfl rfl (W := 0) rfl (hb hby d38_13) (by decide) (by decide) (by decide) (by decide) (fun T11 v11 L11 X11 hQ11 => ?_)
      obtain ⟨rfl, Nq11, hh11⟩ := hQ11
      have N11 := Fr.app N0 Nq11
      show OwnOk p e below _ (T11.setTop (mkF m 16 #[.val (.int x), .val (.int (Int32.ofNat (own_sz x))), .val (.int (Int32.ofNat j)), .unset, .unset, .unset, .unset, .unset, .unset, .unset] [(.long (if (x.toInt64) < 0 then -(x.toInt64) else (x.toInt64)))]))
      rw [show (if (x.toInt64) < 0 then -(x.toInt64) else (x.toInt64)) = (Int64.ofNat (own_ab x)) from own_abJ x]
      show OwnOk p e below _ (T11.setTop (mkF m 16 #[.val (.int x), .val (.int (Int32.ofNat (own_sz x))), .val (.int (Int32.ofNat j)), .unset, .unset, .unset, .unset, .unset, .unset, .unset] [(.long (Int64.ofNat (own_ab x)))]))
      refine own_up (fun tx kx => XS.lstoreN X11.here hx rfl (hb hby d38_16) rfl (l' := #[.val (.int x), .val (.int (Int32.ofNat (own_sz x))), .val (.int (Int32.ofNat j)), .val (.long (Int64.ofNat (own_ab x))), .second, .unset, .unset, .unset, .unset, .unset]) rfl kx) ?_
      show OwnOk p e below _ (T11.setTop (mkF m 17 #[.val (.int x), .val (.int (Int32.ofNat (own_sz x))), .val (.int (Int32.ofNat j)), .val (.long (Int64.ofNat (own_ab x))), .second, .unset, .unset, .unset, .unset, .unset] []))
      refine own_up (fun tx kx => XS.iloadN X11.here hx rfl (hb hby d38_17) rfl kx) ?_
      show OwnOk p e below _ (T11.setTop (mkF m 18 #[.val (.int x), .val (.int (Int32.ofNat (own_sz x))), .val (.int (Int32.ofNat j)), .val (.long (Int64.ofNat (own_ab x))), .second, .unset, .unset, .unset, .unset, .unset] [(.int x)]))
      refine own_up (fun tx kx => XS.ifNo X11.here hx rfl (hb hby d38_18) rfl ((if0 _ _).trans (tlt hk).2.1) kx) ?_
      show OwnOk p e below _ (T11.setTop (mkF m 21 #[.val (.int x), .val (.int (Int32.ofNat (own_sz x))), .val (.int (Int32.ofNat j)), .val (.long (Int64.ofNat (own_ab x))), .second, .unset, .unset, .unset, .unset, .unset] []))
      refine own_up (fun tx kx => XS.iloadN X11.here hx rfl (hb hby d38_21) rfl kx) ?_
      show OwnOk p e below _ (T11.setTop (mkF m 22 #[.val (.int x), .val (.int (Int32.ofNat (own_sz x))), .val (.int (Int32.ofNat j)), .val (.long (Int64.ofNat (own_ab x))), .second, .unset, .unset, .unset, .unset, .unset] [(.int (Int32.ofNat (own_sz x)))]))
      refine own_up (fun tx kx => XS.iconst X11.here hx rfl (hb hby d38_22) kx) ?_
      show OwnOk p e below _ (T11.setTop (mkF m 23 #[.val (.int x), .val (.int (Int32.ofNat (own_sz x))), .val (.int (Int32.ofNat j)), .val (.long (Int64.ofNat (own_ab x))), .second, .unset, .unset, .unset, .unset, .unset] [(.int (1 : Int32)), (.int (Int32.ofNat (own_sz x)))]))
      refine own_up (fun tx kx => XS.isub X11.here hx rfl (hb hby d38_23) rfl kx) ?_
      show OwnOk p e below _ (T11.setTop (mkF m 24 #[.val (.int x), .val (.int (Int32.ofNat (own_sz x))), .val (.int (Int32.ofNat j)), .val (.long (Int64.ofNat (own_ab x))), .second, .unset, .unset, .unset, .unset, .unset] [(.int ((Int32.ofNat (own_sz x)) - (1 : Int32)))]))
      rw [show ((Int32.ofNat (own_sz x)) - (1 : Int32)) = (Int32.ofNat (own_sz x - 1)) from (Int32.ofNat_sub (own_sz x) 1 (by omega)).symm]
      show OwnOk p e below _ (T11.setTop (mkF m 24 #[.val (.int x), .val (.int (Int32.ofNat (own_sz x))), .val (.int (Int32.ofNat j)), .val (.long (Int64.ofNat (own_ab x))), .second, .unset, .unset, .unset, .unset, .unset] [(.int (Int32.ofNat (own_sz x - 1)))]))
      refine own_up (fun tx kx => XS.goto X11.here hx rfl (pc0 := 24) (pc' := 28) rfl (hb hby d38_24) (by decide) (by decide) kx) ?_
      show OwnOk p e below _ (T11.setTop (mkF m 28 #[.val (.int x), .val (.int (Int32.ofNat (own_sz x))), .val (.int (Int32.ofNat j)), .val (.long (Int64.ofNat (own_ab x))), .second, .unset, .unset, .unset, .unset, .unset] [(.int (Int32.ofNat (own_sz x - 1)))]))
      refine own_up (fun tx kx => XS.istore X11.here hx rfl (hb hby d38_28) rfl (l' := #[.val (.int x), .val (.int (Int32.ofNat (own_sz x))), .val (.int (Int32.ofNat j)), .val (.long (Int64.ofNat (own_ab x))), .second, .val (.int (Int32.ofNat (own_sz x - 1))), .unset, .unset, .unset, .unset]) rfl kx) ?_
      show OwnOk p e below _ (T11.setTop (mkF m 30 #[.val (.int x), .val (.int (Int32.ofNat (own_sz x))), .val (.int (Int32.ofNat j)), .val (.long (Int64.ofNat (own_ab x))), .second, .val (.int (Int32.ofNat (own_sz x - 1))), .unset, .unset, .unset, .unset] []))
      refine own_up (fun tx kx => XS.iloadN X11.here hx rfl (hb hby d38_30) rfl kx) ?_
      show OwnOk p e below _ (T11.setTop (mkF m 31 #[.val (.int x), .val (.int (Int32.ofNat (own_sz x))), .val (.int (Int32.ofNat j)), .val (.long (Int64.ofNat (own_ab x))), .second, .val (.int (Int32.ofNat (own_sz x - 1))), .unset, .unset, .unset, .unset] [(.int x)]))
      refine own_up (fun tx kx => XS.ifNo X11.here hx rfl (hb hby d38_31) rfl ((if0 _ _).trans (tlt hk).2.1) kx) ?_
      show OwnOk p e below _ (T11.setTop (mkF m 34 #[.val (.int x), .val (.int (Int32.ofNat (own_sz x))), .val (.int (Int32.ofNat j)), .val (.long (Int64.ofNat (own_ab x))), .second, .val (.int (Int32.ofNat (own_sz x - 1))), .unset, .unset, .unset, .unset] []))
      refine own_up (fun tx kx => XS.iloadN X11.here hx rfl (hb hby d38_34) rfl kx) ?_
      show OwnOk p e below _ (T11.setTop (mkF m 35 #[.val (.int x), .val (.int (Int32.ofNat (own_sz x))), .val (.int (Int32.ofNat j)), .val (.long (Int64.ofNat (own_ab x))), .second, .val (.int (Int32.ofNat (own_sz x - 1))), .unset, .unset, .unset, .unset] [(.int (Int32.ofNat j))]))
      refine own_up (fun tx kx => XS.iconst X11.here hx rfl (hb hby d38_35) kx) ?_
      show OwnOk p e below _ (T11.setTop (mkF m 36 #[.val (.int x), .val (.int (Int32.ofNat (own_sz x))), .val (.int (Int32.ofNat j)), .val (.long (Int64.ofNat (own_ab x))), .second, .val (.int (Int32.ofNat (own_sz x - 1))), .unset, .unset, .unset, .unset] [(.int (1 : Int32)), (.int (Int32.ofNat j))]))
      refine own_up (fun tx kx => XS.isub X11.here hx rfl (hb hby d38_36) rfl kx) ?_
      show OwnOk p e below _ (T11.setTop (mkF m 37 #[.val (.int x), .val (.int (Int32.ofNat (own_sz x))), .val (.int (Int32.ofNat j)), .val (.long (Int64.ofNat (own_ab x))), .second, .val (.int (Int32.ofNat (own_sz x - 1))), .unset, .unset, .unset, .unset] [(.int ((Int32.ofNat j) - (1 : Int32)))]))
      rw [show ((Int32.ofNat j) - (1 : Int32)) = (Int32.ofNat (j - 1)) from (Int32.ofNat_sub j 1 hj1).symm]
      show OwnOk p e below _ (T11.setTop (mkF m 37 #[.val (.int x), .val (.int (Int32.ofNat (own_sz x))), .val (.int (Int32.ofNat j)), .val (.long (Int64.ofNat (own_ab x))), .second, .val (.int (Int32.ofNat (own_sz x - 1))), .unset, .unset, .unset, .unset] [(.int (Int32.ofNat (j - 1)))]))
      refine own_up (fun tx kx => XS.goto X11.here hx rfl (pc0 := 37) (pc' := 41) rfl (hb hby d38_37) (by decide) (by decide) kx) ?_
      show OwnOk p e below _ (T11.setTop (mkF m 41 #[.val (.int x), .val (.int (Int32.ofNat (own_sz x))), .val (.int (Int32.ofNat j)), .val (.long (Int64.ofNat (own_ab x))), .second, .val (.int (Int32.ofNat (own_sz x - 1))), .unset, .unset, .unset, .unset] [(.int (Int32.ofNat (j - 1)))]))
      refine own_up (fun tx kx => XS.istore X11.here hx rfl (hb hby d38_41) rfl (l' := #[.val (.int x), .val (.int (Int32.ofNat (own_sz x))), .val (.int (Int32.ofNat j)), .val (.long (Int64.ofNat (own_ab x))), .second, .val (.int (Int32.ofNat (own_sz x - 1))), .val (.int (Int32.ofNat (j - 1))), .unset, .unset, .unset]) rfl kx) ?_
      show OwnOk p e below _ (T11.setTop (mkF m 43 #[.val (.int x), .val (.int (Int32.ofNat (own_sz x))), .val (.int (Int32.ofNat j)), .val (.long (Int64.ofNat (own_ab x))), .second, .val (.int (Int32.ofNat (own_sz x - 1))), .val (.int (Int32.ofNat (j - 1))), .unset, .unset, .unset] []))
      refine own_up (fun tx kx => XS.iload X11.here hx rfl (hb hby d38_43) rfl kx) ?_
      show OwnOk p e below _ (T11.setTop (mkF m 45 #[.val (.int x), .val (.int (Int32.ofNat (own_sz x))), .val (.int (Int32.ofNat j)), .val (.long (Int64.ofNat (own_ab x))), .second, .val (.int (Int32.ofNat (own_sz x - 1))), .val (.int (Int32.ofNat (j - 1))), .unset, .unset, .unset] [(.int (Int32.ofNat (own_sz x - 1)))]))
      refine own_up (fun tx kx => XS.iconst X11.here hx rfl (hb hby d38_45) kx) ?_
      show OwnOk p e below _ (T11.setTop (mkF m 46 #[.val (.int x), .val (.int (Int32.ofNat (own_sz x))), .val (.int (Int32.ofNat j)), .val (.long (Int64.ofNat (own_ab x))), .second, .val (.int (Int32.ofNat (own_sz x - 1))), .val (.int (Int32.ofNat (j - 1))), .unset, .unset, .unset] [(.int (1 : Int32)), (.int (Int32.ofNat (own_sz x - 1)))]))
      refine own_up (fun tx kx => XS.isub X11.here hx rfl (hb hby d38_46) rfl kx) ?_
      show OwnOk p e below _ (T11.setTop (mkF m 47 #[.val (.int x), .val (.int (Int32.ofNat (own_sz x))), .val (.int (Int32.ofNat j)), .val (.long (Int64.ofNat (own_ab x))), .second, .val (.int (Int32.ofNat (own_sz x - 1))), .val (.int (Int32.ofNat (j - 1))), .unset, .unset, .unset] [(.int ((Int32.ofNat (own_sz x - 1)) - (1 : Int32)))]))
      rw [show ((Int32.ofNat (own_sz x - 1)) - (1 : Int32)) = (Int32.ofNat (own_sz x - 1 - 1)) from (Int32.ofNat_sub (own_sz x - 1) 1 (by omega)).symm]
      show OwnOk p e below _ (T11.setTop (mkF m 47 #[.val (.int x), .val (.int (Int32.ofNat (own_sz x))), .val (.int (Int32.ofNat j)), .val (.long (Int64.ofNat (own_ab x))), .second, .val (.int (Int32.ofNat (own_sz x - 1))), .val (.int (Int32.ofNat (j - 1))), .unset, .unset, .unset] [(.int (Int32.ofNat (own_sz x - 1 - 1)))]))
      refine own_up (fun tx kx => XS.iload X11.here hx rfl (hb hby d38_47) rfl kx) ?_
      show OwnOk p e below _ (T11.setTop (mkF m 49 #[.val (.int x), .val (.int (Int32.ofNat (own_sz x))), .val (.int (Int32.ofNat j)), .val (.long (Int64.ofNat (own_ab x))), .second, .val (.int (Int32.ofNat (own_sz x - 1))), .val (.int (Int32.ofNat (j - 1))), .unset, .unset, .unset] [(.int (Int32.ofNat (j - 1))), (.int (Int32.ofNat (own_sz x - 1 - 1)))]))
      refine own_up (fun tx kx => XS.isub X11.here hx rfl (hb hby d38_49) rfl kx) ?_
      show OwnOk p e below _ (T11.setTop (mkF m 50 #[.val (.int x), .val (.int (Int32.ofNat (own_sz x))), .val (.int (Int32.ofNat j)), .val (.long (Int64.ofNat (own_ab x))), .second, .val (.int (Int32.ofNat (own_sz x - 1))), .val (.int (Int32.ofNat (j - 1))), .unset, .unset, .unset] [(.int ((Int32.ofNat (own_sz x - 1 - 1)) - (Int32.ofNat (j - 1))))]))
      rw [show ((Int32.ofNat (own_sz x - 1 - 1)) - (Int32.ofNat (j - 1))) = (Int32.ofNat (own_sz x - 1 - j)) from (show (Int32.ofNat (own_sz x - 1 - 1)) - (Int32.ofNat (j - 1)) = Int32.ofNat (own_sz x - 1 - j) by rw [← Int32.ofNat_sub _ _ (by omega)]; congr 1; omega)]
      show OwnOk p e below _ (T11.setTop (mkF m 50 #[.val (.int x), .val (.int (Int32.ofNat (own_sz x))), .val (.int (Int32.ofNat j)), .val (.long (Int64.ofNat (own_ab x))), .second, .val (.int (Int32.ofNat (own_sz x - 1))), .val (.int (Int32.ofNat (j - 1))), .unset, .unset, .unset] [(.int (Int32.ofNat (own_sz x - 1 - j)))]))
      refine own_callS X11 hx hZ (y := (⟨"com/example/winnower/winnower/narrowing/PairToStringPinLaw", "pow10", "(I)J"⟩ : MethodName)) hown (wd_204 hw) (wd_205 hw) (wd_161 hw) (wd_206 hw) (by decide) (l_pow10 l Z a0 hw (own_sz x - 1 - j) h0 n0 OL he) hh11 (argsL := [(.int (Int32.ofNat (own_sz x - 1 - j)))]) (rest := []) (by rw [hml]; rfl) (lenOf pd_21 rfl) rfl rfl (W := 0) rfl (hb hby d38_50) (by decide) (by decide) (by decide) (by decide) (fun T12 v12 L12 X12 hQ12 => ?_)
      obtain ⟨rfl, Nq12, hh12⟩ := hQ12
      have N12 := Fr.app N11 Nq12
      show OwnOk p e below _ (T12.setTop (mkF m 53 #[.val (.int x), .val (.int (Int32.ofNat (own_sz x))), .val (.int (Int32.ofNat j)), .val (.long (Int64.ofNat (own_ab x))), .second, .val (.int (Int32.ofNat (own_sz x - 1))), .val (.int (Int32.ofNat (j - 1))), .unset, .unset, .unset] [(.long (Int64.ofNat (10 ^ (own_sz x - 1 - j))))]))
      refine own_up (fun tx kx => XS.lstore X12.here hx rfl (hb hby d38_53) rfl (l' := #[.val (.int x), .val (.int (Int32.ofNat (own_sz x))), .val (.int (Int32.ofNat j)), .val (.long (Int64.ofNat (own_ab x))), .second, .val (.int (Int32.ofNat (own_sz x - 1))), .val (.int (Int32.ofNat (j - 1))), .val (.long (Int64.ofNat (10 ^ (own_sz x - 1 - j)))), .second, .unset]) rfl kx) ?_
      show OwnOk p e below _ (T12.setTop (mkF m 55 #[.val (.int x), .val (.int (Int32.ofNat (own_sz x))), .val (.int (Int32.ofNat j)), .val (.long (Int64.ofNat (own_ab x))), .second, .val (.int (Int32.ofNat (own_sz x - 1))), .val (.int (Int32.ofNat (j - 1))), .val (.long (Int64.ofNat (10 ^ (own_sz x - 1 - j)))), .second, .unset] []))
      refine own_up (fun tx kx => XS.lloadN X12.here hx rfl (hb hby d38_55) rfl kx) ?_
      show OwnOk p e below _ (T12.setTop (mkF m 56 #[.val (.int x), .val (.int (Int32.ofNat (own_sz x))), .val (.int (Int32.ofNat j)), .val (.long (Int64.ofNat (own_ab x))), .second, .val (.int (Int32.ofNat (own_sz x - 1))), .val (.int (Int32.ofNat (j - 1))), .val (.long (Int64.ofNat (10 ^ (own_sz x - 1 - j)))), .second, .unset] [(.long (Int64.ofNat (own_ab x)))]))
      refine own_up (fun tx kx => XS.lload X12.here hx rfl (hb hby d38_56) rfl kx) ?_
      show OwnOk p e below _ (T12.setTop (mkF m 58 #[.val (.int x), .val (.int (Int32.ofNat (own_sz x))), .val (.int (Int32.ofNat j)), .val (.long (Int64.ofNat (own_ab x))), .second, .val (.int (Int32.ofNat (own_sz x - 1))), .val (.int (Int32.ofNat (j - 1))), .val (.long (Int64.ofNat (10 ^ (own_sz x - 1 - j)))), .second, .unset] [(.long (Int64.ofNat (10 ^ (own_sz x - 1 - j)))), (.long (Int64.ofNat (own_ab x)))]))
      refine own_up (fun tx kx => own_ldiv (g := (mkF m 58 #[.val (.int x), .val (.int (Int32.ofNat (own_sz x))), .val (.int (Int32.ofNat j)), .val (.long (Int64.ofNat (own_ab x))), .second, .val (.int (Int32.ofNat (own_sz x - 1))), .val (.int (Int32.ofNat (j - 1))), .val (.long (Int64.ofNat (10 ^ (own_sz x - 1 - j)))), .second, .unset] [(.long (Int64.ofNat (10 ^ (own_sz x - 1 - j)))), (.long (Int64.ofNat (own_ab x)))])) X12 hx rfl (hb hby d38_58) rfl (own_pow_nz _ he) kx) ?_
      show OwnOk p e below _ (T12.setTop (mkF m 59 #[.val (.int x), .val (.int (Int32.ofNat (own_sz x))), .val (.int (Int32.ofNat j)), .val (.long (Int64.ofNat (own_ab x))), .second, .val (.int (Int32.ofNat (own_sz x - 1))), .val (.int (Int32.ofNat (j - 1))), .val (.long (Int64.ofNat (10 ^ (own_sz x - 1 - j)))), .second, .unset] [(.long ((Int64.ofNat (own_ab x)) / (Int64.ofNat (10 ^ (own_sz x - 1 - j)))))]))
      refine own_up (fun tx kx => X12.ldc2Long hx hown (mvT hZ (wd_169 hw)) (g := (mkF m 59 #[.val (.int x), .val (.int (Int32.ofNat (own_sz x))), .val (.int (Int32.ofNat j)), .val (.long (Int64.ofNat (own_ab x))), .second, .val (.int (Int32.ofNat (own_sz x - 1))), .val (.int (Int32.ofNat (j - 1))), .val (.long (Int64.ofNat (10 ^ (own_sz x - 1 - j)))), .second, .unset] [(.long ((Int64.ofNat (own_ab x)) / (Int64.ofNat (10 ^ (own_sz x - 1 - j)))))])) rfl (hb hby d38_59) _ kx) ?_
      show OwnOk p e below _ (T12.setTop (mkF m 62 #[.val (.int x), .val (.int (Int32.ofNat (own_sz x))), .val (.int (Int32.ofNat j)), .val (.long (Int64.ofNat (own_ab x))), .second, .val (.int (Int32.ofNat (own_sz x - 1))), .val (.int (Int32.ofNat (j - 1))), .val (.long (Int64.ofNat (10 ^ (own_sz x - 1 - j)))), .second, .unset] [(.long (10 : Int64)), (.long ((Int64.ofNat (own_ab x)) / (Int64.ofNat (10 ^ (own_sz x - 1 - j)))))]))
      refine own_up (fun tx kx => own_lrem (g := (mkF m 62 #[.val (.int x), .val (.int (Int32.ofNat (own_sz x))), .val (.int (Int32.ofNat j)), .val (.long (Int64.ofNat (own_ab x))), .second, .val (.int (Int32.ofNat (own_sz x - 1))), .val (.int (Int32.ofNat (j - 1))), .val (.long (Int64.ofNat (10 ^ (own_sz x - 1 - j)))), .second, .unset] [(.long (10 : Int64)), (.long ((Int64.ofNat (own_ab x)) / (Int64.ofNat (10 ^ (own_sz x - 1 - j)))))])) X12 hx rfl (hb hby d38_62) rfl (by decide) kx) ?_
      show OwnOk p e below _ (T12.setTop (mkF m 63 #[.val (.int x), .val (.int (Int32.ofNat (own_sz x))), .val (.int (Int32.ofNat j)), .val (.long (Int64.ofNat (own_ab x))), .second, .val (.int (Int32.ofNat (own_sz x - 1))), .val (.int (Int32.ofNat (j - 1))), .val (.long (Int64.ofNat (10 ^ (own_sz x - 1 - j)))), .second, .unset] [(.long (((Int64.ofNat (own_ab x)) / (Int64.ofNat (10 ^ (own_sz x - 1 - j)))) % (10 : Int64)))]))
      refine own_up (fun tx kx => XS.l2i X12.here hx rfl (hb hby d38_63) rfl kx) ?_
      show OwnOk p e below _ (T12.setTop (mkF m 64 #[.val (.int x), .val (.int (Int32.ofNat (own_sz x))), .val (.int (Int32.ofNat j)), .val (.long (Int64.ofNat (own_ab x))), .second, .val (.int (Int32.ofNat (own_sz x - 1))), .val (.int (Int32.ofNat (j - 1))), .val (.long (Int64.ofNat (10 ^ (own_sz x - 1 - j)))), .second, .unset] [(.int ((((Int64.ofNat (own_ab x)) / (Int64.ofNat (10 ^ (own_sz x - 1 - j)))) % (10 : Int64)).toInt32))]))
      refine own_up (fun tx kx => XS.istore X12.here hx rfl (hb hby d38_64) rfl (l' := #[.val (.int x), .val (.int (Int32.ofNat (own_sz x))), .val (.int (Int32.ofNat j)), .val (.long (Int64.ofNat (own_ab x))), .second, .val (.int (Int32.ofNat (own_sz x - 1))), .val (.int (Int32.ofNat (j - 1))), .val (.long (Int64.ofNat (10 ^ (own_sz x - 1 - j)))), .second, .val (.int ((((Int64.ofNat (own_ab x)) / (Int64.ofNat (10 ^ (own_sz x - 1 - j)))) % (10 : Int64)).toInt32))]) rfl kx) ?_
      show OwnOk p e below _ (T12.setTop (mkF m 66 #[.val (.int x), .val (.int (Int32.ofNat (own_sz x))), .val (.int (Int32.ofNat j)), .val (.long (Int64.ofNat (own_ab x))), .second, .val (.int (Int32.ofNat (own_sz x - 1))), .val (.int (Int32.ofNat (j - 1))), .val (.long (Int64.ofNat (10 ^ (own_sz x - 1 - j)))), .second, .val (.int ((((Int64.ofNat (own_ab x)) / (Int64.ofNat (10 ^ (own_sz x - 1 - j)))) % (10 : Int64)).toInt32))] []))
      refine own_up (fun tx kx => XS.bipush X12.here hx rfl (hb hby d38_66) kx) ?_
      show OwnOk p e below _ (T12.setTop (mkF m 68 #[.val (.int x), .val (.int (Int32.ofNat (own_sz x))), .val (.int (Int32.ofNat j)), .val (.long (Int64.ofNat (own_ab x))), .second, .val (.int (Int32.ofNat (own_sz x - 1))), .val (.int (Int32.ofNat (j - 1))), .val (.long (Int64.ofNat (10 ^ (own_sz x - 1 - j)))), .second, .val (.int ((((Int64.ofNat (own_ab x)) / (Int64.ofNat (10 ^ (own_sz x - 1 - j)))) % (10 : Int64)).toInt32))] [(.int (48 : Int32))]))
      refine own_up (fun tx kx => XS.iload X12.here hx rfl (hb hby d38_68) rfl kx) ?_
      show OwnOk p e below _ (T12.setTop (mkF m 70 #[.val (.int x), .val (.int (Int32.ofNat (own_sz x))), .val (.int (Int32.ofNat j)), .val (.long (Int64.ofNat (own_ab x))), .second, .val (.int (Int32.ofNat (own_sz x - 1))), .val (.int (Int32.ofNat (j - 1))), .val (.long (Int64.ofNat (10 ^ (own_sz x - 1 - j)))), .second, .val (.int ((((Int64.ofNat (own_ab x)) / (Int64.ofNat (10 ^ (own_sz x - 1 - j)))) % (10 : Int64)).toInt32))] [(.int ((((Int64.ofNat (own_ab x)) / (Int64.ofNat (10 ^ (own_sz x - 1 - j)))) % (10 : Int64)).toInt32)), (.int (48 : Int32))]))
      refine own_up (fun tx kx => XS.iadd X12.here hx rfl (hb hby d38_70) rfl kx) ?_
      show OwnOk p e below _ (T12.setTop (mkF m 71 #[.val (.int x), .val (.int (Int32.ofNat (own_sz x))), .val (.int (Int32.ofNat j)), .val (.long (Int64.ofNat (own_ab x))), .second, .val (.int (Int32.ofNat (own_sz x - 1))), .val (.int (Int32.ofNat (j - 1))), .val (.long (Int64.ofNat (10 ^ (own_sz x - 1 - j)))), .second, .val (.int ((((Int64.ofNat (own_ab x)) / (Int64.ofNat (10 ^ (own_sz x - 1 - j)))) % (10 : Int64)).toInt32))] [(.int ((48 : Int32) + ((((Int64.ofNat (own_ab x)) / (Int64.ofNat (10 ^ (own_sz x - 1 - j)))) % (10 : Int64)).toInt32)))]))
      refine own_up (fun tx kx => XS.i2c X12.here hx rfl (hb hby d38_71) rfl kx) ?_
      show OwnOk p e below _ (T12.setTop (mkF m 72 #[.val (.int x), .val (.int (Int32.ofNat (own_sz x))), .val (.int (Int32.ofNat j)), .val (.long (Int64.ofNat (own_ab x))), .second, .val (.int (Int32.ofNat (own_sz x - 1))), .val (.int (Int32.ofNat (j - 1))), .val (.long (Int64.ofNat (10 ^ (own_sz x - 1 - j)))), .second, .val (.int ((((Int64.ofNat (own_ab x)) / (Int64.ofNat (10 ^ (own_sz x - 1 - j)))) % (10 : Int64)).toInt32))] [(.int (((48 : Int32) + ((((Int64.ofNat (own_ab x)) / (Int64.ofNat (10 ^ (own_sz x - 1 - j)))) % (10 : Int64)).toInt32)).toUInt32.toUInt16.toUInt32.toInt32))]))
      refine own_retN X12 hx (t := .char) (show meth.sig.returnType = some .char from hret) (by simp) hlk (hb hby d38_72) (z' := own_dg (own_ab x) x j) (by have hp := own_pow_lt _ he; have ha := own_ab_le x; rw [hdg, own_div64 (by omega) hp, show (10 : Int64) = Int64.ofNat 10 from rfl, own_mod64 (Nat.lt_of_le_of_lt (Nat.div_le_self _ _) (by omega)) (by decide)]; exact own_digC _ (Nat.mod_lt _ (by decide))) hh12 (Nat.le_of_ble_eq_true rfl) (Nat.le_of_ble_eq_true rfl) ?_
      exact ⟨rfl, N12, rfl⟩
  · refine own_up (fun tx kx => XS.ifYes X0.here hx rfl (pc0 := 1) (pc' := 11) rfl (hb hby d38_1) rfl ((if0 _ _).trans (flt hk).2.1) (by decide) (by decide) kx) ?_
    show OwnOk p e below _ (s₁.setTop (mkF m 11 #[.val (.int x), .val (.int (Int32.ofNat (own_sz x))), .val (.int (Int32.ofNat j)), .unset, .unset, .unset, .unset, .unset, .unset, .unset] []))
    rw [if_neg hk] at hsg
    have he : (own_sz x - 1 - j) ≤ 9 := by omega
    have hdg : own_dg (own_ab x) x j = Int32.ofNat (48 + own_ab x / 10 ^ (own_sz x - 1 - j) % 10) := by unfold own_dg; rw [if_neg (fun q => hk q.2)]; rfl
    show OwnOk p e below _ (s₁.setTop (mkF m 11 #[.val (.int x), .val (.int (Int32.ofNat (own_sz x))), .val (.int (Int32.ofNat j)), .unset, .unset, .unset, .unset, .unset, .unset, .unset] []))
    refine own_up (fun tx kx => XS.iloadN X0.here hx rfl (hb hby d38_11) rfl kx) ?_
    show OwnOk p e below _ (s₁.setTop (mkF m 12 #[.val (.int x), .val (.int (Int32.ofNat (own_sz x))), .val (.int (Int32.ofNat j)), .unset, .unset, .unset, .unset, .unset, .unset, .unset] [(.int x)]))
    refine own_up (fun tx kx => XS.i2l X0.here hx rfl (hb hby d38_12) rfl kx) ?_
    show OwnOk p e below _ (s₁.setTop (mkF m 13 #[.val (.int x), .val (.int (Int32.ofNat (own_sz x))), .val (.int (Int32.ofNat j)), .unset, .unset, .unset, .unset, .unset, .unset, .unset] [(.long (x.toInt64))]))
    refine own_callS X0 hx hZ (y := (⟨"java/lang/Math", "abs", "(J)J"⟩ : MethodName)) hown (wd_163 hw) (wd_164 hw) (wd_156 hw) (wd_165 hw) (by decide) (l_abs l Z a0 hw (x.toInt64) h0 n0 OL) e0 (argsL := [(.long (x.toInt64))]) (rest := []) (by rw [hml]; rfl) (lenOf pd_19 rfl) rfl rfl (W := 0) rfl (hb hby d38_13) (by decide) (by decide) (by decide) (by decide) (fun T13 v13 L13 X13 hQ13 => ?_)
    obtain ⟨rfl, Nq13, hh13⟩ := hQ13
    have N13 := Fr.app N0 Nq13
    show OwnOk p e below _ (T13.setTop (mkF m 16 #[.val (.int x), .val (.int (Int32.ofNat (own_sz x))), .val (.int (Int32.ofNat j)), .unset, .unset, .unset, .unset, .unset, .unset, .unset] [(.long (if (x.toInt64) < 0 then -(x.toInt64) else (x.toInt64)))]))
    rw [show (if (x.toInt64) < 0 then -(x.toInt64) else (x.toInt64)) = (Int64.ofNat (own_ab x)) from own_abJ x]
    show OwnOk p e below _ (T13.setTop (mkF m 16 #[.val (.int x), .val (.int (Int32.ofNat (own_sz x))), .val (.int (Int32.ofNat j)), .unset, .unset, .unset, .unset, .unset, .unset, .unset] [(.long (Int64.ofNat (own_ab x)))]))
    refine own_up (fun tx kx => XS.lstoreN X13.here hx rfl (hb hby d38_16) rfl (l' := #[.val (.int x), .val (.int (Int32.ofNat (own_sz x))), .val (.int (Int32.ofNat j)), .val (.long (Int64.ofNat (own_ab x))), .second, .unset, .unset, .unset, .unset, .unset]) rfl kx) ?_
    show OwnOk p e below _ (T13.setTop (mkF m 17 #[.val (.int x), .val (.int (Int32.ofNat (own_sz x))), .val (.int (Int32.ofNat j)), .val (.long (Int64.ofNat (own_ab x))), .second, .unset, .unset, .unset, .unset, .unset] []))
    refine own_up (fun tx kx => XS.iloadN X13.here hx rfl (hb hby d38_17) rfl kx) ?_
    show OwnOk p e below _ (T13.setTop (mkF m 18 #[.val (.int x), .val (.int (Int32.ofNat (own_sz x))), .val (.int (Int32.ofNat j)), .val (.long (Int64.ofNat (own_ab x))), .second, .unset, .unset, .unset, .unset, .unset] [(.int x)]))
    refine own_up (fun tx kx => XS.ifYes X13.here hx rfl (pc0 := 18) (pc' := 27) rfl (hb hby d38_18) rfl ((if0 _ _).trans (flt hk).2.1) (by decide) (by decide) kx) ?_
    show OwnOk p e below _ (T13.setTop (mkF m 27 #[.val (.int x), .val (.int (Int32.ofNat (own_sz x))), .val (.int (Int32.ofNat j)), .val (.long (Int64.ofNat (own_ab x))), .second, .unset, .unset, .unset, .unset, .unset] []))
    refine own_up (fun tx kx => XS.iloadN X13.here hx rfl (hb hby d38_27) rfl kx) ?_
    show OwnOk p e below _ (T13.setTop (mkF m 28 #[.val (.int x), .val (.int (Int32.ofNat (own_sz x))), .val (.int (Int32.ofNat j)), .val (.long (Int64.ofNat (own_ab x))), .second, .unset, .unset, .unset, .unset, .unset] [(.int (Int32.ofNat (own_sz x)))]))
    refine own_up (fun tx kx => XS.istore X13.here hx rfl (hb hby d38_28) rfl (l' := #[.val (.int x), .val (.int (Int32.ofNat (own_sz x))), .val (.int (Int32.ofNat j)), .val (.long (Int64.ofNat (own_ab x))), .second, .val (.int (Int32.ofNat (own_sz x))), .unset, .unset, .unset, .unset]) rfl kx) ?_
    show OwnOk p e below _ (T13.setTop (mkF m 30 #[.val (.int x), .val (.int (Int32.ofNat (own_sz x))), .val (.int (Int32.ofNat j)), .val (.long (Int64.ofNat (own_ab x))), .second, .val (.int (Int32.ofNat (own_sz x))), .unset, .unset, .unset, .unset] []))
    refine own_up (fun tx kx => XS.iloadN X13.here hx rfl (hb hby d38_30) rfl kx) ?_
    show OwnOk p e below _ (T13.setTop (mkF m 31 #[.val (.int x), .val (.int (Int32.ofNat (own_sz x))), .val (.int (Int32.ofNat j)), .val (.long (Int64.ofNat (own_ab x))), .second, .val (.int (Int32.ofNat (own_sz x))), .unset, .unset, .unset, .unset] [(.int x)]))
    refine own_up (fun tx kx => XS.ifYes X13.here hx rfl (pc0 := 31) (pc' := 40) rfl (hb hby d38_31) rfl ((if0 _ _).trans (flt hk).2.1) (by decide) (by decide) kx) ?_
    show OwnOk p e below _ (T13.setTop (mkF m 40 #[.val (.int x), .val (.int (Int32.ofNat (own_sz x))), .val (.int (Int32.ofNat j)), .val (.long (Int64.ofNat (own_ab x))), .second, .val (.int (Int32.ofNat (own_sz x))), .unset, .unset, .unset, .unset] []))
    refine own_up (fun tx kx => XS.iloadN X13.here hx rfl (hb hby d38_40) rfl kx) ?_
    show OwnOk p e below _ (T13.setTop (mkF m 41 #[.val (.int x), .val (.int (Int32.ofNat (own_sz x))), .val (.int (Int32.ofNat j)), .val (.long (Int64.ofNat (own_ab x))), .second, .val (.int (Int32.ofNat (own_sz x))), .unset, .unset, .unset, .unset] [(.int (Int32.ofNat j))]))
    refine own_up (fun tx kx => XS.istore X13.here hx rfl (hb hby d38_41) rfl (l' := #[.val (.int x), .val (.int (Int32.ofNat (own_sz x))), .val (.int (Int32.ofNat j)), .val (.long (Int64.ofNat (own_ab x))), .second, .val (.int (Int32.ofNat (own_sz x))), .val (.int (Int32.ofNat j)), .unset, .unset, .unset]) rfl kx) ?_
    show OwnOk p e below _ (T13.setTop (mkF m 43 #[.val (.int x), .val (.int (Int32.ofNat (own_sz x))), .val (.int (Int32.ofNat j)), .val (.long (Int64.ofNat (own_ab x))), .second, .val (.int (Int32.ofNat (own_sz x))), .val (.int (Int32.ofNat j)), .unset, .unset, .unset] []))
    refine own_up (fun tx kx => XS.iload X13.here hx rfl (hb hby d38_43) rfl kx) ?_
    show OwnOk p e below _ (T13.setTop (mkF m 45 #[.val (.int x), .val (.int (Int32.ofNat (own_sz x))), .val (.int (Int32.ofNat j)), .val (.long (Int64.ofNat (own_ab x))), .second, .val (.int (Int32.ofNat (own_sz x))), .val (.int (Int32.ofNat j)), .unset, .unset, .unset] [(.int (Int32.ofNat (own_sz x)))]))
    refine own_up (fun tx kx => XS.iconst X13.here hx rfl (hb hby d38_45) kx) ?_
    show OwnOk p e below _ (T13.setTop (mkF m 46 #[.val (.int x), .val (.int (Int32.ofNat (own_sz x))), .val (.int (Int32.ofNat j)), .val (.long (Int64.ofNat (own_ab x))), .second, .val (.int (Int32.ofNat (own_sz x))), .val (.int (Int32.ofNat j)), .unset, .unset, .unset] [(.int (1 : Int32)), (.int (Int32.ofNat (own_sz x)))]))
    refine own_up (fun tx kx => XS.isub X13.here hx rfl (hb hby d38_46) rfl kx) ?_
    show OwnOk p e below _ (T13.setTop (mkF m 47 #[.val (.int x), .val (.int (Int32.ofNat (own_sz x))), .val (.int (Int32.ofNat j)), .val (.long (Int64.ofNat (own_ab x))), .second, .val (.int (Int32.ofNat (own_sz x))), .val (.int (Int32.ofNat j)), .unset, .unset, .unset] [(.int ((Int32.ofNat (own_sz x)) - (1 : Int32)))]))
    rw [show ((Int32.ofNat (own_sz x)) - (1 : Int32)) = (Int32.ofNat (own_sz x - 1)) from (Int32.ofNat_sub (own_sz x) 1 (by omega)).symm]
    show OwnOk p e below _ (T13.setTop (mkF m 47 #[.val (.int x), .val (.int (Int32.ofNat (own_sz x))), .val (.int (Int32.ofNat j)), .val (.long (Int64.ofNat (own_ab x))), .second, .val (.int (Int32.ofNat (own_sz x))), .val (.int (Int32.ofNat j)), .unset, .unset, .unset] [(.int (Int32.ofNat (own_sz x - 1)))]))
    refine own_up (fun tx kx => XS.iload X13.here hx rfl (hb hby d38_47) rfl kx) ?_
    show OwnOk p e below _ (T13.setTop (mkF m 49 #[.val (.int x), .val (.int (Int32.ofNat (own_sz x))), .val (.int (Int32.ofNat j)), .val (.long (Int64.ofNat (own_ab x))), .second, .val (.int (Int32.ofNat (own_sz x))), .val (.int (Int32.ofNat j)), .unset, .unset, .unset] [(.int (Int32.ofNat j)), (.int (Int32.ofNat (own_sz x - 1)))]))
    refine own_up (fun tx kx => XS.isub X13.here hx rfl (hb hby d38_49) rfl kx) ?_
    show OwnOk p e below _ (T13.setTop (mkF m 50 #[.val (.int x), .val (.int (Int32.ofNat (own_sz x))), .val (.int (Int32.ofNat j)), .val (.long (Int64.ofNat (own_ab x))), .second, .val (.int (Int32.ofNat (own_sz x))), .val (.int (Int32.ofNat j)), .unset, .unset, .unset] [(.int ((Int32.ofNat (own_sz x - 1)) - (Int32.ofNat j)))]))
    rw [show ((Int32.ofNat (own_sz x - 1)) - (Int32.ofNat j)) = (Int32.ofNat (own_sz x - 1 - j)) from (Int32.ofNat_sub (own_sz x - 1) j (by omega)).symm]
    show OwnOk p e below _ (T13.setTop (mkF m 50 #[.val (.int x), .val (.int (Int32.ofNat (own_sz x))), .val (.int (Int32.ofNat j)), .val (.long (Int64.ofNat (own_ab x))), .second, .val (.int (Int32.ofNat (own_sz x))), .val (.int (Int32.ofNat j)), .unset, .unset, .unset] [(.int (Int32.ofNat (own_sz x - 1 - j)))]))
    refine own_callS X13 hx hZ (y := (⟨"com/example/winnower/winnower/narrowing/PairToStringPinLaw", "pow10", "(I)J"⟩ : MethodName)) hown (wd_204 hw) (wd_205 hw) (wd_161 hw) (wd_206 hw) (by decide) (l_pow10 l Z a0 hw (own_sz x - 1 - j) h0 n0 OL he) hh13 (argsL := [(.int (Int32.ofNat (own_sz x - 1 - j)))]) (rest := []) (by rw [hml]; rfl) (lenOf pd_21 rfl) rfl rfl (W := 0) rfl (hb hby d38_50) (by decide) (by decide) (by decide) (by decide) (fun T14 v14 L14 X14 hQ14 => ?_)
    obtain ⟨rfl, Nq14, hh14⟩ := hQ14
    have N14 := Fr.app N13 Nq14
    show OwnOk p e below _ (T14.setTop (mkF m 53 #[.val (.int x), .val (.int (Int32.ofNat (own_sz x))), .val (.int (Int32.ofNat j)), .val (.long (Int64.ofNat (own_ab x))), .second, .val (.int (Int32.ofNat (own_sz x))), .val (.int (Int32.ofNat j)), .unset, .unset, .unset] [(.long (Int64.ofNat (10 ^ (own_sz x - 1 - j))))]))
    refine own_up (fun tx kx => XS.lstore X14.here hx rfl (hb hby d38_53) rfl (l' := #[.val (.int x), .val (.int (Int32.ofNat (own_sz x))), .val (.int (Int32.ofNat j)), .val (.long (Int64.ofNat (own_ab x))), .second, .val (.int (Int32.ofNat (own_sz x))), .val (.int (Int32.ofNat j)), .val (.long (Int64.ofNat (10 ^ (own_sz x - 1 - j)))), .second, .unset]) rfl kx) ?_
    show OwnOk p e below _ (T14.setTop (mkF m 55 #[.val (.int x), .val (.int (Int32.ofNat (own_sz x))), .val (.int (Int32.ofNat j)), .val (.long (Int64.ofNat (own_ab x))), .second, .val (.int (Int32.ofNat (own_sz x))), .val (.int (Int32.ofNat j)), .val (.long (Int64.ofNat (10 ^ (own_sz x - 1 - j)))), .second, .unset] []))
    refine own_up (fun tx kx => XS.lloadN X14.here hx rfl (hb hby d38_55) rfl kx) ?_
    show OwnOk p e below _ (T14.setTop (mkF m 56 #[.val (.int x), .val (.int (Int32.ofNat (own_sz x))), .val (.int (Int32.ofNat j)), .val (.long (Int64.ofNat (own_ab x))), .second, .val (.int (Int32.ofNat (own_sz x))), .val (.int (Int32.ofNat j)), .val (.long (Int64.ofNat (10 ^ (own_sz x - 1 - j)))), .second, .unset] [(.long (Int64.ofNat (own_ab x)))]))
    refine own_up (fun tx kx => XS.lload X14.here hx rfl (hb hby d38_56) rfl kx) ?_
    show OwnOk p e below _ (T14.setTop (mkF m 58 #[.val (.int x), .val (.int (Int32.ofNat (own_sz x))), .val (.int (Int32.ofNat j)), .val (.long (Int64.ofNat (own_ab x))), .second, .val (.int (Int32.ofNat (own_sz x))), .val (.int (Int32.ofNat j)), .val (.long (Int64.ofNat (10 ^ (own_sz x - 1 - j)))), .second, .unset] [(.long (Int64.ofNat (10 ^ (own_sz x - 1 - j)))), (.long (Int64.ofNat (own_ab x)))]))
    refine own_up (fun tx kx => own_ldiv (g := (mkF m 58 #[.val (.int x), .val (.int (Int32.ofNat (own_sz x))), .val (.int (Int32.ofNat j)), .val (.long (Int64.ofNat (own_ab x))), .second, .val (.int (Int32.ofNat (own_sz x))), .val (.int (Int32.ofNat j)), .val (.long (Int64.ofNat (10 ^ (own_sz x - 1 - j)))), .second, .unset] [(.long (Int64.ofNat (10 ^ (own_sz x - 1 - j)))), (.long (Int64.ofNat (own_ab x)))])) X14 hx rfl (hb hby d38_58) rfl (own_pow_nz _ he) kx) ?_
    show OwnOk p e below _ (T14.setTop (mkF m 59 #[.val (.int x), .val (.int (Int32.ofNat (own_sz x))), .val (.int (Int32.ofNat j)), .val (.long (Int64.ofNat (own_ab x))), .second, .val (.int (Int32.ofNat (own_sz x))), .val (.int (Int32.ofNat j)), .val (.long (Int64.ofNat (10 ^ (own_sz x - 1 - j)))), .second, .unset] [(.long ((Int64.ofNat (own_ab x)) / (Int64.ofNat (10 ^ (own_sz x - 1 - j)))))]))
    refine own_up (fun tx kx => X14.ldc2Long hx hown (mvT hZ (wd_169 hw)) (g := (mkF m 59 #[.val (.int x), .val (.int (Int32.ofNat (own_sz x))), .val (.int (Int32.ofNat j)), .val (.long (Int64.ofNat (own_ab x))), .second, .val (.int (Int32.ofNat (own_sz x))), .val (.int (Int32.ofNat j)), .val (.long (Int64.ofNat (10 ^ (own_sz x - 1 - j)))), .second, .unset] [(.long ((Int64.ofNat (own_ab x)) / (Int64.ofNat (10 ^ (own_sz x - 1 - j)))))])) rfl (hb hby d38_59) _ kx) ?_
    show OwnOk p e below _ (T14.setTop (mkF m 62 #[.val (.int x), .val (.int (Int32.ofNat (own_sz x))), .val (.int (Int32.ofNat j)), .val (.long (Int64.ofNat (own_ab x))), .second, .val (.int (Int32.ofNat (own_sz x))), .val (.int (Int32.ofNat j)), .val (.long (Int64.ofNat (10 ^ (own_sz x - 1 - j)))), .second, .unset] [(.long (10 : Int64)), (.long ((Int64.ofNat (own_ab x)) / (Int64.ofNat (10 ^ (own_sz x - 1 - j)))))]))
    refine own_up (fun tx kx => own_lrem (g := (mkF m 62 #[.val (.int x), .val (.int (Int32.ofNat (own_sz x))), .val (.int (Int32.ofNat j)), .val (.long (Int64.ofNat (own_ab x))), .second, .val (.int (Int32.ofNat (own_sz x))), .val (.int (Int32.ofNat j)), .val (.long (Int64.ofNat (10 ^ (own_sz x - 1 - j)))), .second, .unset] [(.long (10 : Int64)), (.long ((Int64.ofNat (own_ab x)) / (Int64.ofNat (10 ^ (own_sz x - 1 - j)))))])) X14 hx rfl (hb hby d38_62) rfl (by decide) kx) ?_
    show OwnOk p e below _ (T14.setTop (mkF m 63 #[.val (.int x), .val (.int (Int32.ofNat (own_sz x))), .val (.int (Int32.ofNat j)), .val (.long (Int64.ofNat (own_ab x))), .second, .val (.int (Int32.ofNat (own_sz x))), .val (.int (Int32.ofNat j)), .val (.long (Int64.ofNat (10 ^ (own_sz x - 1 - j)))), .second, .unset] [(.long (((Int64.ofNat (own_ab x)) / (Int64.ofNat (10 ^ (own_sz x - 1 - j)))) % (10 : Int64)))]))
    refine own_up (fun tx kx => XS.l2i X14.here hx rfl (hb hby d38_63) rfl kx) ?_
    show OwnOk p e below _ (T14.setTop (mkF m 64 #[.val (.int x), .val (.int (Int32.ofNat (own_sz x))), .val (.int (Int32.ofNat j)), .val (.long (Int64.ofNat (own_ab x))), .second, .val (.int (Int32.ofNat (own_sz x))), .val (.int (Int32.ofNat j)), .val (.long (Int64.ofNat (10 ^ (own_sz x - 1 - j)))), .second, .unset] [(.int ((((Int64.ofNat (own_ab x)) / (Int64.ofNat (10 ^ (own_sz x - 1 - j)))) % (10 : Int64)).toInt32))]))
    refine own_up (fun tx kx => XS.istore X14.here hx rfl (hb hby d38_64) rfl (l' := #[.val (.int x), .val (.int (Int32.ofNat (own_sz x))), .val (.int (Int32.ofNat j)), .val (.long (Int64.ofNat (own_ab x))), .second, .val (.int (Int32.ofNat (own_sz x))), .val (.int (Int32.ofNat j)), .val (.long (Int64.ofNat (10 ^ (own_sz x - 1 - j)))), .second, .val (.int ((((Int64.ofNat (own_ab x)) / (Int64.ofNat (10 ^ (own_sz x - 1 - j)))) % (10 : Int64)).toInt32))]) rfl kx) ?_
    show OwnOk p e below _ (T14.setTop (mkF m 66 #[.val (.int x), .val (.int (Int32.ofNat (own_sz x))), .val (.int (Int32.ofNat j)), .val (.long (Int64.ofNat (own_ab x))), .second, .val (.int (Int32.ofNat (own_sz x))), .val (.int (Int32.ofNat j)), .val (.long (Int64.ofNat (10 ^ (own_sz x - 1 - j)))), .second, .val (.int ((((Int64.ofNat (own_ab x)) / (Int64.ofNat (10 ^ (own_sz x - 1 - j)))) % (10 : Int64)).toInt32))] []))
    refine own_up (fun tx kx => XS.bipush X14.here hx rfl (hb hby d38_66) kx) ?_
    show OwnOk p e below _ (T14.setTop (mkF m 68 #[.val (.int x), .val (.int (Int32.ofNat (own_sz x))), .val (.int (Int32.ofNat j)), .val (.long (Int64.ofNat (own_ab x))), .second, .val (.int (Int32.ofNat (own_sz x))), .val (.int (Int32.ofNat j)), .val (.long (Int64.ofNat (10 ^ (own_sz x - 1 - j)))), .second, .val (.int ((((Int64.ofNat (own_ab x)) / (Int64.ofNat (10 ^ (own_sz x - 1 - j)))) % (10 : Int64)).toInt32))] [(.int (48 : Int32))]))
    refine own_up (fun tx kx => XS.iload X14.here hx rfl (hb hby d38_68) rfl kx) ?_
    show OwnOk p e below _ (T14.setTop (mkF m 70 #[.val (.int x), .val (.int (Int32.ofNat (own_sz x))), .val (.int (Int32.ofNat j)), .val (.long (Int64.ofNat (own_ab x))), .second, .val (.int (Int32.ofNat (own_sz x))), .val (.int (Int32.ofNat j)), .val (.long (Int64.ofNat (10 ^ (own_sz x - 1 - j)))), .second, .val (.int ((((Int64.ofNat (own_ab x)) / (Int64.ofNat (10 ^ (own_sz x - 1 - j)))) % (10 : Int64)).toInt32))] [(.int ((((Int64.ofNat (own_ab x)) / (Int64.ofNat (10 ^ (own_sz x - 1 - j)))) % (10 : Int64)).toInt32)), (.int (48 : Int32))]))
    refine own_up (fun tx kx => XS.iadd X14.here hx rfl (hb hby d38_70) rfl kx) ?_
    show OwnOk p e below _ (T14.setTop (mkF m 71 #[.val (.int x), .val (.int (Int32.ofNat (own_sz x))), .val (.int (Int32.ofNat j)), .val (.long (Int64.ofNat (own_ab x))), .second, .val (.int (Int32.ofNat (own_sz x))), .val (.int (Int32.ofNat j)), .val (.long (Int64.ofNat (10 ^ (own_sz x - 1 - j)))), .second, .val (.int ((((Int64.ofNat (own_ab x)) / (Int64.ofNat (10 ^ (own_sz x - 1 - j)))) % (10 : Int64)).toInt32))] [(.int ((48 : Int32) + ((((Int64.ofNat (own_ab x)) / (Int64.ofNat (10 ^ (own_sz x - 1 - j)))) % (10 : Int64)).toInt32)))]))
    refine own_up (fun tx kx => XS.i2c X14.here hx rfl (hb hby d38_71) rfl kx) ?_
    show OwnOk p e below _ (T14.setTop (mkF m 72 #[.val (.int x), .val (.int (Int32.ofNat (own_sz x))), .val (.int (Int32.ofNat j)), .val (.long (Int64.ofNat (own_ab x))), .second, .val (.int (Int32.ofNat (own_sz x))), .val (.int (Int32.ofNat j)), .val (.long (Int64.ofNat (10 ^ (own_sz x - 1 - j)))), .second, .val (.int ((((Int64.ofNat (own_ab x)) / (Int64.ofNat (10 ^ (own_sz x - 1 - j)))) % (10 : Int64)).toInt32))] [(.int (((48 : Int32) + ((((Int64.ofNat (own_ab x)) / (Int64.ofNat (10 ^ (own_sz x - 1 - j)))) % (10 : Int64)).toInt32)).toUInt32.toUInt16.toUInt32.toInt32))]))
    refine own_retN X14 hx (t := .char) (show meth.sig.returnType = some .char from hret) (by simp) hlk (hb hby d38_72) (z' := own_dg (own_ab x) x j) (by have hp := own_pow_lt _ he; have ha := own_ab_le x; rw [hdg, own_div64 (by omega) hp, show (10 : Int64) = Int64.ofNat 10 from rfl, own_mod64 (Nat.lt_of_le_of_lt (Nat.div_le_self _ _) (by omega)) (by decide)]; exact own_digC _ (Nat.mod_lt _ (by decide))) hh14 (Nat.le_of_ble_eq_true rfl) (Nat.le_of_ble_eq_true rfl) ?_
    exact ⟨rfl, N14, rfl⟩
def Q_j_pchk (j : Nat) (h0 : Heap) (n0 : Nat) (v : Option Value) (h : Heap) (L : List Loc) : Prop := v = some (.int (Int32.ofNat j)) ∧ Fr n0 L ∧ h = h0
set_option maxRecDepth 65536 in
set_option maxHeartbeats 40000000 in
theorem j_pchk (l : Launch) (Z : State) (a0 : Array Value) (hw : ∀ d ∈ tables_1, d.before a0 Z = true) (j n : Nat) (fm : Value) (hfm : fm.isRef = true) (h0 : Heap) (n0 : Nat) (OL : Old Z n0 h0) (hj : j < n) (hn : n < 2147483648) :
    own_Met l Z (⟨"jdk/internal/util/Preconditions", "checkIndex", "(IILjava/util/function/BiFunction;)I"⟩ : MethodName) jdk_41_method_11_code 3 (some .int) ({ frames := 0, cells := 0, slots := 0, locals := 0 } : Room) #[(.int (Int32.ofNat j)), (.int (Int32.ofNat n)), fm] h0 (Q_j_pchk j h0 n0) := by
  refine own_body (L0 := #[.val (.int (Int32.ofNat j)), .val (.int (Int32.ofNat n)), .val fm]) (plainFor_of_name (by first | (simp [plainName, overriddenIn]; done) | decide +kernel)) (fun m => by first | (simp [entryFrame, mkF, argsToLocals, Value.category]; done) | rfl | (rcases ref_cases hfm with rfl | ⟨_, rfl⟩ <;> rfl)) ?_
  intro p e s m below meth c s₁ hx hby hml hZ hown hnm hret hlk X0 e0
  have N0 := Fr.nil n0
  have Z0 : n0 ≤ h0.size := OL.1 ▸ OL.2.1
  show OwnOk p e below _ (s₁.setTop (mkF m 0 #[.val (.int (Int32.ofNat j)), .val (.int (Int32.ofNat n)), .val fm] []))
  refine own_up (fun tx kx => XS.iloadN X0.here hx rfl (hb hby d36_0) rfl kx) ?_
  show OwnOk p e below _ (s₁.setTop (mkF m 1 #[.val (.int (Int32.ofNat j)), .val (.int (Int32.ofNat n)), .val fm] [(.int (Int32.ofNat j))]))
  refine own_up (fun tx kx => XS.ifNo X0.here hx rfl (hb hby d36_1) rfl ((if0 _ _).trans (flt (own_nn j (by omega))).1) kx) ?_
  show OwnOk p e below _ (s₁.setTop (mkF m 4 #[.val (.int (Int32.ofNat j)), .val (.int (Int32.ofNat n)), .val fm] []))
  refine own_up (fun tx kx => XS.iloadN X0.here hx rfl (hb hby d36_4) rfl kx) ?_
  show OwnOk p e below _ (s₁.setTop (mkF m 5 #[.val (.int (Int32.ofNat j)), .val (.int (Int32.ofNat n)), .val fm] [(.int (Int32.ofNat j))]))
  refine own_up (fun tx kx => XS.iloadN X0.here hx rfl (hb hby d36_5) rfl kx) ?_
  show OwnOk p e below _ (s₁.setTop (mkF m 6 #[.val (.int (Int32.ofNat j)), .val (.int (Int32.ofNat n)), .val fm] [(.int (Int32.ofNat n)), (.int (Int32.ofNat j))]))
  refine own_up (fun tx kx => XS.icmpYes X0.here hx rfl (pc0 := 6) (pc' := 16) rfl (hb hby d36_6) rfl (tlt (own_lt hj hn)).1 (by decide) (by decide) kx) ?_
  show OwnOk p e below _ (s₁.setTop (mkF m 16 #[.val (.int (Int32.ofNat j)), .val (.int (Int32.ofNat n)), .val fm] []))
  refine own_up (fun tx kx => XS.iloadN X0.here hx rfl (hb hby d36_16) rfl kx) ?_
  show OwnOk p e below _ (s₁.setTop (mkF m 17 #[.val (.int (Int32.ofNat j)), .val (.int (Int32.ofNat n)), .val fm] [(.int (Int32.ofNat j))]))
  refine own_retI X0 hx (show meth.sig.returnType = some .int from hret) hlk (hb hby d36_17) e0 (Nat.le_of_ble_eq_true rfl) (Nat.le_of_ble_eq_true rfl) ?_
  exact ⟨rfl, N0, rfl⟩
def Q_j_chk (h0 : Heap) (n0 : Nat) (v : Option Value) (h : Heap) (L : List Loc) : Prop := v = none ∧ Fr n0 L ∧ h = h0
set_option maxRecDepth 65536 in
set_option maxHeartbeats 40000000 in
theorem j_chk (l : Launch) (Z : State) (a0 : Array Value) (hw : ∀ d ∈ tables_1, d.before a0 Z = true) (j n : Nat) (fm : Value) (hfm : fm.isRef = true) (h0 : Heap) (n0 : Nat) (OL : Old Z n0 h0) (SF : Sta Z Z.heap "jdk/internal/util/Preconditions" "SIOOBE_FORMATTER" "Ljava/util/function/BiFunction;" fm) (hj : j < n) (hn : n < 2147483648) :
    own_Met l Z (⟨"java/lang/String", "checkIndex", "(II)V"⟩ : MethodName) jdk_42_method_155_code 2 none ({ frames := 1, cells := 0, slots := 0, locals := 14 } : Room) #[(.int (Int32.ofNat j)), (.int (Int32.ofNat n))] h0 (Q_j_chk h0 n0) := by
  refine own_body (L0 := #[.val (.int (Int32.ofNat j)), .val (.int (Int32.ofNat n))]) (plainFor_of_name (by first | (simp [plainName, overriddenIn]; done) | decide +kernel)) (fun m => by first | (simp [entryFrame, mkF, argsToLocals, Value.category]; done) | rfl) ?_
  intro p e s m below meth c s₁ hx hby hml hZ hown hnm hret hlk X0 e0
  have N0 := Fr.nil n0
  have Z0 : n0 ≤ h0.size := OL.1 ▸ OL.2.1
  show OwnOk p e below _ (s₁.setTop (mkF m 0 #[.val (.int (Int32.ofNat j)), .val (.int (Int32.ofNat n))] []))
  refine own_up (fun tx kx => XS.iloadN X0.here hx rfl (hb hby d35_0) rfl kx) ?_
  show OwnOk p e below _ (s₁.setTop (mkF m 1 #[.val (.int (Int32.ofNat j)), .val (.int (Int32.ofNat n))] [(.int (Int32.ofNat j))]))
  refine own_up (fun tx kx => XS.iloadN X0.here hx rfl (hb hby d35_1) rfl kx) ?_
  show OwnOk p e below _ (s₁.setTop (mkF m 2 #[.val (.int (Int32.ofNat j)), .val (.int (Int32.ofNat n))] [(.int (Int32.ofNat n)), (.int (Int32.ofNat j))]))
  obtain ⟨T11, X11, e11, st11⟩ := getS2 X0 hx hZ hown (host := "") (Or.inl (wd_189 hw)) Via.refl e0 (SF.ext OL.2) (g := (mkF m 2 #[.val (.int (Int32.ofNat j)), .val (.int (Int32.ofNat n))] [(.int (Int32.ofNat n)), (.int (Int32.ofNat j))])) rfl (hb hby d35_2)
  refine own_up st11 ?_
  show OwnOk p e below _ (T11.setTop (mkF m 5 #[.val (.int (Int32.ofNat j)), .val (.int (Int32.ofNat n))] [fm, (.int (Int32.ofNat n)), (.int (Int32.ofNat j))]))
  refine own_callS X11 hx hZ (y := (⟨"jdk/internal/util/Preconditions", "checkIndex", "(IILjava/util/function/BiFunction;)I"⟩ : MethodName)) hown (wd_191 hw) (wd_192 hw) (wd_190 hw) (wd_193 hw) (by decide) (j_pchk l Z a0 hw j n fm hfm h0 n0 OL hj hn) e11 (argsL := [(.int (Int32.ofNat j)), (.int (Int32.ofNat n)), fm]) (rest := []) (by rw [hml]; rfl) (lenOf pd_22 rfl) rfl rfl (W := 0) rfl (hb hby d35_5) (by decide) (by decide) (by decide) (by decide) (fun T12 v12 L12 X12 hQ12 => ?_)
  obtain ⟨rfl, Nq12, hh12⟩ := hQ12
  have N12 := Fr.app N0 Nq12
  show OwnOk p e below _ (T12.setTop (mkF m 8 #[.val (.int (Int32.ofNat j)), .val (.int (Int32.ofNat n))] [(.int (Int32.ofNat j))]))
  refine own_up (fun tx kx => XS.pop X12.here hx rfl (hb hby d35_8) rfl rfl kx) ?_
  show OwnOk p e below _ (T12.setTop (mkF m 9 #[.val (.int (Int32.ofNat j)), .val (.int (Int32.ofNat n))] []))
  refine own_retV X12 hx (show meth.sig.returnType = none from hret) hlk (hb hby d35_9) hh12 (Nat.le_of_ble_eq_true rfl) (Nat.le_of_ble_eq_true rfl) ?_
  exact ⟨rfl, N12, rfl⟩
def Q_j_sLat (h0 : Heap) (n0 : Nat) (v : Option Value) (h : Heap) (L : List Loc) : Prop := v = some (.int 1) ∧ Fr n0 L ∧ h = h0
set_option maxRecDepth 65536 in
set_option maxHeartbeats 40000000 in
theorem j_sLat (l : Launch) (Z : State) (a0 : Array Value) (hw : ∀ d ∈ tables_1, d.before a0 Z = true) (a : Addr) (cz : Int32) (h0 : Heap) (n0 : Nat) (OL : Old Z n0 h0) (SC : Sta Z Z.heap "java/lang/String" "COMPACT_STRINGS" "Z" (.int cz)) (hcz : ¬ cz = 0) (F_coder_a : Fld Z h0 a "java/lang/String" "coder" "B" (.int (0 : Int32))) :
    own_Met l Z (⟨"java/lang/String", "isLatin1", "()Z"⟩ : MethodName) jdk_42_method_154_code 1 (some .boolean) ({ frames := 0, cells := 0, slots := 0, locals := 0 } : Room) #[(.ref a)] h0 (Q_j_sLat h0 n0) := by
  refine own_body (L0 := #[.val (.ref a)]) (plainFor_of_name (by first | (simp [plainName, overriddenIn]; done) | decide +kernel)) (fun m => by first | (simp [entryFrame, mkF, argsToLocals, Value.category]; done) | rfl) ?_
  intro p e s m below meth c s₁ hx hby hml hZ hown hnm hret hlk X0 e0
  have N0 := Fr.nil n0
  have Z0 : n0 ≤ h0.size := OL.1 ▸ OL.2.1
  show OwnOk p e below _ (s₁.setTop (mkF m 0 #[.val (.ref a)] []))
  obtain ⟨T11, X11, e11, st11⟩ := getS2 X0 hx hZ hown (host := "") (Or.inl (wd_94 hw)) Via.refl e0 (SC.ext OL.2) (g := (mkF m 0 #[.val (.ref a)] [])) rfl (hb hby d33_0)
  refine own_up st11 ?_
  show OwnOk p e below _ (T11.setTop (mkF m 3 #[.val (.ref a)] [(.int cz)]))
  refine own_up (fun tx kx => XS.ifNo X11.here hx rfl (hb hby d33_3) rfl ((if0 _ _).trans (feq hcz).1) kx) ?_
  show OwnOk p e below _ (T11.setTop (mkF m 6 #[.val (.ref a)] []))
  refine own_up (fun tx kx => XS.aloadN X11.here hx rfl (hb hby d33_6) rfl rfl kx) ?_
  show OwnOk p e below _ (T11.setTop (mkF m 7 #[.val (.ref a)] [(.ref a)]))
  obtain ⟨T12, X12, e12, st12⟩ := getF X11 hx hZ hown (host := "") (Or.inl (wd_95 hw)) Via.refl e11 F_coder_a (g := (mkF m 7 #[.val (.ref a)] [(.ref a)])) rfl rfl (hb hby d33_7)
  refine own_up st12 ?_
  show OwnOk p e below _ (T12.setTop (mkF m 10 #[.val (.ref a)] [(.int (0 : Int32))]))
  refine own_up (fun tx kx => XS.ifNo X12.here hx rfl (hb hby d33_10) rfl ((if0 _ _).trans (teq rfl).2) kx) ?_
  show OwnOk p e below _ (T12.setTop (mkF m 13 #[.val (.ref a)] []))
  refine own_up (fun tx kx => XS.iconst X12.here hx rfl (hb hby d33_13) kx) ?_
  show OwnOk p e below _ (T12.setTop (mkF m 14 #[.val (.ref a)] [(.int (1 : Int32))]))
  refine own_up (fun tx kx => XS.goto X12.here hx rfl (pc0 := 14) (pc' := 18) rfl (hb hby d33_14) (by decide) (by decide) kx) ?_
  show OwnOk p e below _ (T12.setTop (mkF m 18 #[.val (.ref a)] [(.int (1 : Int32))]))
  refine own_retN X12 hx (t := .boolean) (show meth.sig.returnType = some .boolean from hret) (by simp) hlk (hb hby d33_18) (z' := (1 : Int32)) rfl e12 (Nat.le_of_ble_eq_true rfl) (Nat.le_of_ble_eq_true rfl) ?_
  exact ⟨rfl, N0, rfl⟩
def Q_j_lch (g : Nat → Int32) (j : Nat) (h0 : Heap) (n0 : Nat) (v : Option Value) (h : Heap) (L : List Loc) : Prop := v = some (.int (own_c8 (g j))) ∧ Fr n0 L ∧ h = h0
set_option maxRecDepth 65536 in
set_option maxHeartbeats 40000000 in
theorem j_lch (l : Launch) (Z : State) (a0 : Array Value) (hw : ∀ d ∈ tables_1, d.before a0 Z = true) (u : Addr) (ku : ClassId) (ln : Nat) (g : Nat → Int32) (j : Nat) (fm : Value) (hfm : fm.isRef = true) (h0 : Heap) (n0 : Nat) (OL : Old Z n0 h0) (SF : Sta Z Z.heap "jdk/internal/util/Preconditions" "SIOOBE_FORMATTER" "Ljava/util/function/BiFunction;" fm) (V_u : Arv Z h0 u ku .byte (Int32.ofNat ln) (own_F ln g) (.int (0 : Int32))) (hj : j < ln) (hn : ln < 2147483648) :
    own_Met l Z (⟨"java/lang/StringLatin1", "charAt", "([BI)C"⟩ : MethodName) jdk_43_method_2_code 2 (some .char) ({ frames := 2, cells := 0, slots := 0, locals := 30 } : Room) #[(.ref u), (.int (Int32.ofNat j))] h0 (Q_j_lch g j h0 n0) := by
  refine own_body (L0 := #[.val (.ref u), .val (.int (Int32.ofNat j))]) (plainFor_of_name (by first | (simp [plainName, overriddenIn]; done) | decide +kernel)) (fun m => by first | (simp [entryFrame, mkF, argsToLocals, Value.category]; done) | rfl) ?_
  intro p e s m below meth c s₁ hx hby hml hZ hown hnm hret hlk X0 e0
  have N0 := Fr.nil n0
  have Z0 : n0 ≤ h0.size := OL.1 ▸ OL.2.1
  show OwnOk p e below _ (s₁.setTop (mkF m 0 #[.val (.ref u), .val (.int (Int32.ofNat j))] []))
  refine own_up (fun tx kx => XS.iloadN X0.here hx rfl (hb hby d34_0) rfl kx) ?_
  show OwnOk p e below _ (s₁.setTop (mkF m 1 #[.val (.ref u), .val (.int (Int32.ofNat j))] [(.int (Int32.ofNat j))]))
  refine own_up (fun tx kx => XS.aloadN X0.here hx rfl (hb hby d34_1) rfl rfl kx) ?_
  show OwnOk p e below _ (s₁.setTop (mkF m 2 #[.val (.ref u), .val (.int (Int32.ofNat j))] [(.ref u), (.int (Int32.ofNat j))]))
  obtain ⟨cl11, Ar11, qc11, Sz11, Nn11, Hs11, Gf11⟩ := id V_u
  have hlen11 : cl11.slots.size.toInt32 = (Int32.ofNat ln) := len_of Sz11 Nn11
  refine own_up (fun tx kx => X0.arraylength hx (own_ar e0 Ar11.1) (State.isArrayOf_alike hZ.alike Ar11.2.1) (g := (mkF m 2 #[.val (.ref u), .val (.int (Int32.ofNat j))] [(.ref u), (.int (Int32.ofNat j))])) rfl rfl (hb hby d34_2) _ kx) ?_
  rw [hlen11]
  show OwnOk p e below _ (s₁.setTop (mkF m 3 #[.val (.ref u), .val (.int (Int32.ofNat j))] [(.int (Int32.ofNat ln)), (.int (Int32.ofNat j))]))
  refine own_callS X0 hx hZ (y := (⟨"java/lang/String", "checkIndex", "(II)V"⟩ : MethodName)) hown (wd_186 hw) (wd_187 hw) (wd_32 hw) (wd_188 hw) (by decide) (j_chk l Z a0 hw j ln fm hfm h0 n0 OL SF hj hn) e0 (argsL := [(.int (Int32.ofNat j)), (.int (Int32.ofNat ln))]) (rest := []) (by rw [hml]; rfl) (lenOf pd_14 rfl) rfl rfl (W := 0) rfl (hb hby d34_3) (by decide) (by decide) (by decide) (by decide) (fun T12 v12 L12 X12 hQ12 => ?_)
  obtain ⟨rfl, Nq12, hh12⟩ := hQ12
  have N12 := Fr.app N0 Nq12
  show OwnOk p e below _ (T12.setTop (mkF m 6 #[.val (.ref u), .val (.int (Int32.ofNat j))] []))
  refine own_up (fun tx kx => XS.aloadN X12.here hx rfl (hb hby d34_6) rfl rfl kx) ?_
  show OwnOk p e below _ (T12.setTop (mkF m 7 #[.val (.ref u), .val (.int (Int32.ofNat j))] [(.ref u)]))
  refine own_up (fun tx kx => XS.iloadN X12.here hx rfl (hb hby d34_7) rfl kx) ?_
  show OwnOk p e below _ (T12.setTop (mkF m 8 #[.val (.ref u), .val (.int (Int32.ofNat j))] [(.int (Int32.ofNat j)), (.ref u)]))
  obtain ⟨cl13, Ar13, qc13, Sz13, Nn13, Hs13, Gf13⟩ := id V_u
  have hin13 : ¬ ((Int32.ofNat j) < 0 ∨ cl13.slots.size ≤ ((Int32.ofNat j)).toNatClampNeg) := inb_of Sz13 (own_in hj hn)
  have hat13 : cl13.slots[((Int32.ofNat j)).toNatClampNeg]? = some (.int (g j)) := Hs13.at hin13 (by rw [own_cl j (by omega)]; exact own_F_at hj)
  refine own_up (fun tx kx => X12.baloadBytes hx (j := (Int32.ofNat j)) (v := (.int (g j))) (own_ar hh12 Ar13.1) (State.isArrayOf_alike hZ.alike Ar13.2.1) Ar13.2.2 hin13 hat13 (g := (mkF m 8 #[.val (.ref u), .val (.int (Int32.ofNat j))] [(.int (Int32.ofNat j)), (.ref u)])) rfl rfl (hb hby d34_8) _ kx) ?_
  show OwnOk p e below _ (T12.setTop (mkF m 9 #[.val (.ref u), .val (.int (Int32.ofNat j))] [(.int (g j))]))
  refine own_up (fun tx kx => XS.sipush X12.here hx rfl (hb hby d34_9) kx) ?_
  show OwnOk p e below _ (T12.setTop (mkF m 12 #[.val (.ref u), .val (.int (Int32.ofNat j))] [(.int (255 : Int32)), (.int (g j))]))
  refine own_up (fun tx kx => XS.iand X12.here hx rfl (hb hby d34_12) rfl kx) ?_
  show OwnOk p e below _ (T12.setTop (mkF m 13 #[.val (.ref u), .val (.int (Int32.ofNat j))] [(.int ((g j) &&& (255 : Int32)))]))
  refine own_up (fun tx kx => XS.i2c X12.here hx rfl (hb hby d34_13) rfl kx) ?_
  show OwnOk p e below _ (T12.setTop (mkF m 14 #[.val (.ref u), .val (.int (Int32.ofNat j))] [(.int (((g j) &&& (255 : Int32)).toUInt32.toUInt16.toUInt32.toInt32))]))
  refine own_retN X12 hx (t := .char) (show meth.sig.returnType = some .char from hret) (by simp) hlk (hb hby d34_14) (z' := own_c8 (g j)) rfl hh12 (Nat.le_of_ble_eq_true rfl) (Nat.le_of_ble_eq_true rfl) ?_
  exact ⟨rfl, N12, rfl⟩
def Q_j_charAt (g : Nat → Int32) (j : Nat) (h0 : Heap) (n0 : Nat) (v : Option Value) (h : Heap) (L : List Loc) : Prop := v = some (.int (own_c8 (g j))) ∧ Fr n0 L ∧ h = h0
set_option maxRecDepth 65536 in
set_option maxHeartbeats 40000000 in
theorem j_charAt (l : Launch) (Z : State) (a0 : Array Value) (hw : ∀ d ∈ tables_1, d.before a0 Z = true) (a u : Addr) (ku : ClassId) (ln : Nat) (g : Nat → Int32) (cz : Int32) (j : Nat) (fm : Value) (hfm : fm.isRef = true) (h0 : Heap) (n0 : Nat) (OL : Old Z n0 h0) (SC : Sta Z Z.heap "java/lang/String" "COMPACT_STRINGS" "Z" (.int cz)) (hcz : ¬ cz = 0) (SF : Sta Z Z.heap "jdk/internal/util/Preconditions" "SIOOBE_FORMATTER" "Ljava/util/function/BiFunction;" fm) (E_a : Exa Z h0 a "java/lang/String") (F_value_a : Fld Z h0 a "java/lang/String" "value" "[B" (.ref u)) (F_coder_a : Fld Z h0 a "java/lang/String" "coder" "B" (.int (0 : Int32))) (V_u : Arv Z h0 u ku .byte (Int32.ofNat ln) (own_F ln g) (.int (0 : Int32))) (hj : j < ln) (hn : ln < 2147483648) :
    own_Met l Z (⟨"java/lang/String", "charAt", "(I)C"⟩ : MethodName) jdk_42_method_56_code 2 (some .char) ({ frames := 3, cells := 0, slots := 0, locals := 45 } : Room) #[(.ref a), (.int (Int32.ofNat j))] h0 (Q_j_charAt g j h0 n0) := by
  refine own_body (L0 := #[.val (.ref a), .val (.int (Int32.ofNat j))]) (plainFor_of_name (by first | (simp [plainName, overriddenIn]; done) | decide +kernel)) (fun m => by first | (simp [entryFrame, mkF, argsToLocals, Value.category]; done) | rfl) ?_
  intro p e s m below meth c s₁ hx hby hml hZ hown hnm hret hlk X0 e0
  have N0 := Fr.nil n0
  have Z0 : n0 ≤ h0.size := OL.1 ▸ OL.2.1
  show OwnOk p e below _ (s₁.setTop (mkF m 0 #[.val (.ref a), .val (.int (Int32.ofNat j))] []))
  refine own_up (fun tx kx => XS.aloadN X0.here hx rfl (hb hby d32_0) rfl rfl kx) ?_
  show OwnOk p e below _ (s₁.setTop (mkF m 1 #[.val (.ref a), .val (.int (Int32.ofNat j))] [(.ref a)]))
  refine own_callV X0 hx hZ (y := (⟨"java/lang/String", "isLatin1", "()Z"⟩ : MethodName)) (z := (⟨"java/lang/String", "isLatin1", "()Z"⟩ : MethodName)) hown (wd_177 hw) (wd_178 hw) (notFace_of_selects (args := #[]) (mvT hZ (wd_180 hw))) (wd_180 hw) (wd_179 hw) (wd_32 hw) (wd_181 hw) (by decide) (j_sLat l Z a0 hw a cz h0 n0 OL SC hcz F_coder_a) e0 (argsL := []) (rest := []) E_a (by rw [hml]; rfl) (lenOf pd_5 rfl) rfl rfl (W := 0) rfl (hb hby d32_1) (by decide) (by decide) (by decide) (by decide) (fun T11 v11 L11 X11 hQ11 => ?_)
  obtain ⟨rfl, Nq11, hh11⟩ := hQ11
  have N11 := Fr.app N0 Nq11
  show OwnOk p e below _ (T11.setTop (mkF m 4 #[.val (.ref a), .val (.int (Int32.ofNat j))] [(.int (1 : Int32))]))
  refine own_up (fun tx kx => XS.ifNo X11.here hx rfl (hb hby d32_4) rfl ((if0 _ _).trans (feq (by decide)).1) kx) ?_
  show OwnOk p e below _ (T11.setTop (mkF m 7 #[.val (.ref a), .val (.int (Int32.ofNat j))] []))
  refine own_up (fun tx kx => XS.aloadN X11.here hx rfl (hb hby d32_7) rfl rfl kx) ?_
  show OwnOk p e below _ (T11.setTop (mkF m 8 #[.val (.ref a), .val (.int (Int32.ofNat j))] [(.ref a)]))
  obtain ⟨T12, X12, e12, st12⟩ := getF X11 hx hZ hown (host := "") (Or.inl (wd_88 hw)) Via.refl hh11 F_value_a (g := (mkF m 8 #[.val (.ref a), .val (.int (Int32.ofNat j))] [(.ref a)])) rfl rfl (hb hby d32_8)
  refine own_up st12 ?_
  show OwnOk p e below _ (T12.setTop (mkF m 11 #[.val (.ref a), .val (.int (Int32.ofNat j))] [(.ref u)]))
  refine own_up (fun tx kx => XS.iloadN X12.here hx rfl (hb hby d32_11) rfl kx) ?_
  show OwnOk p e below _ (T12.setTop (mkF m 12 #[.val (.ref a), .val (.int (Int32.ofNat j))] [(.int (Int32.ofNat j)), (.ref u)]))
  refine own_callS X12 hx hZ (y := (⟨"java/lang/StringLatin1", "charAt", "([BI)C"⟩ : MethodName)) hown (wd_182 hw) (wd_183 hw) (wd_184 hw) (wd_185 hw) (by decide) (j_lch l Z a0 hw u ku ln g j fm hfm h0 n0 OL SF V_u hj hn) e12 (argsL := [(.ref u), (.int (Int32.ofNat j))]) (rest := []) (by rw [hml]; rfl) (lenOf pd_23 rfl) rfl rfl (W := 0) rfl (hb hby d32_12) (by decide) (by decide) (by decide) (by decide) (fun T13 v13 L13 X13 hQ13 => ?_)
  obtain ⟨rfl, Nq13, hh13⟩ := hQ13
  have N13 := Fr.app N11 Nq13
  show OwnOk p e below _ (T13.setTop (mkF m 15 #[.val (.ref a), .val (.int (Int32.ofNat j))] [(.int (own_c8 (g j)))]))
  refine own_retN X13 hx (t := .char) (show meth.sig.returnType = some .char from hret) (by simp) hlk (hb hby d32_15) (z' := own_c8 (g j)) (own_c8_idem _) hh13 (Nat.le_of_ble_eq_true rfl) (Nat.le_of_ble_eq_true rfl) ?_
  exact ⟨rfl, N13, rfl⟩
/-- the j-th char of a pair's text -/
def own_pr (x y : Int32) (j : Nat) : Int32 := if j < own_sz x then own_dg (own_ab x) x j else if j < own_sz x + 5 then [(32 : Int32), 97, 110, 100, 32].getD (j - own_sz x) 0 else own_dg (own_ab y) y (j - (own_sz x + 5))
theorem own_l5 : ∀ j, j < 5 → own_c8 ([(32 : Int32), 97, 110, 100, 32].getD j 0) = [(32 : Int32), 97, 110, 100, 32].getD j 0 ∧ nar .char ([(32 : Int32), 97, 110, 100, 32].getD j 0) = [(32 : Int32), 97, 110, 100, 32].getD j 0 := by decide
theorem own_pr_c8 (x y : Int32) (j : Nat) : own_c8 (own_pr x y j) = own_pr x y j := by
  unfold own_pr
  split
  · exact own_c8_dg _ _ _
  · split
    · exact (own_l5 _ (by omega)).1
    · exact own_c8_dg _ _ _
def Q_m_pinit (Z : State) (b : Addr) (x y : Int32) (h0 : Heap) (n0 : Nat) (v : Option Value) (h : Heap) (L : List Loc) : Prop := v = none ∧ Fr n0 L ∧ Keep h0 h [b] ∧ Exa Z h b "com/example/winnower/winnower/narrowing/Pair" ∧ Fld Z h b "com/example/winnower/winnower/narrowing/Pair" "first" "I" (.int x) ∧ Fld Z h b "com/example/winnower/winnower/narrowing/Pair" "second" "I" (.int y)
set_option maxRecDepth 65536 in
set_option maxHeartbeats 40000000 in
theorem m_pinit (l : Launch) (Z : State) (a0 : Array Value) (hw : ∀ d ∈ tables_1, d.before a0 Z = true) (b : Addr) (x y : Int32) (h0 : Heap) (n0 : Nat) (OL : Old Z n0 h0) (E_b : Exa Z h0 b "com/example/winnower/winnower/narrowing/Pair") (F_first_b : Fld Z h0 b "com/example/winnower/winnower/narrowing/Pair" "first" "I" (.int (0 : Int32))) (F_second_b : Fld Z h0 b "com/example/winnower/winnower/narrowing/Pair" "second" "I" (.int (0 : Int32))) (n0_b : n0 ≤ b) :
    own_Met l Z (⟨"com/example/winnower/winnower/narrowing/Pair", "<init>", "(II)V"⟩ : MethodName) prog_12_method_1_code 3 none ({ frames := 1, cells := 0, slots := 0, locals := 12 } : Room) #[(.ref b), (.int x), (.int y)] h0 (Q_m_pinit Z b x y h0 n0) := by
  refine own_body (L0 := #[.val (.ref b), .val (.int x), .val (.int y)]) (plainFor_of_name (by first | (simp [plainName, overriddenIn]; done) | decide +kernel)) (fun m => by first | (simp [entryFrame, mkF, argsToLocals, Value.category]; done) | rfl) ?_
  intro p e s m below meth c s₁ hx hby hml hZ hown hnm hret hlk X0 e0
  have N0 := Fr.nil n0
  have Z0 : n0 ≤ h0.size := OL.1 ▸ OL.2.1
  show OwnOk p e below _ (s₁.setTop (mkF m 0 #[.val (.ref b), .val (.int x), .val (.int y)] []))
  have KP0 : Keep h0 h0 [b] := Keep.refl h0 _
  refine own_up (fun tx kx => XS.aloadN X0.here hx rfl (hb hby d1_0) rfl rfl kx) ?_
  show OwnOk p e below _ (s₁.setTop (mkF m 1 #[.val (.ref b), .val (.int x), .val (.int y)] [(.ref b)]))
  obtain ⟨T11, X11, e11, st11⟩ := initO X0 hx hZ hown (wd_6 hw) (wd_7 hw) (wd_8 hw) e0 (g := (mkF m 1 #[.val (.ref b), .val (.int x), .val (.int y)] [(.ref b)])) rfl (by rw [hml]; rfl) rfl (hb hby d1_1) (by decide) (W := 0) (by show 2 * 0 + _ ≤ _; exact Nat.le_of_eq rfl) (by decide)
  refine own_up st11 ?_
  show OwnOk p e below _ (T11.setTop (mkF m 4 #[.val (.ref b), .val (.int x), .val (.int y)] []))
  refine own_up (fun tx kx => XS.aloadN X11.here hx rfl (hb hby d1_4) rfl rfl kx) ?_
  show OwnOk p e below _ (T11.setTop (mkF m 5 #[.val (.ref b), .val (.int x), .val (.int y)] [(.ref b)]))
  refine own_up (fun tx kx => XS.iloadN X11.here hx rfl (hb hby d1_5) rfl kx) ?_
  show OwnOk p e below _ (T11.setTop (mkF m 6 #[.val (.ref b), .val (.int x), .val (.int y)] [(.int x), (.ref b)]))
  obtain ⟨T12, h12, X12, e12, W12, st12⟩ := putF X11 hx hZ hown (host := "") (Or.inl (wd_9 hw)) Via.refl e11 F_first_b E_b (Or.inr ⟨(wd_10 hw), rfl, hnm⟩) (wd_1 hw) (ty := .int) (by decide) rfl rfl (g := (mkF m 6 #[.val (.ref b), .val (.int x), .val (.int y)] [(.int x), (.ref b)])) rfl rfl (hb hby d1_6)
  have Fw12 := Fld.same W12 F_first_b
  have N12 := Fr.snoc X12 N0 n0_b
  have OL13 := OL.wr W12 n0_b
  have KP13 := KP0.wr W12 (Or.inl (List.mem_of_getElem? (i := 0) rfl))
  refine own_up st12 ?_
  show OwnOk p e below _ (T12.setTop (mkF m 9 #[.val (.ref b), .val (.int x), .val (.int y)] []))
  refine own_up (fun tx kx => XS.aloadN X12.here hx rfl (hb hby d1_9) rfl rfl kx) ?_
  show OwnOk p e below _ (T12.setTop (mkF m 10 #[.val (.ref b), .val (.int x), .val (.int y)] [(.ref b)]))
  refine own_up (fun tx kx => XS.iloadN X12.here hx rfl (hb hby d1_10) rfl kx) ?_
  show OwnOk p e below _ (T12.setTop (mkF m 11 #[.val (.ref b), .val (.int x), .val (.int y)] [(.int y), (.ref b)]))
  have F_second_b_14 := (F_second_b.other W12 (Or.inr (slot_ne (Or.inr (wd_12 hw)) (Or.inr (wd_10 hw)) (by decide) (t := .int) (t' := .int) (by decide) (by decide))))
  have E_b_15 := (E_b.wr W12)
  obtain ⟨T16, h16, X16, e16, W16, st16⟩ := putF X12 hx hZ hown (host := "") (Or.inl (wd_11 hw)) Via.refl e12 F_second_b_14 E_b_15 (Or.inr ⟨(wd_12 hw), rfl, hnm⟩) (wd_1 hw) (ty := .int) (by decide) rfl rfl (g := (mkF m 11 #[.val (.ref b), .val (.int x), .val (.int y)] [(.int y), (.ref b)])) rfl rfl (hb hby d1_11)
  have Fw16 := Fld.same W16 F_second_b_14
  have N16 := Fr.snoc X16 N12 n0_b
  have OL17 := OL13.wr W16 n0_b
  have KP17 := KP13.wr W16 (Or.inl (List.mem_of_getElem? (i := 0) rfl))
  refine own_up st16 ?_
  show OwnOk p e below _ (T16.setTop (mkF m 14 #[.val (.ref b), .val (.int x), .val (.int y)] []))
  have E_b_18 := (E_b_15.wr W16)
  have F_first_b_19 := (Fw12.other W16 (Or.inr (slot_ne (Or.inr (wd_10 hw)) (Or.inr (wd_12 hw)) (by decide) (t := .int) (t' := .int) (by decide) (by decide))))
  refine own_retV X16 hx (show meth.sig.returnType = none from hret) hlk (hb hby d1_14) e16 (Nat.le_of_ble_eq_true rfl) (Nat.le_of_ble_eq_true rfl) ?_
  exact ⟨rfl, N16, KP17, E_b_18, F_first_b_19, Fw16⟩
def Q_m_toS (Z : State) (x y : Int32) (h0 : Heap) (n0 : Nat) (v : Option Value) (h : Heap) (L : List Loc) : Prop := ∃ (a u : Addr) (ku : ClassId) (g : Nat → Int32), v = some (.ref a) ∧ Fr n0 L ∧ Keep h0 h [] ∧ (∀ j, j < (own_sz x + 5 + own_sz y) → g j = own_pr x y j) ∧ (Exa Z h a "java/lang/String") ∧ (Fld Z h a "java/lang/String" "value" "[B" (.ref u)) ∧ (Fld Z h a "java/lang/String" "coder" "B" (.int (0 : Int32))) ∧ (Arv Z h u ku .byte (Int32.ofNat (own_sz x + 5 + own_sz y)) (own_F (own_sz x + 5 + own_sz y) g) (.int (0 : Int32)))
set_option maxRecDepth 65536 in
set_option maxHeartbeats 40000000 in
theorem m_toS (l : Launch) (Z : State) (a0 : Array Value) (hw : ∀ d ∈ tables_1, d.before a0 Z = true) (b : Addr) (x y : Int32) (cz : Int32) (d1 d2 : Addr) (k1 k2 : ClassId) (h0 : Heap) (n0 : Nat) (OL : Old Z n0 h0) (SC : Sta Z Z.heap "java/lang/String" "COMPACT_STRINGS" "Z" (.int cz)) (hcz : ¬ cz = 0) (SO : Sta Z Z.heap "java/lang/Integer" "DigitOnes" "[B" (.ref d1)) (SD : Sta Z Z.heap "java/lang/Integer" "DigitTens" "[B" (.ref d2)) (VO : Arv Z Z.heap d1 k1 .byte (Int32.ofNat 100) (own_F 100 fun r => Int32.ofNat (48 + r % 10)) (.int 0)) (VD : Arv Z Z.heap d2 k2 .byte (Int32.ofNat 100) (own_F 100 fun r => Int32.ofNat (48 + r / 10)) (.int 0)) (WO : (Jvm.Cond.laysStatic "java/lang/Integer" "DigitOnes" "[B").before a0 Z = true) (WD : (Jvm.Cond.laysStatic "java/lang/Integer" "DigitTens" "[B").before a0 Z = true) (E_b : Exa Z h0 b "com/example/winnower/winnower/narrowing/Pair") (F_first_b : Fld Z h0 b "com/example/winnower/winnower/narrowing/Pair" "first" "I" (.int x)) (F_second_b : Fld Z h0 b "com/example/winnower/winnower/narrowing/Pair" "second" "I" (.int y)) (hlt1 : d1 < n0) (hlt2 : d2 < n0) :
    own_MetH l Z own_EL [] (⟨"com/example/winnower/winnower/narrowing/Pair", "toString", "()Ljava/lang/String;"⟩ : MethodName) prog_12_method_4_code 1 (some (.object "java/lang/String")) ({ frames := 6, cells := 7, slots := 120, locals := 130 } : Room) #[(.ref b)] h0 (Q_m_toS Z x y h0 n0) := by
  refine own_bodyH (L0 := #[.val (.ref b)]) (plainFor_of_name (by first | (simp [plainName, overriddenIn]; done) | decide +kernel)) (fun m => by first | (simp [entryFrame, mkF, argsToLocals, Value.category]; done) | rfl) ?_
  intro p e s m below meth c s₁ hx hby hml hZ hown hnm hret hlk X0 e0 hB hsf
  have N0 := Fr.nil n0
  have Z0 : n0 ≤ h0.size := OL.1 ▸ OL.2.1
  show OwnOk p e below _ (s₁.setTop (mkF m 0 #[.val (.ref b)] []))
  have hx1 := own_sz_le x
  have hy1 := own_sz_le y
  have hx0 := own_sz_pos x
  show OwnOk p e below _ (s₁.setTop (mkF m 0 #[.val (.ref b)] []))
  have KP0 : Keep h0 h0 [] := Keep.refl h0 _
  obtain ⟨T11, h11, X11, e11, E11, A11, D11, -, st11⟩ := newO X0 hx hZ hown (wd_18 hw) (wd_19 hw) (wd_20 hw) e0 (g := (mkF m 0 #[.val (.ref b)] [])) rfl (hb hby d3_0) (by decide) (by decide)
  obtain ⟨b11, g11⟩ : ∃ z, z = h0.size := ⟨_, rfl⟩
  rw [← g11] at A11 D11 st11
  have sz_b11 : h0.size ≤ b11 := Nat.le_of_eq g11.symm
  have lt_b_b11 : b < b11 := Nat.lt_of_lt_of_le E_b.lt sz_b11
  have n0_b11 : n0 ≤ b11 := Nat.le_trans (own_n0 OL) sz_b11
  have ws_b11 : h0.size ≤ b11 := Nat.le_trans KP0.1 sz_b11
  have F_value_b11 : Fld Z h11 b11 "java/lang/AbstractStringBuilder" "value" "[B" .null := D11 (Or.inl (wd_35 hw)) (ty := (.array .byte)) (by decide)
  have F_coder_b11 : Fld Z h11 b11 "java/lang/AbstractStringBuilder" "coder" "B" (.int (0 : Int32)) := D11 (Or.inl (wd_37 hw)) (ty := .byte) (by decide)
  have F_count_b11 : Fld Z h11 b11 "java/lang/AbstractStringBuilder" "count" "I" (.int (0 : Int32)) := D11 (Or.inl (wd_49 hw)) (ty := .int) (by decide)
  have OL13 := OL.ext E11
  have KP13 := KP0.ext E11
  have hB13 := hB.ext E11
  refine own_up st11 ?_
  show OwnOk p e below _ (T11.setTop (mkF m 3 #[.val (.ref b)] [(.ref b11)]))
  refine own_up (fun tx kx => XS.dup X11.here hx rfl (hb hby d3_3) rfl rfl kx) ?_
  show OwnOk p e below _ (T11.setTop (mkF m 4 #[.val (.ref b)] [(.ref b11), (.ref b11)]))
  refine own_callC X11 hx hZ (y := (⟨"java/lang/StringBuilder", "<init>", "()V"⟩ : MethodName)) rfl hown (wd_21 hw) (wd_22 hw) (wd_20 hw) (wd_23 hw) (by decide) (j_sbinit l Z a0 hw b11 cz h11 n0 OL13 SC hcz A11 F_value_b11 F_coder_b11 F_count_b11 n0_b11) e11 (argsL := []) (rest := [(.ref b11)]) (a := b11) (by rw [hml]; rfl) (lenOf pd_24 rfl) rfl rfl (W := 1) rfl (hb hby d3_4) (by decide) (by decide) (by decide) (by decide) (fun T14 v14 L14 X14 hQ14 => ?_)
  obtain ⟨rfl, Nq14, Kq14, tt14, kk14, gt14, E_14, fv14, fc14, fn14, et14, vt14⟩ := hQ14
  have N14 := Fr.app N0 Nq14
  have E_b_15 := (E_b.ext E11)
  have lt_b_tt14 : b < tt14 := Nat.lt_of_lt_of_le E_b_15.lt gt14
  have lt_b11_tt14 : b11 < tt14 := Nat.lt_of_lt_of_le A11.lt gt14
  have n0_tt14 : n0 ≤ tt14 := Nat.le_trans (own_n0 OL13) gt14
  have ws_tt14 : h0.size ≤ tt14 := Nat.le_trans KP13.1 gt14
  have hB14 := hB13.keep Kq14 (own_safS (own_safE hZ A11 (by decide) (by decide)) own_saf0)
  have sf_tt14_16 := hB13.sNewK Kq14 (own_safS (own_safE hZ A11 (by decide) (by decide)) own_saf0) gt14
  have OL14 := OL13.keep Kq14 (allS n0_b11 all0)
  have KP14 := KP13.trans Kq14 (allS (Or.inr ws_b11) all0)
  show OwnOk p e below _ (T14.setTop (mkF m 7 #[.val (.ref b)] [(.ref b11)]))
  refine own_up (fun tx kx => XS.aloadN X14.here hx rfl (hb hby d3_7) rfl rfl kx) ?_
  show OwnOk p e below _ (T14.setTop (mkF m 8 #[.val (.ref b)] [(.ref b), (.ref b11)]))
  have F_first_b_17 := ((F_first_b.ext E11).keep Kq14 (ninS (Nat.ne_of_lt lt_b_b11) nin0))
  obtain ⟨T18, X18, e18, st18⟩ := getF X14 hx hZ hown (host := "") (Or.inl (wd_9 hw)) Via.refl rfl F_first_b_17 (g := (mkF m 8 #[.val (.ref b)] [(.ref b), (.ref b11)])) rfl rfl (hb hby d3_8)
  refine own_up st18 ?_
  show OwnOk p e below _ (T18.setTop (mkF m 11 #[.val (.ref b)] [(.int x), (.ref b11)]))
  have zx : own_sz x = (Jvm.Free.SBG.digits (own_ab x) + Jvm.Free.SBG.GetChars.sgn x) := rfl
  have zy : own_sz y = (Jvm.Free.SBG.digits (own_ab y) + Jvm.Free.SBG.GetChars.sgn y) := rfl
  refine own_callV X18 hx hZ (y := (⟨"java/lang/StringBuilder", "append", "(I)Ljava/lang/StringBuilder;"⟩ : MethodName)) (z := (⟨"java/lang/StringBuilder", "append", "(I)Ljava/lang/StringBuilder;"⟩ : MethodName)) hown (wd_38 hw) (wd_39 hw) (notFace_of_selects (args := #[]) (mvT hZ (wd_41 hw))) (wd_41 hw) (wd_40 hw) (wd_20 hw) (wd_42 hw) (by decide) (j_sbI l Z a0 hw b11 tt14 kk14 16 (fun _ => 0) 0 x (own_ab x) cz d1 d2 k1 k2 T14.heap n0 OL14 SC hcz SO SD VO VD WO WD E_14 fv14 fc14 fn14 et14 vt14 n0_b11 n0_tt14 (Nat.ne_of_lt lt_b11_tt14) (own_ab_le x) (own_ab_neg x) hlt1 hlt2 (by omega) (by omega) (by omega)) e18 (argsL := [(.int x)]) (rest := []) E_14 (by rw [hml]; rfl) (lenOf pd_25 rfl) rfl rfl (W := 0) rfl (hb hby d3_11) (by decide) (by decide) (by decide) (by decide) (fun T19 v19 L19 X19 hQ19 => ?_)
  obtain ⟨rfl, Nq19, Kq19, E_19, fv19, fc19, fn19, et19, vt19⟩ := hQ19
  have N19 := Fr.app N14 Nq19
  have hB19 := hB14.keep Kq19 (own_safS (own_safE hZ E_14 (by decide) (by decide)) (own_safS sf_tt14_16 own_saf0))
  have sf_tt14_20 := hB14.sKeep Kq19 (own_safS (own_safE hZ E_14 (by decide) (by decide)) (own_safS sf_tt14_16 own_saf0)) sf_tt14_16
  have OL19 := OL14.keep Kq19 (allS n0_b11 (allS n0_tt14 all0))
  have KP19 := KP14.trans Kq19 (allS (Or.inr ws_b11) (allS (Or.inr ws_tt14) all0))
  show OwnOk p e below _ (T19.setTop (mkF m 14 #[.val (.ref b)] [(.ref b11)]))
  have E_b_22 := ((E_b_15.keep Kq14).keep Kq19)
  refine own_ldcH X19 hB19 hx hZ (own_ew hw) hown (List.mem_of_getElem? (i := 0) rfl) (wd_68 hw) (own_wS hw) rfl (vs := own_F 5 (fun j => [(32 : Int32), (97 : Int32), (110 : Int32), (100 : Int32), (32 : Int32)].getD j 0)) (z := Int32.ofNat 5) ⟨by decide, by decide⟩ (by decide) (by decide) (hb hby d3_14) (n := 20) (by decide) (by decide) (by decide) (by decide) (fun s21 ls21 lv21 kv21 T21 h21 X21 hB21 hZ21 hown21 e21 E21 xa21 fc21 fv21 av21 sf21 => ?_)
  have OL21 := OL19.ext E21
  have KP21 := KP19.ext E21
  obtain ⟨sf_b_21, na_b_21, nb_b_21⟩ := sf21 b E_b_22.lt (own_safE hZ E_b_22 (by decide) (by decide))
  obtain ⟨sf_b11_21, na_b11_21, nb_b11_21⟩ := sf21 b11 E_19.lt (own_safE hZ E_19 (by decide) (by decide))
  obtain ⟨sf_tt14_21, na_tt14_21, nb_tt14_21⟩ := sf21 tt14 et19.lt sf_tt14_20
  show OwnOk p e below _ (T21.setTop (mkF m 16 #[.val (.ref b)] [(.ref ls21), (.ref b11)]))
  have E_b11_23 := (E_19.ext E21)
  have F_value_b11_24 := (fv19.ext E21)
  have F_coder_b11_25 := (fc19.ext E21)
  have F_count_b11_26 := (fn19.ext E21)
  have E_tt14_27 := (et19.ext E21)
  have V_tt14_28 := (vt19.ext E21)
  refine own_callV X21 hx hZ21 (y := (⟨"java/lang/StringBuilder", "append", "(Ljava/lang/String;)Ljava/lang/StringBuilder;"⟩ : MethodName)) (z := (⟨"java/lang/StringBuilder", "append", "(Ljava/lang/String;)Ljava/lang/StringBuilder;"⟩ : MethodName)) hown21 (wd_74 hw) (wd_75 hw) (notFace_of_selects (args := #[]) (mvT hZ21 (wd_77 hw))) (wd_77 hw) (wd_76 hw) (wd_20 hw) (wd_78 hw) (by decide) (j_sbS l Z a0 hw b11 tt14 kk14 16 (fun q => if 0 + (Jvm.Free.SBG.digits (own_ab x) + Jvm.Free.SBG.GetChars.sgn x) - (Jvm.Free.SBG.digits (own_ab x) + Jvm.Free.SBG.GetChars.sgn x) ≤ q ∧ q < 0 + (Jvm.Free.SBG.digits (own_ab x) + Jvm.Free.SBG.GetChars.sgn x) then own_dg (own_ab x) x (q - (0 + (Jvm.Free.SBG.digits (own_ab x) + Jvm.Free.SBG.GetChars.sgn x) - (Jvm.Free.SBG.digits (own_ab x) + Jvm.Free.SBG.GetChars.sgn x))) else (fun _ => 0) q) (0 + (Jvm.Free.SBG.digits (own_ab x) + Jvm.Free.SBG.GetChars.sgn x)) ls21 lv21 kv21 5 (fun j => [(32 : Int32), (97 : Int32), (110 : Int32), (100 : Int32), (32 : Int32)].getD j 0) cz h21 n0 OL21 SC hcz E_b11_23 F_value_b11_24 F_coder_b11_25 F_count_b11_26 E_tt14_27 V_tt14_28 n0_b11 n0_tt14 (Nat.ne_of_lt lt_b11_tt14) xa21 fv21 fc21 av21 (Ne.symm nb_b11_21) (Ne.symm nb_tt14_21) (Ne.symm na_b11_21) (Ne.symm na_tt14_21) (by omega) (by omega)) e21 (argsL := [(.ref ls21)]) (rest := []) E_b11_23 (by rw [hml]; rfl) (lenOf pd_26 rfl) rfl rfl (W := 0) rfl (hb hby d3_16) (by decide) (by decide) (by decide) (by decide) (fun T29 v29 L29 X29 hQ29 => ?_)
  obtain ⟨rfl, Nq29, Kq29, E_29, fv29, fc29, fn29, et29, vt29⟩ := hQ29
  have N29 := Fr.app N19 Nq29
  have hB29 := hB21.keep Kq29 (own_safS (own_safE hZ21 E_b11_23 (by decide) (by decide)) (own_safS sf_tt14_21 own_saf0))
  have sf_tt14_30 := hB21.sKeep Kq29 (own_safS (own_safE hZ21 E_b11_23 (by decide) (by decide)) (own_safS sf_tt14_21 own_saf0)) sf_tt14_21
  have OL29 := OL21.keep Kq29 (allS n0_b11 (allS n0_tt14 all0))
  have KP29 := KP21.trans Kq29 (allS (Or.inr ws_b11) (allS (Or.inr ws_tt14) all0))
  show OwnOk p e below _ (T29.setTop (mkF m 19 #[.val (.ref b)] [(.ref b11)]))
  refine own_up (fun tx kx => XS.aloadN X29.here hx rfl (hb hby d3_19) rfl rfl kx) ?_
  show OwnOk p e below _ (T29.setTop (mkF m 20 #[.val (.ref b)] [(.ref b), (.ref b11)]))
  have F_second_b_31 := (((((F_second_b.ext E11).keep Kq14 (ninS (Nat.ne_of_lt lt_b_b11) nin0)).keep Kq19 (ninS (Nat.ne_of_lt lt_b_b11) (ninS (Nat.ne_of_lt lt_b_tt14) nin0))).ext E21).keep Kq29 (ninS (Nat.ne_of_lt lt_b_b11) (ninS (Nat.ne_of_lt lt_b_tt14) nin0)))
  obtain ⟨T32, X32, e32, st32⟩ := getF X29 hx hZ21 hown21 (host := "") (Or.inl (wd_11 hw)) Via.refl rfl F_second_b_31 (g := (mkF m 20 #[.val (.ref b)] [(.ref b), (.ref b11)])) rfl rfl (hb hby d3_20)
  refine own_up st32 ?_
  show OwnOk p e below _ (T32.setTop (mkF m 23 #[.val (.ref b)] [(.int y), (.ref b11)]))
  by_cases hg : ((0 + (Jvm.Free.SBG.digits (own_ab x) + Jvm.Free.SBG.GetChars.sgn x)) + 5) + (Jvm.Free.SBG.digits (own_ab y) + Jvm.Free.SBG.GetChars.sgn y) ≤ 16
  · show OwnOk p e below _ (T32.setTop (mkF m 23 #[.val (.ref b)] [(.int y), (.ref b11)]))
    refine own_callV X32 hx hZ21 (y := (⟨"java/lang/StringBuilder", "append", "(I)Ljava/lang/StringBuilder;"⟩ : MethodName)) (z := (⟨"java/lang/StringBuilder", "append", "(I)Ljava/lang/StringBuilder;"⟩ : MethodName)) hown21 (wd_38 hw) (wd_39 hw) (notFace_of_selects (args := #[]) (mvT hZ21 (wd_41 hw))) (wd_41 hw) (wd_40 hw) (wd_20 hw) (wd_42 hw) (by decide) (j_sbI l Z a0 hw b11 tt14 kk14 16 (fun j => if (0 + (Jvm.Free.SBG.digits (own_ab x) + Jvm.Free.SBG.GetChars.sgn x)) ≤ j ∧ j < (0 + (Jvm.Free.SBG.digits (own_ab x) + Jvm.Free.SBG.GetChars.sgn x)) + 5 then (fun j => [(32 : Int32), (97 : Int32), (110 : Int32), (100 : Int32), (32 : Int32)].getD j 0) (0 + (j - (0 + (Jvm.Free.SBG.digits (own_ab x) + Jvm.Free.SBG.GetChars.sgn x)))) else (fun q => if 0 + (Jvm.Free.SBG.digits (own_ab x) + Jvm.Free.SBG.GetChars.sgn x) - (Jvm.Free.SBG.digits (own_ab x) + Jvm.Free.SBG.GetChars.sgn x) ≤ q ∧ q < 0 + (Jvm.Free.SBG.digits (own_ab x) + Jvm.Free.SBG.GetChars.sgn x) then own_dg (own_ab x) x (q - (0 + (Jvm.Free.SBG.digits (own_ab x) + Jvm.Free.SBG.GetChars.sgn x) - (Jvm.Free.SBG.digits (own_ab x) + Jvm.Free.SBG.GetChars.sgn x))) else (fun _ => 0) q) j) ((0 + (Jvm.Free.SBG.digits (own_ab x) + Jvm.Free.SBG.GetChars.sgn x)) + 5) y (own_ab y) cz d1 d2 k1 k2 T29.heap n0 OL29 SC hcz SO SD VO VD WO WD E_29 fv29 fc29 fn29 et29 vt29 n0_b11 n0_tt14 (Nat.ne_of_lt lt_b11_tt14) (own_ab_le y) (own_ab_neg y) hlt1 hlt2 (by omega) (by omega) (by omega)) e32 (argsL := [(.int y)]) (rest := []) E_29 (by rw [hml]; rfl) (lenOf pd_25 rfl) rfl rfl (W := 0) rfl (hb hby d3_23) (by decide) (by decide) (by decide) (by decide) (fun T33 v33 L33 X33 hQ33 => ?_)
    obtain ⟨rfl, Nq33, Kq33, E_33, fv33, fc33, fn33, et33, vt33⟩ := hQ33
    have N33 := Fr.app N29 Nq33
    have hB33 := hB29.keep Kq33 (own_safS (own_safE hZ21 E_29 (by decide) (by decide)) (own_safS sf_tt14_30 own_saf0))
    have sf_tt14_34 := hB29.sKeep Kq33 (own_safS (own_safE hZ21 E_29 (by decide) (by decide)) (own_safS sf_tt14_30 own_saf0)) sf_tt14_30
    have OL33 := OL29.keep Kq33 (allS n0_b11 (allS n0_tt14 all0))
    have KP33 := KP29.trans Kq33 (allS (Or.inr ws_b11) (allS (Or.inr ws_tt14) all0))
    show OwnOk p e below _ (T33.setTop (mkF m 26 #[.val (.ref b)] [(.ref b11)]))
    refine own_callV X33 hx hZ21 (y := (⟨"java/lang/StringBuilder", "toString", "()Ljava/lang/String;"⟩ : MethodName)) (z := (⟨"java/lang/StringBuilder", "toString", "()Ljava/lang/String;"⟩ : MethodName)) hown21 (wd_116 hw) (wd_117 hw) (notFace_of_selects (args := #[]) (mvT hZ21 (wd_119 hw))) (wd_119 hw) (wd_118 hw) (wd_20 hw) (wd_120 hw) (by decide) (j_toS l Z a0 hw b11 tt14 kk14 16 (fun q => if ((0 + (Jvm.Free.SBG.digits (own_ab x) + Jvm.Free.SBG.GetChars.sgn x)) + 5) + (Jvm.Free.SBG.digits (own_ab y) + Jvm.Free.SBG.GetChars.sgn y) - (Jvm.Free.SBG.digits (own_ab y) + Jvm.Free.SBG.GetChars.sgn y) ≤ q ∧ q < ((0 + (Jvm.Free.SBG.digits (own_ab x) + Jvm.Free.SBG.GetChars.sgn x)) + 5) + (Jvm.Free.SBG.digits (own_ab y) + Jvm.Free.SBG.GetChars.sgn y) then own_dg (own_ab y) y (q - (((0 + (Jvm.Free.SBG.digits (own_ab x) + Jvm.Free.SBG.GetChars.sgn x)) + 5) + (Jvm.Free.SBG.digits (own_ab y) + Jvm.Free.SBG.GetChars.sgn y) - (Jvm.Free.SBG.digits (own_ab y) + Jvm.Free.SBG.GetChars.sgn y))) else (fun j => if (0 + (Jvm.Free.SBG.digits (own_ab x) + Jvm.Free.SBG.GetChars.sgn x)) ≤ j ∧ j < (0 + (Jvm.Free.SBG.digits (own_ab x) + Jvm.Free.SBG.GetChars.sgn x)) + 5 then (fun j => [(32 : Int32), (97 : Int32), (110 : Int32), (100 : Int32), (32 : Int32)].getD j 0) (0 + (j - (0 + (Jvm.Free.SBG.digits (own_ab x) + Jvm.Free.SBG.GetChars.sgn x)))) else (fun q => if 0 + (Jvm.Free.SBG.digits (own_ab x) + Jvm.Free.SBG.GetChars.sgn x) - (Jvm.Free.SBG.digits (own_ab x) + Jvm.Free.SBG.GetChars.sgn x) ≤ q ∧ q < 0 + (Jvm.Free.SBG.digits (own_ab x) + Jvm.Free.SBG.GetChars.sgn x) then own_dg (own_ab x) x (q - (0 + (Jvm.Free.SBG.digits (own_ab x) + Jvm.Free.SBG.GetChars.sgn x) - (Jvm.Free.SBG.digits (own_ab x) + Jvm.Free.SBG.GetChars.sgn x))) else (fun _ => 0) q) j) q) (((0 + (Jvm.Free.SBG.digits (own_ab x) + Jvm.Free.SBG.GetChars.sgn x)) + 5) + (Jvm.Free.SBG.digits (own_ab y) + Jvm.Free.SBG.GetChars.sgn y)) cz T33.heap n0 OL33 SC hcz E_33 fv33 fc33 fn33 et33 vt33 n0_b11 n0_tt14 (Nat.ne_of_lt lt_b11_tt14) (by omega) (by omega)) rfl (argsL := []) (rest := []) E_33 (by rw [hml]; rfl) (lenOf pd_27 rfl) rfl rfl (W := 0) rfl (hb hby d3_26) (by decide) (by decide) (by decide) (by decide) (fun T35 v35 L35 X35 hQ35 => ?_)
    obtain ⟨aa35, uu35, ku35, rfl, Nq35, Kq35, ga35, gu35, ea35, fv35, fc35, vu35⟩ := hQ35
    have N35 := Fr.app N33 Nq35
    have hB35 := hB33.keep Kq35 own_saf0
    have sf_tt14_36 := hB33.sKeep Kq35 own_saf0 sf_tt14_34
    have OL35 := OL33.keep Kq35 all0
    have KP35 := KP33.trans Kq35 all0
    show OwnOk p e below _ (T35.setTop (mkF m 29 #[.val (.ref b)] [(.ref aa35)]))
    have eT : ((0 + (Jvm.Free.SBG.digits (own_ab x) + Jvm.Free.SBG.GetChars.sgn x)) + 5) + (Jvm.Free.SBG.digits (own_ab y) + Jvm.Free.SBG.GetChars.sgn y) = (own_sz x + 5 + own_sz y) := by omega
    rw [eT] at vu35
    refine own_retRH X35 hB35 hZ21 (own_ew hw) hx (t := (.object "java/lang/String")) (show meth.sig.returnType = some (.object "java/lang/String") from hret) rfl hlk rfl (hb hby d3_29) rfl (Nat.le_of_ble_eq_true rfl) (Nat.le_of_ble_eq_true rfl) ?_
    refine ⟨aa35, uu35, ku35, _, rfl, N35, KP35, fun j hj => ?_, ea35, fv35, fc35, vu35⟩
    dsimp only
    unfold own_pr
    by_cases q1 : j < own_sz x
    · rw [if_neg (by omega), if_neg (by omega), if_pos (by omega), if_pos q1]; congr 1; omega
    · by_cases q2 : j < own_sz x + 5
      · rw [if_neg (by omega), if_pos (by omega), if_neg q1, if_pos q2]; congr 1; omega
      · rw [if_pos (by omega), if_neg q1, if_neg q2]; congr 1; omega
  · show OwnOk p e below _ (T32.setTop (mkF m 23 #[.val (.ref b)] [(.int y), (.ref b11)]))
    refine own_callV X32 hx hZ21 (y := (⟨"java/lang/StringBuilder", "append", "(I)Ljava/lang/StringBuilder;"⟩ : MethodName)) (z := (⟨"java/lang/StringBuilder", "append", "(I)Ljava/lang/StringBuilder;"⟩ : MethodName)) hown21 (wd_38 hw) (wd_39 hw) (notFace_of_selects (args := #[]) (mvT hZ21 (wd_41 hw))) (wd_41 hw) (wd_40 hw) (wd_20 hw) (wd_42 hw) (by decide) (j_sbIg l Z a0 hw b11 tt14 kk14 (fun j => if (0 + (Jvm.Free.SBG.digits (own_ab x) + Jvm.Free.SBG.GetChars.sgn x)) ≤ j ∧ j < (0 + (Jvm.Free.SBG.digits (own_ab x) + Jvm.Free.SBG.GetChars.sgn x)) + 5 then (fun j => [(32 : Int32), (97 : Int32), (110 : Int32), (100 : Int32), (32 : Int32)].getD j 0) (0 + (j - (0 + (Jvm.Free.SBG.digits (own_ab x) + Jvm.Free.SBG.GetChars.sgn x)))) else (fun q => if 0 + (Jvm.Free.SBG.digits (own_ab x) + Jvm.Free.SBG.GetChars.sgn x) - (Jvm.Free.SBG.digits (own_ab x) + Jvm.Free.SBG.GetChars.sgn x) ≤ q ∧ q < 0 + (Jvm.Free.SBG.digits (own_ab x) + Jvm.Free.SBG.GetChars.sgn x) then own_dg (own_ab x) x (q - (0 + (Jvm.Free.SBG.digits (own_ab x) + Jvm.Free.SBG.GetChars.sgn x) - (Jvm.Free.SBG.digits (own_ab x) + Jvm.Free.SBG.GetChars.sgn x))) else (fun _ => 0) q) j) ((0 + (Jvm.Free.SBG.digits (own_ab x) + Jvm.Free.SBG.GetChars.sgn x)) + 5) y (own_ab y) cz d1 d2 k1 k2 T29.heap n0 OL29 SC hcz SO SD VO VD WO WD E_29 fv29 fc29 fn29 et29 vt29 n0_b11 n0_tt14 (Nat.ne_of_lt lt_b11_tt14) (own_ab_le y) (own_ab_neg y) hlt1 hlt2 (by omega) (by omega) (by omega)) e32 (argsL := [(.int y)]) (rest := []) E_29 (by rw [hml]; rfl) (lenOf pd_25 rfl) rfl rfl (W := 0) rfl (hb hby d3_23) (by decide) (by decide) (by decide) (by decide) (fun T37 v37 L37 X37 hQ37 => ?_)
    obtain ⟨rfl, Nq37, Kq37, tt37, kk37, gt37, E_37, fv37, fc37, fn37, et37, vt37⟩ := hQ37
    have N37 := Fr.app N29 Nq37
    have E_b_38 := ((E_b_22.ext E21).keep Kq29)
    have lt_b_tt37 : b < tt37 := Nat.lt_of_lt_of_le E_b_38.lt gt37
    have lt_b11_tt37 : b11 < tt37 := Nat.lt_of_lt_of_le E_29.lt gt37
    have lt_tt14_tt37 : tt14 < tt37 := Nat.lt_of_lt_of_le et29.lt gt37
    have E_ls21_39 := (xa21.keep Kq29)
    have lt_ls21_tt37 : ls21 < tt37 := Nat.lt_of_lt_of_le E_ls21_39.lt gt37
    have V_lv21_40 := (av21.keep Kq29 (ninS (Ne.symm nb_b11_21) (ninS (Ne.symm nb_tt14_21) nin0)))
    have lt_lv21_tt37 : lv21 < tt37 := Nat.lt_of_lt_of_le V_lv21_40.lt gt37
    have n0_tt37 : n0 ≤ tt37 := Nat.le_trans (own_n0 OL29) gt37
    have ws_tt37 : h0.size ≤ tt37 := Nat.le_trans KP29.1 gt37
    have hB37 := hB29.keep Kq37 (own_safS (own_safE hZ21 E_29 (by decide) (by decide)) own_saf0)
    have sf_tt14_41 := hB29.sKeep Kq37 (own_safS (own_safE hZ21 E_29 (by decide) (by decide)) own_saf0) sf_tt14_30
    have sf_tt37_42 := hB29.sNewK Kq37 (own_safS (own_safE hZ21 E_29 (by decide) (by decide)) own_saf0) gt37
    have OL37 := OL29.keep Kq37 (allS n0_b11 all0)
    have KP37 := KP29.trans Kq37 (allS (Or.inr ws_b11) all0)
    show OwnOk p e below _ (T37.setTop (mkF m 26 #[.val (.ref b)] [(.ref b11)]))
    refine own_callV X37 hx hZ21 (y := (⟨"java/lang/StringBuilder", "toString", "()Ljava/lang/String;"⟩ : MethodName)) (z := (⟨"java/lang/StringBuilder", "toString", "()Ljava/lang/String;"⟩ : MethodName)) hown21 (wd_116 hw) (wd_117 hw) (notFace_of_selects (args := #[]) (mvT hZ21 (wd_119 hw))) (wd_119 hw) (wd_118 hw) (wd_20 hw) (wd_120 hw) (by decide) (j_toS l Z a0 hw b11 tt37 kk37 34 (fun q => if ((0 + (Jvm.Free.SBG.digits (own_ab x) + Jvm.Free.SBG.GetChars.sgn x)) + 5) + (Jvm.Free.SBG.digits (own_ab y) + Jvm.Free.SBG.GetChars.sgn y) - (Jvm.Free.SBG.digits (own_ab y) + Jvm.Free.SBG.GetChars.sgn y) ≤ q ∧ q < ((0 + (Jvm.Free.SBG.digits (own_ab x) + Jvm.Free.SBG.GetChars.sgn x)) + 5) + (Jvm.Free.SBG.digits (own_ab y) + Jvm.Free.SBG.GetChars.sgn y) then own_dg (own_ab y) y (q - (((0 + (Jvm.Free.SBG.digits (own_ab x) + Jvm.Free.SBG.GetChars.sgn x)) + 5) + (Jvm.Free.SBG.digits (own_ab y) + Jvm.Free.SBG.GetChars.sgn y) - (Jvm.Free.SBG.digits (own_ab y) + Jvm.Free.SBG.GetChars.sgn y))) else (fun j => if 0 ≤ j ∧ j < 0 + 16 then (fun j => if (0 + (Jvm.Free.SBG.digits (own_ab x) + Jvm.Free.SBG.GetChars.sgn x)) ≤ j ∧ j < (0 + (Jvm.Free.SBG.digits (own_ab x) + Jvm.Free.SBG.GetChars.sgn x)) + 5 then (fun j => [(32 : Int32), (97 : Int32), (110 : Int32), (100 : Int32), (32 : Int32)].getD j 0) (0 + (j - (0 + (Jvm.Free.SBG.digits (own_ab x) + Jvm.Free.SBG.GetChars.sgn x)))) else (fun q => if 0 + (Jvm.Free.SBG.digits (own_ab x) + Jvm.Free.SBG.GetChars.sgn x) - (Jvm.Free.SBG.digits (own_ab x) + Jvm.Free.SBG.GetChars.sgn x) ≤ q ∧ q < 0 + (Jvm.Free.SBG.digits (own_ab x) + Jvm.Free.SBG.GetChars.sgn x) then own_dg (own_ab x) x (q - (0 + (Jvm.Free.SBG.digits (own_ab x) + Jvm.Free.SBG.GetChars.sgn x) - (Jvm.Free.SBG.digits (own_ab x) + Jvm.Free.SBG.GetChars.sgn x))) else (fun _ => 0) q) j) (0 + (j - 0)) else (fun _ => 0) j) q) (((0 + (Jvm.Free.SBG.digits (own_ab x) + Jvm.Free.SBG.GetChars.sgn x)) + 5) + (Jvm.Free.SBG.digits (own_ab y) + Jvm.Free.SBG.GetChars.sgn y)) cz T37.heap n0 OL37 SC hcz E_37 fv37 fc37 fn37 et37 vt37 n0_b11 n0_tt37 (Nat.ne_of_lt lt_b11_tt37) (by omega) (by omega)) rfl (argsL := []) (rest := []) E_37 (by rw [hml]; rfl) (lenOf pd_27 rfl) rfl rfl (W := 0) rfl (hb hby d3_26) (by decide) (by decide) (by decide) (by decide) (fun T43 v43 L43 X43 hQ43 => ?_)
    obtain ⟨aa43, uu43, ku43, rfl, Nq43, Kq43, ga43, gu43, ea43, fv43, fc43, vu43⟩ := hQ43
    have N43 := Fr.app N37 Nq43
    have hB43 := hB37.keep Kq43 own_saf0
    have sf_tt14_44 := hB37.sKeep Kq43 own_saf0 sf_tt14_41
    have sf_tt37_45 := hB37.sKeep Kq43 own_saf0 sf_tt37_42
    have OL43 := OL37.keep Kq43 all0
    have KP43 := KP37.trans Kq43 all0
    show OwnOk p e below _ (T43.setTop (mkF m 29 #[.val (.ref b)] [(.ref aa43)]))
    have eT : ((0 + (Jvm.Free.SBG.digits (own_ab x) + Jvm.Free.SBG.GetChars.sgn x)) + 5) + (Jvm.Free.SBG.digits (own_ab y) + Jvm.Free.SBG.GetChars.sgn y) = (own_sz x + 5 + own_sz y) := by omega
    rw [eT] at vu43
    refine own_retRH X43 hB43 hZ21 (own_ew hw) hx (t := (.object "java/lang/String")) (show meth.sig.returnType = some (.object "java/lang/String") from hret) rfl hlk rfl (hb hby d3_29) rfl (Nat.le_of_ble_eq_true rfl) (Nat.le_of_ble_eq_true rfl) ?_
    refine ⟨aa43, uu43, ku43, _, rfl, N43, KP43, fun j hj => ?_, ea43, fv43, fc43, vu43⟩
    dsimp only
    unfold own_pr
    by_cases q1 : j < own_sz x
    · rw [if_neg (by omega), if_pos (by omega), if_neg (by omega), if_pos (by omega), if_pos q1]; congr 1; omega
    · by_cases q2 : j < own_sz x + 5
      · rw [if_neg (by omega), if_pos (by omega), if_pos (by omega), if_neg q1, if_pos q2]; congr 1; omega
      · rw [if_pos (by omega), if_neg q1, if_neg q2]; congr 1; omega
def Q_m_exp (x y : Int32) (i : Nat) (h0 : Heap) (n0 : Nat) (v : Option Value) (h : Heap) (L : List Loc) : Prop := v = some (.int (own_pr x y i)) ∧ Fr n0 L ∧ Keep h0 h []
set_option maxRecDepth 65536 in
set_option maxHeartbeats 40000000 in
theorem m_exp (l : Launch) (Z : State) (a0 : Array Value) (hw : ∀ d ∈ tables_1, d.before a0 Z = true) (x y : Int32) (i : Nat) (l1 l2 ii : Int32) (cz : Int32) (fm : Value) (hfm : fm.isRef = true) (h0 : Heap) (n0 : Nat) (OL : Old Z n0 h0) (SC : Sta Z Z.heap "java/lang/String" "COMPACT_STRINGS" "Z" (.int cz)) (hcz : ¬ cz = 0) (SF : Sta Z Z.heap "jdk/internal/util/Preconditions" "SIOOBE_FORMATTER" "Ljava/util/function/BiFunction;" fm) (hi : i < (own_sz x + 5 + own_sz y)) (hl1 : l1 = Int32.ofNat (own_sz x)) (hl2 : l2 = Int32.ofNat (own_sz y)) (hii : ii = Int32.ofNat i) :
    own_MetH l Z own_EL [] (⟨"com/example/winnower/winnower/narrowing/PairToStringPinLaw", "expected", "(IIIII)C"⟩ : MethodName) method_3_code 6 (some .char) ({ frames := 4, cells := 2, slots := 24, locals := 70 } : Room) #[(.int x), (.int y), (.int l1), (.int l2), (.int ii)] h0 (Q_m_exp x y i h0 n0) := by
  refine own_bodyH (L0 := #[.val (.int x), .val (.int y), .val (.int l1), .val (.int l2), .val (.int ii), .unset]) (plainFor_of_name (by first | (simp [plainName, overriddenIn]; done) | decide +kernel)) (fun m => by first | (simp [entryFrame, mkF, argsToLocals, Value.category]; done) | rfl) ?_
  intro p e s m below meth c s₁ hx hby hml hZ hown hnm hret hlk X0 e0 hB hsf
  have N0 := Fr.nil n0
  have Z0 : n0 ≤ h0.size := OL.1 ▸ OL.2.1
  show OwnOk p e below _ (s₁.setTop (mkF m 0 #[.val (.int x), .val (.int y), .val (.int l1), .val (.int l2), .val (.int ii), .unset] []))
  subst hl1 hl2 hii
  have hx1 := own_sz_le x
  have hy1 := own_sz_le y
  have KP0 : Keep h0 h0 [] := Keep.refl h0 _
  show OwnOk p e below _ (s₁.setTop (mkF m 0 #[.val (.int x), .val (.int y), .val (.int (Int32.ofNat (own_sz x))), .val (.int (Int32.ofNat (own_sz y))), .val (.int (Int32.ofNat i)), .unset] []))
  refine own_up (fun tx kx => XS.iload X0.here hx rfl (hb hby d37_0) rfl kx) ?_
  show OwnOk p e below _ (s₁.setTop (mkF m 2 #[.val (.int x), .val (.int y), .val (.int (Int32.ofNat (own_sz x))), .val (.int (Int32.ofNat (own_sz y))), .val (.int (Int32.ofNat i)), .unset] [(.int (Int32.ofNat i))]))
  refine own_up (fun tx kx => XS.iloadN X0.here hx rfl (hb hby d37_2) rfl kx) ?_
  show OwnOk p e below _ (s₁.setTop (mkF m 3 #[.val (.int x), .val (.int y), .val (.int (Int32.ofNat (own_sz x))), .val (.int (Int32.ofNat (own_sz y))), .val (.int (Int32.ofNat i)), .unset] [(.int (Int32.ofNat (own_sz x))), (.int (Int32.ofNat i))]))
  by_cases h1 : (Int32.ofNat i) < (Int32.ofNat (own_sz x))
  · refine own_up (fun tx kx => XS.icmpNo X0.here hx rfl (hb hby d37_3) rfl (tlt h1).2.1 kx) ?_
    show OwnOk p e below _ (s₁.setTop (mkF m 6 #[.val (.int x), .val (.int y), .val (.int (Int32.ofNat (own_sz x))), .val (.int (Int32.ofNat (own_sz y))), .val (.int (Int32.ofNat i)), .unset] []))
    have q1 : i < own_sz x := Nat.lt_of_not_le fun q => own_nlt q (by omega) h1
    refine own_up (fun tx kx => XS.iloadN X0.here hx rfl (hb hby d37_6) rfl kx) ?_
    show OwnOk p e below _ (s₁.setTop (mkF m 7 #[.val (.int x), .val (.int y), .val (.int (Int32.ofNat (own_sz x))), .val (.int (Int32.ofNat (own_sz y))), .val (.int (Int32.ofNat i)), .unset] [(.int x)]))
    refine own_up (fun tx kx => XS.iloadN X0.here hx rfl (hb hby d37_7) rfl kx) ?_
    show OwnOk p e below _ (s₁.setTop (mkF m 8 #[.val (.int x), .val (.int y), .val (.int (Int32.ofNat (own_sz x))), .val (.int (Int32.ofNat (own_sz y))), .val (.int (Int32.ofNat i)), .unset] [(.int (Int32.ofNat (own_sz x))), (.int x)]))
    refine own_up (fun tx kx => XS.iload X0.here hx rfl (hb hby d37_8) rfl kx) ?_
    show OwnOk p e below _ (s₁.setTop (mkF m 10 #[.val (.int x), .val (.int y), .val (.int (Int32.ofNat (own_sz x))), .val (.int (Int32.ofNat (own_sz y))), .val (.int (Int32.ofNat i)), .unset] [(.int (Int32.ofNat i)), (.int (Int32.ofNat (own_sz x))), (.int x)]))
    refine own_callS X0 hx hZ (y := (⟨"com/example/winnower/winnower/narrowing/PairToStringPinLaw", "decChar", "(III)C"⟩ : MethodName)) hown (wd_201 hw) (wd_202 hw) (wd_161 hw) (wd_203 hw) (by decide) (l_decChar l Z a0 hw x i h0 n0 OL q1) e0 (argsL := [(.int x), (.int (Int32.ofNat (own_sz x))), (.int (Int32.ofNat i))]) (rest := []) (by rw [hml]; rfl) (lenOf pd_28 rfl) rfl rfl (W := 0) rfl (hb hby d37_10) (by decide) (by decide) (by decide) (by decide) (fun T11 v11 L11 X11 hQ11 => ?_)
    obtain ⟨rfl, Nq11, hh11⟩ := hQ11
    have N11 := Fr.app N0 Nq11
    show OwnOk p e below _ (T11.setTop (mkF m 13 #[.val (.int x), .val (.int y), .val (.int (Int32.ofNat (own_sz x))), .val (.int (Int32.ofNat (own_sz y))), .val (.int (Int32.ofNat i)), .unset] [(.int (own_dg (own_ab x) x i))]))
    refine own_retNH X11 hB hZ (own_ew hw) hx (t := .char) (show meth.sig.returnType = some .char from hret) (by simp) hlk (hb hby d37_13) (z' := own_pr x y i) (by rw [own_ch_dg]; unfold own_pr; rw [if_pos q1]) hh11 (Nat.le_of_ble_eq_true rfl) (Nat.le_of_ble_eq_true rfl) ?_
    exact ⟨rfl, N11, KP0⟩
  · refine own_up (fun tx kx => XS.icmpYes X0.here hx rfl (pc0 := 3) (pc' := 14) rfl (hb hby d37_3) rfl (flt h1).2.1 (by decide) (by decide) kx) ?_
    show OwnOk p e below _ (s₁.setTop (mkF m 14 #[.val (.int x), .val (.int y), .val (.int (Int32.ofNat (own_sz x))), .val (.int (Int32.ofNat (own_sz y))), .val (.int (Int32.ofNat i)), .unset] []))
    have q1 : ¬ i < own_sz x := fun q => h1 (own_lt q (by omega))
    refine own_up (fun tx kx => XS.iload X0.here hx rfl (hb hby d37_14) rfl kx) ?_
    show OwnOk p e below _ (s₁.setTop (mkF m 16 #[.val (.int x), .val (.int y), .val (.int (Int32.ofNat (own_sz x))), .val (.int (Int32.ofNat (own_sz y))), .val (.int (Int32.ofNat i)), .unset] [(.int (Int32.ofNat i))]))
    refine own_up (fun tx kx => XS.iloadN X0.here hx rfl (hb hby d37_16) rfl kx) ?_
    show OwnOk p e below _ (s₁.setTop (mkF m 17 #[.val (.int x), .val (.int y), .val (.int (Int32.ofNat (own_sz x))), .val (.int (Int32.ofNat (own_sz y))), .val (.int (Int32.ofNat i)), .unset] [(.int (Int32.ofNat (own_sz x))), (.int (Int32.ofNat i))]))
    refine own_up (fun tx kx => XS.isub X0.here hx rfl (hb hby d37_17) rfl kx) ?_
    show OwnOk p e below _ (s₁.setTop (mkF m 18 #[.val (.int x), .val (.int y), .val (.int (Int32.ofNat (own_sz x))), .val (.int (Int32.ofNat (own_sz y))), .val (.int (Int32.ofNat i)), .unset] [(.int ((Int32.ofNat i) - (Int32.ofNat (own_sz x))))]))
    rw [show ((Int32.ofNat i) - (Int32.ofNat (own_sz x))) = (Int32.ofNat (i - own_sz x)) from (Int32.ofNat_sub i (own_sz x) (by omega)).symm]
    show OwnOk p e below _ (s₁.setTop (mkF m 18 #[.val (.int x), .val (.int y), .val (.int (Int32.ofNat (own_sz x))), .val (.int (Int32.ofNat (own_sz y))), .val (.int (Int32.ofNat i)), .unset] [(.int (Int32.ofNat (i - own_sz x)))]))
    refine own_up (fun tx kx => XS.istore X0.here hx rfl (hb hby d37_18) rfl (l' := #[.val (.int x), .val (.int y), .val (.int (Int32.ofNat (own_sz x))), .val (.int (Int32.ofNat (own_sz y))), .val (.int (Int32.ofNat i)), .val (.int (Int32.ofNat (i - own_sz x)))]) rfl kx) ?_
    show OwnOk p e below _ (s₁.setTop (mkF m 20 #[.val (.int x), .val (.int y), .val (.int (Int32.ofNat (own_sz x))), .val (.int (Int32.ofNat (own_sz y))), .val (.int (Int32.ofNat i)), .val (.int (Int32.ofNat (i - own_sz x)))] []))
    refine own_up (fun tx kx => XS.iload X0.here hx rfl (hb hby d37_20) rfl kx) ?_
    show OwnOk p e below _ (s₁.setTop (mkF m 22 #[.val (.int x), .val (.int y), .val (.int (Int32.ofNat (own_sz x))), .val (.int (Int32.ofNat (own_sz y))), .val (.int (Int32.ofNat i)), .val (.int (Int32.ofNat (i - own_sz x)))] [(.int (Int32.ofNat (i - own_sz x)))]))
    refine own_up (fun tx kx => XS.iconst X0.here hx rfl (hb hby d37_22) kx) ?_
    show OwnOk p e below _ (s₁.setTop (mkF m 23 #[.val (.int x), .val (.int y), .val (.int (Int32.ofNat (own_sz x))), .val (.int (Int32.ofNat (own_sz y))), .val (.int (Int32.ofNat i)), .val (.int (Int32.ofNat (i - own_sz x)))] [(.int (5 : Int32)), (.int (Int32.ofNat (i - own_sz x)))]))
    by_cases h2 : (Int32.ofNat (i - own_sz x)) < (5 : Int32)
    · refine own_up (fun tx kx => XS.icmpNo X0.here hx rfl (hb hby d37_23) rfl (tlt h2).2.1 kx) ?_
      show OwnOk p e below _ (s₁.setTop (mkF m 26 #[.val (.int x), .val (.int y), .val (.int (Int32.ofNat (own_sz x))), .val (.int (Int32.ofNat (own_sz y))), .val (.int (Int32.ofNat i)), .val (.int (Int32.ofNat (i - own_sz x)))] []))
      have q2 : i - own_sz x < 5 := Nat.lt_of_not_le fun q => own_nlt (i := 5) q (by omega) h2
      refine own_ldcH X0 hB hx hZ (own_ew hw) hown (List.mem_of_getElem? (i := 1) rfl) (wd_197 hw) (own_wS hw) e0 (vs := own_F 5 (fun j => [(32 : Int32), (97 : Int32), (110 : Int32), (100 : Int32), (32 : Int32)].getD j 0)) (z := Int32.ofNat 5) ⟨by decide, by decide⟩ (by decide) (by decide) (hb hby d37_26) (n := 20) (by decide) (by decide) (by decide) (by decide) (fun s12 ls12 lv12 kv12 T12 h12 X12 hB12 hZ12 hown12 e12 E12 xa12 fc12 fv12 av12 sf12 => ?_)
      have OL12 := OL.ext E12
      have KP12 := KP0.ext E12
      show OwnOk p e below _ (T12.setTop (mkF m 28 #[.val (.int x), .val (.int y), .val (.int (Int32.ofNat (own_sz x))), .val (.int (Int32.ofNat (own_sz y))), .val (.int (Int32.ofNat i)), .val (.int (Int32.ofNat (i - own_sz x)))] [(.ref ls12)]))
      refine own_up (fun tx kx => XS.iload X12.here hx rfl (hb hby d37_28) rfl kx) ?_
      show OwnOk p e below _ (T12.setTop (mkF m 30 #[.val (.int x), .val (.int y), .val (.int (Int32.ofNat (own_sz x))), .val (.int (Int32.ofNat (own_sz y))), .val (.int (Int32.ofNat i)), .val (.int (Int32.ofNat (i - own_sz x)))] [(.int (Int32.ofNat (i - own_sz x))), (.ref ls12)]))
      refine own_callV X12 hx hZ12 (y := (⟨"java/lang/String", "charAt", "(I)C"⟩ : MethodName)) (z := (⟨"java/lang/String", "charAt", "(I)C"⟩ : MethodName)) hown12 (wd_172 hw) (wd_173 hw) (notFace_of_selects (args := #[]) (mvT hZ12 (wd_175 hw))) (wd_175 hw) (wd_174 hw) (wd_32 hw) (wd_176 hw) (by decide) (j_charAt l Z a0 hw ls12 lv12 kv12 5 (fun j => [(32 : Int32), (97 : Int32), (110 : Int32), (100 : Int32), (32 : Int32)].getD j 0) cz (i - own_sz x) fm hfm h12 n0 OL12 SC hcz SF xa12 fv12 fc12 av12 q2 (by decide)) e12 (argsL := [(.int (Int32.ofNat (i - own_sz x)))]) (rest := []) xa12 (by rw [hml]; rfl) (lenOf pd_29 rfl) rfl rfl (W := 0) rfl (hb hby d37_30) (by decide) (by decide) (by decide) (by decide) (fun T13 v13 L13 X13 hQ13 => ?_)
      obtain ⟨rfl, Nq13, hh13⟩ := hQ13
      have N13 := Fr.app N0 Nq13
      show OwnOk p e below _ (T13.setTop (mkF m 33 #[.val (.int x), .val (.int y), .val (.int (Int32.ofNat (own_sz x))), .val (.int (Int32.ofNat (own_sz y))), .val (.int (Int32.ofNat i)), .val (.int (Int32.ofNat (i - own_sz x)))] [(.int (own_c8 ((fun j => [(32 : Int32), (97 : Int32), (110 : Int32), (100 : Int32), (32 : Int32)].getD j 0) (i - own_sz x))))]))
      refine own_retNH X13 hB12 hZ12 (own_ew hw) hx (t := .char) (show meth.sig.returnType = some .char from hret) (by simp) hlk (hb hby d37_33) (z' := own_pr x y i) (by dsimp only; rw [(own_l5 _ q2).1, (own_l5 _ q2).2]; unfold own_pr; rw [if_neg q1, if_pos (by omega)]) hh13 (Nat.le_of_ble_eq_true rfl) (Nat.le_of_ble_eq_true rfl) ?_
      exact ⟨rfl, N13, KP12⟩
    · refine own_up (fun tx kx => XS.icmpYes X0.here hx rfl (pc0 := 23) (pc' := 34) rfl (hb hby d37_23) rfl (flt h2).2.1 (by decide) (by decide) kx) ?_
      show OwnOk p e below _ (s₁.setTop (mkF m 34 #[.val (.int x), .val (.int y), .val (.int (Int32.ofNat (own_sz x))), .val (.int (Int32.ofNat (own_sz y))), .val (.int (Int32.ofNat i)), .val (.int (Int32.ofNat (i - own_sz x)))] []))
      have q2 : ¬ i - own_sz x < 5 := fun q => h2 (own_lt (n := 5) q (by omega))
      refine own_up (fun tx kx => XS.iloadN X0.here hx rfl (hb hby d37_34) rfl kx) ?_
      show OwnOk p e below _ (s₁.setTop (mkF m 35 #[.val (.int x), .val (.int y), .val (.int (Int32.ofNat (own_sz x))), .val (.int (Int32.ofNat (own_sz y))), .val (.int (Int32.ofNat i)), .val (.int (Int32.ofNat (i - own_sz x)))] [(.int y)]))
      refine own_up (fun tx kx => XS.iloadN X0.here hx rfl (hb hby d37_35) rfl kx) ?_
      show OwnOk p e below _ (s₁.setTop (mkF m 36 #[.val (.int x), .val (.int y), .val (.int (Int32.ofNat (own_sz x))), .val (.int (Int32.ofNat (own_sz y))), .val (.int (Int32.ofNat i)), .val (.int (Int32.ofNat (i - own_sz x)))] [(.int (Int32.ofNat (own_sz y))), (.int y)]))
      refine own_up (fun tx kx => XS.iload X0.here hx rfl (hb hby d37_36) rfl kx) ?_
      show OwnOk p e below _ (s₁.setTop (mkF m 38 #[.val (.int x), .val (.int y), .val (.int (Int32.ofNat (own_sz x))), .val (.int (Int32.ofNat (own_sz y))), .val (.int (Int32.ofNat i)), .val (.int (Int32.ofNat (i - own_sz x)))] [(.int (Int32.ofNat (i - own_sz x))), (.int (Int32.ofNat (own_sz y))), (.int y)]))
      refine own_up (fun tx kx => XS.iconst X0.here hx rfl (hb hby d37_38) kx) ?_
      show OwnOk p e below _ (s₁.setTop (mkF m 39 #[.val (.int x), .val (.int y), .val (.int (Int32.ofNat (own_sz x))), .val (.int (Int32.ofNat (own_sz y))), .val (.int (Int32.ofNat i)), .val (.int (Int32.ofNat (i - own_sz x)))] [(.int (5 : Int32)), (.int (Int32.ofNat (i - own_sz x))), (.int (Int32.ofNat (own_sz y))), (.int y)]))
      refine own_up (fun tx kx => XS.isub X0.here hx rfl (hb hby d37_39) rfl kx) ?_
      show OwnOk p e below _ (s₁.setTop (mkF m 40 #[.val (.int x), .val (.int y), .val (.int (Int32.ofNat (own_sz x))), .val (.int (Int32.ofNat (own_sz y))), .val (.int (Int32.ofNat i)), .val (.int (Int32.ofNat (i - own_sz x)))] [(.int ((Int32.ofNat (i - own_sz x)) - (5 : Int32))), (.int (Int32.ofNat (own_sz y))), (.int y)]))
      rw [show ((Int32.ofNat (i - own_sz x)) - (5 : Int32)) = (Int32.ofNat (i - (own_sz x + 5))) from (show (Int32.ofNat (i - own_sz x)) - (5 : Int32) = Int32.ofNat (i - (own_sz x + 5)) by rw [show (5 : Int32) = Int32.ofNat 5 from rfl, ← Int32.ofNat_sub _ _ (by omega), Nat.sub_sub])]
      show OwnOk p e below _ (s₁.setTop (mkF m 40 #[.val (.int x), .val (.int y), .val (.int (Int32.ofNat (own_sz x))), .val (.int (Int32.ofNat (own_sz y))), .val (.int (Int32.ofNat i)), .val (.int (Int32.ofNat (i - own_sz x)))] [(.int (Int32.ofNat (i - (own_sz x + 5)))), (.int (Int32.ofNat (own_sz y))), (.int y)]))
      refine own_callS X0 hx hZ (y := (⟨"com/example/winnower/winnower/narrowing/PairToStringPinLaw", "decChar", "(III)C"⟩ : MethodName)) hown (wd_201 hw) (wd_202 hw) (wd_161 hw) (wd_203 hw) (by decide) (l_decChar l Z a0 hw y (i - (own_sz x + 5)) h0 n0 OL (by omega)) e0 (argsL := [(.int y), (.int (Int32.ofNat (own_sz y))), (.int (Int32.ofNat (i - (own_sz x + 5))))]) (rest := []) (by rw [hml]; rfl) (lenOf pd_28 rfl) rfl rfl (W := 0) rfl (hb hby d37_40) (by decide) (by decide) (by decide) (by decide) (fun T14 v14 L14 X14 hQ14 => ?_)
      obtain ⟨rfl, Nq14, hh14⟩ := hQ14
      have N14 := Fr.app N0 Nq14
      show OwnOk p e below _ (T14.setTop (mkF m 43 #[.val (.int x), .val (.int y), .val (.int (Int32.ofNat (own_sz x))), .val (.int (Int32.ofNat (own_sz y))), .val (.int (Int32.ofNat i)), .val (.int (Int32.ofNat (i - own_sz x)))] [(.int (own_dg (own_ab y) y (i - (own_sz x + 5))))]))
      refine own_retNH X14 hB hZ (own_ew hw) hx (t := .char) (show meth.sig.returnType = some .char from hret) (by simp) hlk (hb hby d37_43) (z' := own_pr x y i) (by rw [own_ch_dg]; unfold own_pr; rw [if_neg q1, if_neg (by omega)]) hh14 (Nat.le_of_ble_eq_true rfl) (Nat.le_of_ble_eq_true rfl) ?_
      exact ⟨rfl, N14, KP0⟩
def Q_rm0 (n0 : Nat) (v : Option Value) (h : Heap) (L : List Loc) : Prop := v = some (.int (1 : Int32)) ∧ Fr n0 L
set_option maxRecDepth 65536 in
set_option maxHeartbeats 40000000 in
theorem rm0 (l : Launch) (Z : State) (a0 : Array Value) (hw : ∀ d ∈ tables_1, d.before a0 Z = true) (x y k : Int32) (cz : Int32) (d1 d2 : Addr) (k1 k2 : ClassId) (fm : Value) (hfm : fm.isRef = true) (h0 : Heap) (n0 : Nat) (OL : Old Z n0 h0) (SC : Sta Z Z.heap "java/lang/String" "COMPACT_STRINGS" "Z" (.int cz)) (hcz : ¬ cz = 0) (SO : Sta Z Z.heap "java/lang/Integer" "DigitOnes" "[B" (.ref d1)) (SD : Sta Z Z.heap "java/lang/Integer" "DigitTens" "[B" (.ref d2)) (VO : Arv Z Z.heap d1 k1 .byte (Int32.ofNat 100) (own_F 100 fun r => Int32.ofNat (48 + r % 10)) (.int 0)) (VD : Arv Z Z.heap d2 k2 .byte (Int32.ofNat 100) (own_F 100 fun r => Int32.ofNat (48 + r / 10)) (.int 0)) (WO : (Jvm.Cond.laysStatic "java/lang/Integer" "DigitOnes" "[B").before a0 Z = true) (WD : (Jvm.Cond.laysStatic "java/lang/Integer" "DigitTens" "[B").before a0 Z = true) (SF : Sta Z Z.heap "jdk/internal/util/Preconditions" "SIOOBE_FORMATTER" "Ljava/util/function/BiFunction;" fm) (hlt1 : d1 < n0) (hlt2 : d2 < n0) :
    own_MetH l Z own_EL [] Jvm.Pilot.@@N@@.x code maxLocals ret room_1 #[(.int x), (.int y), (.int k)] h0 (Q_rm0 n0) := by
  refine own_bodyH (L0 := #[.val (.int x), .val (.int y), .val (.int k), .unset, .unset, .unset, .unset, .unset]) (plainFor_of_name (by first | (simp [plainName, overriddenIn]; done) | decide +kernel)) (fun m => by first | (simp [entryFrame, mkF, argsToLocals, Value.category, maxLocals]; done) | rfl) ?_
  intro p e s m below meth c s₁ hx hby hml hZ hown hnm hret hlk X0 e0 hB hsf
  have hml : c.maxLocals = 8 := hml
  have N0 := Fr.nil n0
  have Z0 : n0 ≤ h0.size := OL.1 ▸ OL.2.1
  show OwnOk p e below _ (s₁.setTop (mkF m 0 #[.val (.int x), .val (.int y), .val (.int k), .unset, .unset, .unset, .unset, .unset] []))
  have hx1 := own_sz_le x
  have hy1 := own_sz_le y
  show OwnOk p e below _ (s₁.setTop (mkF m 0 #[.val (.int x), .val (.int y), .val (.int k), .unset, .unset, .unset, .unset, .unset] []))
  obtain ⟨T11, h11, X11, e11, E11, A11, D11, -, st11⟩ := newO X0 hx hZ hown (wd_0 hw) (wd_1 hw) (wd_2 hw) e0 (g := (mkF m 0 #[.val (.int x), .val (.int y), .val (.int k), .unset, .unset, .unset, .unset, .unset] [])) rfl (hb hby at_0) (by decide) (by decide)
  obtain ⟨b11, g11⟩ : ∃ z, z = h0.size := ⟨_, rfl⟩
  rw [← g11] at A11 D11 st11
  have sz_b11 : h0.size ≤ b11 := Nat.le_of_eq g11.symm
  have n0_b11 : n0 ≤ b11 := Nat.le_trans (own_n0 OL) sz_b11
  have F_first_b11 : Fld Z h11 b11 "com/example/winnower/winnower/narrowing/Pair" "first" "I" (.int (0 : Int32)) := D11 (Or.inr (wd_10 hw)) (ty := .int) (by decide)
  have F_second_b11 : Fld Z h11 b11 "com/example/winnower/winnower/narrowing/Pair" "second" "I" (.int (0 : Int32)) := D11 (Or.inr (wd_12 hw)) (ty := .int) (by decide)
  have OL13 := OL.ext E11
  have hB13 := hB.ext E11
  refine own_up st11 ?_
  show OwnOk p e below _ (T11.setTop (mkF m 3 #[.val (.int x), .val (.int y), .val (.int k), .unset, .unset, .unset, .unset, .unset] [(.ref b11)]))
  refine own_up (fun tx kx => XS.dup X11.here hx rfl (hb hby at_3) rfl rfl kx) ?_
  show OwnOk p e below _ (T11.setTop (mkF m 4 #[.val (.int x), .val (.int y), .val (.int k), .unset, .unset, .unset, .unset, .unset] [(.ref b11), (.ref b11)]))
  refine own_up (fun tx kx => XS.iloadN X11.here hx rfl (hb hby at_4) rfl kx) ?_
  show OwnOk p e below _ (T11.setTop (mkF m 5 #[.val (.int x), .val (.int y), .val (.int k), .unset, .unset, .unset, .unset, .unset] [(.int x), (.ref b11), (.ref b11)]))
  refine own_up (fun tx kx => XS.iloadN X11.here hx rfl (hb hby at_5) rfl kx) ?_
  show OwnOk p e below _ (T11.setTop (mkF m 6 #[.val (.int x), .val (.int y), .val (.int k), .unset, .unset, .unset, .unset, .unset] [(.int y), (.int x), (.ref b11), (.ref b11)]))
  refine own_callC X11 hx hZ (y := (⟨"com/example/winnower/winnower/narrowing/Pair", "<init>", "(II)V"⟩ : MethodName)) rfl hown (wd_3 hw) (wd_4 hw) (wd_2 hw) (wd_5 hw) (by decide) (m_pinit l Z a0 hw b11 x y h11 n0 OL13 A11 F_first_b11 F_second_b11 n0_b11) e11 (argsL := [(.int x), (.int y)]) (rest := [(.ref b11)]) (a := b11) (by rw [hml]; rfl) (lenOf pd_14 rfl) rfl rfl (W := 1) rfl (hb hby at_6) (by decide) (by decide) (by decide) (by decide) (fun T14 v14 L14 X14 hQ14 => ?_)
  obtain ⟨rfl, Nq14, Kq14, ea14, ff14, fs14⟩ := hQ14
  have N14 := Fr.app N0 Nq14
  have hB14 := hB13.keep Kq14 (own_safS (own_safE hZ A11 (by decide) (by decide)) own_saf0)
  have OL14 := OL13.keep Kq14 (allS n0_b11 all0)
  show OwnOk p e below _ (T14.setTop (mkF m 9 #[.val (.int x), .val (.int y), .val (.int k), .unset, .unset, .unset, .unset, .unset] [(.ref b11)]))
  refine own_up (fun tx kx => XS.astoreN X14.here hx rfl (hb hby at_9) rfl rfl (l' := #[.val (.int x), .val (.int y), .val (.int k), .val (.ref b11), .unset, .unset, .unset, .unset]) rfl kx) ?_
  show OwnOk p e below _ (T14.setTop (mkF m 10 #[.val (.int x), .val (.int y), .val (.int k), .val (.ref b11), .unset, .unset, .unset, .unset] []))
  refine own_up (fun tx kx => XS.aloadN X14.here hx rfl (hb hby at_10) rfl rfl kx) ?_
  show OwnOk p e below _ (T14.setTop (mkF m 11 #[.val (.int x), .val (.int y), .val (.int k), .val (.ref b11), .unset, .unset, .unset, .unset] [(.ref b11)]))
  refine own_callVH X14 hB14 (own_ew hw) (sf := []) own_saf0 own_lt0 hx hZ (y := (⟨"com/example/winnower/winnower/narrowing/Pair", "toString", "()Ljava/lang/String;"⟩ : MethodName)) (z := (⟨"com/example/winnower/winnower/narrowing/Pair", "toString", "()Ljava/lang/String;"⟩ : MethodName)) hown (wd_13 hw) (wd_14 hw) (notFace_of_selects (args := #[]) (mvT hZ (wd_16 hw))) (wd_16 hw) (wd_15 hw) (wd_2 hw) (wd_17 hw) (by decide) (m_toS l Z a0 hw b11 x y cz d1 d2 k1 k2 T14.heap n0 OL14 SC hcz SO SD VO VD WO WD ea14 ff14 fs14 hlt1 hlt2) rfl (argsL := []) (rest := []) ea14 (by rw [hml]; rfl) (lenOf pd_27 rfl) rfl rfl (W := 0) rfl (hb hby at_11) (by decide) (by decide) (by decide) (by decide) (fun s15 T15 v15 L15 X15 hB15 hZ15 hown15 hQ15 sf15 => ?_)
  obtain ⟨aa15, uu15, ku15, gg15, rfl, Nq15, Kq15, hg15, ea15, fv15, fc15, vu15⟩ := hQ15
  have N15 := Fr.app N14 Nq15
  have OL15 := OL14.keep Kq15 all0
  show OwnOk p e below _ (T15.setTop (mkF m 14 #[.val (.int x), .val (.int y), .val (.int k), .val (.ref b11), .unset, .unset, .unset, .unset] [(.ref aa15)]))
  refine own_up (fun tx kx => XS.astore X15.here hx rfl (hb hby at_14) rfl rfl (l' := #[.val (.int x), .val (.int y), .val (.int k), .val (.ref b11), .val (.ref aa15), .unset, .unset, .unset]) rfl kx) ?_
  show OwnOk p e below _ (T15.setTop (mkF m 16 #[.val (.int x), .val (.int y), .val (.int k), .val (.ref b11), .val (.ref aa15), .unset, .unset, .unset] []))
  refine own_up (fun tx kx => XS.aload X15.here hx rfl (hb hby at_16) rfl rfl kx) ?_
  show OwnOk p e below _ (T15.setTop (mkF m 18 #[.val (.int x), .val (.int y), .val (.int k), .val (.ref b11), .val (.ref aa15), .unset, .unset, .unset] [(.ref aa15)]))
  refine own_up (fun tx kx => XS.ifnonnullYes X15.here hx rfl (pc0 := 18) (pc' := 23) rfl (hb hby at_18) rfl (by decide) (by decide) kx) ?_
  show OwnOk p e below _ (T15.setTop (mkF m 23 #[.val (.int x), .val (.int y), .val (.int k), .val (.ref b11), .val (.ref aa15), .unset, .unset, .unset] []))
  refine own_up (fun tx kx => XS.iloadN X15.here hx rfl (hb hby at_23) rfl kx) ?_
  show OwnOk p e below _ (T15.setTop (mkF m 24 #[.val (.int x), .val (.int y), .val (.int k), .val (.ref b11), .val (.ref aa15), .unset, .unset, .unset] [(.int x)]))
  refine own_callS X15 hx hZ15 (y := (⟨"com/example/winnower/winnower/narrowing/PairToStringPinLaw", "decLen", "(I)I"⟩ : MethodName)) hown15 (wd_159 hw) (wd_160 hw) (wd_161 hw) (wd_162 hw) (by decide) (l_decLen l Z a0 hw x T15.heap n0 OL15) rfl (argsL := [(.int x)]) (rest := []) (by rw [hml]; rfl) (lenOf pd_3 rfl) rfl rfl (W := 0) rfl (hb hby at_24) (by decide) (by decide) (by decide) (by decide) (fun T16 v16 L16 X16 hQ16 => ?_)
  obtain ⟨rfl, Nq16, hh16⟩ := hQ16
  have N16 := Fr.app N15 Nq16
  show OwnOk p e below _ (T16.setTop (mkF m 27 #[.val (.int x), .val (.int y), .val (.int k), .val (.ref b11), .val (.ref aa15), .unset, .unset, .unset] [(.int (Int32.ofNat (own_sz x)))]))
  refine own_up (fun tx kx => XS.istore X16.here hx rfl (hb hby at_27) rfl (l' := #[.val (.int x), .val (.int y), .val (.int k), .val (.ref b11), .val (.ref aa15), .val (.int (Int32.ofNat (own_sz x))), .unset, .unset]) rfl kx) ?_
  show OwnOk p e below _ (T16.setTop (mkF m 29 #[.val (.int x), .val (.int y), .val (.int k), .val (.ref b11), .val (.ref aa15), .val (.int (Int32.ofNat (own_sz x))), .unset, .unset] []))
  refine own_up (fun tx kx => XS.iloadN X16.here hx rfl (hb hby at_29) rfl kx) ?_
  show OwnOk p e below _ (T16.setTop (mkF m 30 #[.val (.int x), .val (.int y), .val (.int k), .val (.ref b11), .val (.ref aa15), .val (.int (Int32.ofNat (own_sz x))), .unset, .unset] [(.int y)]))
  refine own_callS X16 hx hZ15 (y := (⟨"com/example/winnower/winnower/narrowing/PairToStringPinLaw", "decLen", "(I)I"⟩ : MethodName)) hown15 (wd_159 hw) (wd_160 hw) (wd_161 hw) (wd_162 hw) (by decide) (l_decLen l Z a0 hw y T15.heap n0 OL15) hh16 (argsL := [(.int y)]) (rest := []) (by rw [hml]; rfl) (lenOf pd_3 rfl) rfl rfl (W := 0) rfl (hb hby at_30) (by decide) (by decide) (by decide) (by decide) (fun T17 v17 L17 X17 hQ17 => ?_)
  obtain ⟨rfl, Nq17, hh17⟩ := hQ17
  have N17 := Fr.app N16 Nq17
  show OwnOk p e below _ (T17.setTop (mkF m 33 #[.val (.int x), .val (.int y), .val (.int k), .val (.ref b11), .val (.ref aa15), .val (.int (Int32.ofNat (own_sz x))), .unset, .unset] [(.int (Int32.ofNat (own_sz y)))]))
  refine own_up (fun tx kx => XS.istore X17.here hx rfl (hb hby at_33) rfl (l' := #[.val (.int x), .val (.int y), .val (.int k), .val (.ref b11), .val (.ref aa15), .val (.int (Int32.ofNat (own_sz x))), .val (.int (Int32.ofNat (own_sz y))), .unset]) rfl kx) ?_
  show OwnOk p e below _ (T17.setTop (mkF m 35 #[.val (.int x), .val (.int y), .val (.int k), .val (.ref b11), .val (.ref aa15), .val (.int (Int32.ofNat (own_sz x))), .val (.int (Int32.ofNat (own_sz y))), .unset] []))
  refine own_up (fun tx kx => XS.aload X17.here hx rfl (hb hby at_35) rfl rfl kx) ?_
  show OwnOk p e below _ (T17.setTop (mkF m 37 #[.val (.int x), .val (.int y), .val (.int k), .val (.ref b11), .val (.ref aa15), .val (.int (Int32.ofNat (own_sz x))), .val (.int (Int32.ofNat (own_sz y))), .unset] [(.ref aa15)]))
  refine own_callV X17 hx hZ15 (y := (⟨"java/lang/String", "length", "()I"⟩ : MethodName)) (z := (⟨"java/lang/String", "length", "()I"⟩ : MethodName)) hown15 (wd_170 hw) (wd_84 hw) (notFace_of_selects (args := #[]) (mvT hZ15 (wd_86 hw))) (wd_86 hw) (wd_85 hw) (wd_32 hw) (wd_87 hw) (by decide) (j_length l Z a0 hw aa15 uu15 ku15 (own_sz x + 5 + own_sz y) gg15 cz T15.heap n0 OL15 SC hcz ea15 fv15 fc15 vu15) hh17 (argsL := []) (rest := []) ea15 (by rw [hml]; rfl) (lenOf pd_11 rfl) rfl rfl (W := 0) rfl (hb hby at_37) (by decide) (by decide) (by decide) (by decide) (fun T18 v18 L18 X18 hQ18 => ?_)
  obtain ⟨rfl, Nq18, hh18⟩ := hQ18
  have N18 := Fr.app N17 Nq18
  show OwnOk p e below _ (T18.setTop (mkF m 40 #[.val (.int x), .val (.int y), .val (.int k), .val (.ref b11), .val (.ref aa15), .val (.int (Int32.ofNat (own_sz x))), .val (.int (Int32.ofNat (own_sz y))), .unset] [(.int (Int32.ofNat (own_sz x + 5 + own_sz y)))]))
  refine own_up (fun tx kx => XS.iload X18.here hx rfl (hb hby at_40) rfl kx) ?_
  show OwnOk p e below _ (T18.setTop (mkF m 42 #[.val (.int x), .val (.int y), .val (.int k), .val (.ref b11), .val (.ref aa15), .val (.int (Int32.ofNat (own_sz x))), .val (.int (Int32.ofNat (own_sz y))), .unset] [(.int (Int32.ofNat (own_sz x))), (.int (Int32.ofNat (own_sz x + 5 + own_sz y)))]))
  refine own_up (fun tx kx => XS.iconst X18.here hx rfl (hb hby at_42) kx) ?_
  show OwnOk p e below _ (T18.setTop (mkF m 43 #[.val (.int x), .val (.int y), .val (.int k), .val (.ref b11), .val (.ref aa15), .val (.int (Int32.ofNat (own_sz x))), .val (.int (Int32.ofNat (own_sz y))), .unset] [(.int (5 : Int32)), (.int (Int32.ofNat (own_sz x))), (.int (Int32.ofNat (own_sz x + 5 + own_sz y)))]))
  refine own_up (fun tx kx => XS.iadd X18.here hx rfl (hb hby at_43) rfl kx) ?_
  show OwnOk p e below _ (T18.setTop (mkF m 44 #[.val (.int x), .val (.int y), .val (.int k), .val (.ref b11), .val (.ref aa15), .val (.int (Int32.ofNat (own_sz x))), .val (.int (Int32.ofNat (own_sz y))), .unset] [(.int ((Int32.ofNat (own_sz x)) + (5 : Int32))), (.int (Int32.ofNat (own_sz x + 5 + own_sz y)))]))
  refine own_up (fun tx kx => XS.iload X18.here hx rfl (hb hby at_44) rfl kx) ?_
  show OwnOk p e below _ (T18.setTop (mkF m 46 #[.val (.int x), .val (.int y), .val (.int k), .val (.ref b11), .val (.ref aa15), .val (.int (Int32.ofNat (own_sz x))), .val (.int (Int32.ofNat (own_sz y))), .unset] [(.int (Int32.ofNat (own_sz y))), (.int ((Int32.ofNat (own_sz x)) + (5 : Int32))), (.int (Int32.ofNat (own_sz x + 5 + own_sz y)))]))
  refine own_up (fun tx kx => XS.iadd X18.here hx rfl (hb hby at_46) rfl kx) ?_
  show OwnOk p e below _ (T18.setTop (mkF m 47 #[.val (.int x), .val (.int y), .val (.int k), .val (.ref b11), .val (.ref aa15), .val (.int (Int32.ofNat (own_sz x))), .val (.int (Int32.ofNat (own_sz y))), .unset] [(.int (((Int32.ofNat (own_sz x)) + (5 : Int32)) + (Int32.ofNat (own_sz y)))), (.int (Int32.ofNat (own_sz x + 5 + own_sz y)))]))
  refine own_up (fun tx kx => XS.icmpYes X18.here hx rfl (pc0 := 47) (pc' := 52) rfl (hb hby at_47) rfl (teq (show Int32.ofNat (own_sz x + 5 + own_sz y) = Int32.ofNat (own_sz x) + (5 : Int32) + Int32.ofNat (own_sz y) by rw [Int32.ofNat_add, Int32.ofNat_add]; rfl)).1 (by decide) (by decide) kx) ?_
  show OwnOk p e below _ (T18.setTop (mkF m 52 #[.val (.int x), .val (.int y), .val (.int k), .val (.ref b11), .val (.ref aa15), .val (.int (Int32.ofNat (own_sz x))), .val (.int (Int32.ofNat (own_sz y))), .unset] []))
  refine own_up (fun tx kx => XS.iloadN X18.here hx rfl (hb hby at_52) rfl kx) ?_
  show OwnOk p e below _ (T18.setTop (mkF m 53 #[.val (.int x), .val (.int y), .val (.int k), .val (.ref b11), .val (.ref aa15), .val (.int (Int32.ofNat (own_sz x))), .val (.int (Int32.ofNat (own_sz y))), .unset] [(.int k)]))
  refine own_up (fun tx kx => X18.ldcInt hx hown15 (mvT hZ15 (wd_171 hw)) (g := (mkF m 53 #[.val (.int x), .val (.int y), .val (.int k), .val (.ref b11), .val (.ref aa15), .val (.int (Int32.ofNat (own_sz x))), .val (.int (Int32.ofNat (own_sz y))), .unset] [(.int k)])) rfl (hb hby at_53) _ kx) ?_
  show OwnOk p e below _ (T18.setTop (mkF m 55 #[.val (.int x), .val (.int y), .val (.int k), .val (.ref b11), .val (.ref aa15), .val (.int (Int32.ofNat (own_sz x))), .val (.int (Int32.ofNat (own_sz y))), .unset] [(.int (2147483647 : Int32)), (.int k)]))
  refine own_up (fun tx kx => XS.iand X18.here hx rfl (hb hby at_55) rfl kx) ?_
  show OwnOk p e below _ (T18.setTop (mkF m 56 #[.val (.int x), .val (.int y), .val (.int k), .val (.ref b11), .val (.ref aa15), .val (.int (Int32.ofNat (own_sz x))), .val (.int (Int32.ofNat (own_sz y))), .unset] [(.int (k &&& (2147483647 : Int32)))]))
  refine own_up (fun tx kx => XS.aload X18.here hx rfl (hb hby at_56) rfl rfl kx) ?_
  show OwnOk p e below _ (T18.setTop (mkF m 58 #[.val (.int x), .val (.int y), .val (.int k), .val (.ref b11), .val (.ref aa15), .val (.int (Int32.ofNat (own_sz x))), .val (.int (Int32.ofNat (own_sz y))), .unset] [(.ref aa15), (.int (k &&& (2147483647 : Int32)))]))
  refine own_callV X18 hx hZ15 (y := (⟨"java/lang/String", "length", "()I"⟩ : MethodName)) (z := (⟨"java/lang/String", "length", "()I"⟩ : MethodName)) hown15 (wd_170 hw) (wd_84 hw) (notFace_of_selects (args := #[]) (mvT hZ15 (wd_86 hw))) (wd_86 hw) (wd_85 hw) (wd_32 hw) (wd_87 hw) (by decide) (j_length l Z a0 hw aa15 uu15 ku15 (own_sz x + 5 + own_sz y) gg15 cz T15.heap n0 OL15 SC hcz ea15 fv15 fc15 vu15) hh18 (argsL := []) (rest := [(.int (k &&& (2147483647 : Int32)))]) ea15 (by rw [hml]; rfl) (lenOf pd_11 rfl) rfl rfl (W := 1) rfl (hb hby at_58) (by decide) (by decide) (by decide) (by decide) (fun T19 v19 L19 X19 hQ19 => ?_)
  obtain ⟨rfl, Nq19, hh19⟩ := hQ19
  have N19 := Fr.app N18 Nq19
  show OwnOk p e below _ (T19.setTop (mkF m 61 #[.val (.int x), .val (.int y), .val (.int k), .val (.ref b11), .val (.ref aa15), .val (.int (Int32.ofNat (own_sz x))), .val (.int (Int32.ofNat (own_sz y))), .unset] [(.int (Int32.ofNat (own_sz x + 5 + own_sz y))), (.int (k &&& (2147483647 : Int32)))]))
  refine own_up (fun tx kx => Jvm.RoadKit.iremM (g := (mkF m 61 #[.val (.int x), .val (.int y), .val (.int k), .val (.ref b11), .val (.ref aa15), .val (.int (Int32.ofNat (own_sz x))), .val (.int (Int32.ofNat (own_sz y))), .unset] [(.int (Int32.ofNat (own_sz x + 5 + own_sz y))), (.int (k &&& (2147483647 : Int32)))])) X19 hx rfl (hb hby at_61) rfl (fun q => absurd (own_ofNat0 q (by omega)) (by omega)) kx) ?_
  show OwnOk p e below _ (T19.setTop (mkF m 62 #[.val (.int x), .val (.int y), .val (.int k), .val (.ref b11), .val (.ref aa15), .val (.int (Int32.ofNat (own_sz x))), .val (.int (Int32.ofNat (own_sz y))), .unset] [(.int ((k &&& (2147483647 : Int32)) % (Int32.ofNat (own_sz x + 5 + own_sz y))))]))
  obtain ⟨i, hi, ei⟩ := own_idx k (own_sz x + 5 + own_sz y) (by omega) (by omega)
  rw [show ((k &&& (2147483647 : Int32)) % (Int32.ofNat (own_sz x + 5 + own_sz y))) = (Int32.ofNat i) from ei]
  show OwnOk p e below _ (T19.setTop (mkF m 62 #[.val (.int x), .val (.int y), .val (.int k), .val (.ref b11), .val (.ref aa15), .val (.int (Int32.ofNat (own_sz x))), .val (.int (Int32.ofNat (own_sz y))), .unset] [(.int (Int32.ofNat i))]))
  refine own_up (fun tx kx => XS.istore X19.here hx rfl (hb hby at_62) rfl (l' := #[.val (.int x), .val (.int y), .val (.int k), .val (.ref b11), .val (.ref aa15), .val (.int (Int32.ofNat (own_sz x))), .val (.int (Int32.ofNat (own_sz y))), .val (.int (Int32.ofNat i))]) rfl kx) ?_
  show OwnOk p e below _ (T19.setTop (mkF m 64 #[.val (.int x), .val (.int y), .val (.int k), .val (.ref b11), .val (.ref aa15), .val (.int (Int32.ofNat (own_sz x))), .val (.int (Int32.ofNat (own_sz y))), .val (.int (Int32.ofNat i))] []))
  refine own_up (fun tx kx => XS.aload X19.here hx rfl (hb hby at_64) rfl rfl kx) ?_
  show OwnOk p e below _ (T19.setTop (mkF m 66 #[.val (.int x), .val (.int y), .val (.int k), .val (.ref b11), .val (.ref aa15), .val (.int (Int32.ofNat (own_sz x))), .val (.int (Int32.ofNat (own_sz y))), .val (.int (Int32.ofNat i))] [(.ref aa15)]))
  refine own_up (fun tx kx => XS.iload X19.here hx rfl (hb hby at_66) rfl kx) ?_
  show OwnOk p e below _ (T19.setTop (mkF m 68 #[.val (.int x), .val (.int y), .val (.int k), .val (.ref b11), .val (.ref aa15), .val (.int (Int32.ofNat (own_sz x))), .val (.int (Int32.ofNat (own_sz y))), .val (.int (Int32.ofNat i))] [(.int (Int32.ofNat i)), (.ref aa15)]))
  refine own_callV X19 hx hZ15 (y := (⟨"java/lang/String", "charAt", "(I)C"⟩ : MethodName)) (z := (⟨"java/lang/String", "charAt", "(I)C"⟩ : MethodName)) hown15 (wd_172 hw) (wd_173 hw) (notFace_of_selects (args := #[]) (mvT hZ15 (wd_175 hw))) (wd_175 hw) (wd_174 hw) (wd_32 hw) (wd_176 hw) (by decide) (j_charAt l Z a0 hw aa15 uu15 ku15 (own_sz x + 5 + own_sz y) gg15 cz i fm hfm T15.heap n0 OL15 SC hcz SF ea15 fv15 fc15 vu15 hi (by omega)) hh19 (argsL := [(.int (Int32.ofNat i))]) (rest := []) ea15 (by rw [hml]; rfl) (lenOf pd_29 rfl) rfl rfl (W := 0) rfl (hb hby at_68) (by decide) (by decide) (by decide) (by decide) (fun T20 v20 L20 X20 hQ20 => ?_)
  obtain ⟨rfl, Nq20, hh20⟩ := hQ20
  have N20 := Fr.app N19 Nq20
  show OwnOk p e below _ (T20.setTop (mkF m 71 #[.val (.int x), .val (.int y), .val (.int k), .val (.ref b11), .val (.ref aa15), .val (.int (Int32.ofNat (own_sz x))), .val (.int (Int32.ofNat (own_sz y))), .val (.int (Int32.ofNat i))] [(.int (own_c8 (gg15 i)))]))
  refine own_up (fun tx kx => XS.iloadN X20.here hx rfl (hb hby at_71) rfl kx) ?_
  show OwnOk p e below _ (T20.setTop (mkF m 72 #[.val (.int x), .val (.int y), .val (.int k), .val (.ref b11), .val (.ref aa15), .val (.int (Int32.ofNat (own_sz x))), .val (.int (Int32.ofNat (own_sz y))), .val (.int (Int32.ofNat i))] [(.int x), (.int (own_c8 (gg15 i)))]))
  refine own_up (fun tx kx => XS.iloadN X20.here hx rfl (hb hby at_72) rfl kx) ?_
  show OwnOk p e below _ (T20.setTop (mkF m 73 #[.val (.int x), .val (.int y), .val (.int k), .val (.ref b11), .val (.ref aa15), .val (.int (Int32.ofNat (own_sz x))), .val (.int (Int32.ofNat (own_sz y))), .val (.int (Int32.ofNat i))] [(.int y), (.int x), (.int (own_c8 (gg15 i)))]))
  refine own_up (fun tx kx => XS.iload X20.here hx rfl (hb hby at_73) rfl kx) ?_
  show OwnOk p e below _ (T20.setTop (mkF m 75 #[.val (.int x), .val (.int y), .val (.int k), .val (.ref b11), .val (.ref aa15), .val (.int (Int32.ofNat (own_sz x))), .val (.int (Int32.ofNat (own_sz y))), .val (.int (Int32.ofNat i))] [(.int (Int32.ofNat (own_sz x))), (.int y), (.int x), (.int (own_c8 (gg15 i)))]))
  refine own_up (fun tx kx => XS.iload X20.here hx rfl (hb hby at_75) rfl kx) ?_
  show OwnOk p e below _ (T20.setTop (mkF m 77 #[.val (.int x), .val (.int y), .val (.int k), .val (.ref b11), .val (.ref aa15), .val (.int (Int32.ofNat (own_sz x))), .val (.int (Int32.ofNat (own_sz y))), .val (.int (Int32.ofNat i))] [(.int (Int32.ofNat (own_sz y))), (.int (Int32.ofNat (own_sz x))), (.int y), (.int x), (.int (own_c8 (gg15 i)))]))
  refine own_up (fun tx kx => XS.iload X20.here hx rfl (hb hby at_77) rfl kx) ?_
  show OwnOk p e below _ (T20.setTop (mkF m 79 #[.val (.int x), .val (.int y), .val (.int k), .val (.ref b11), .val (.ref aa15), .val (.int (Int32.ofNat (own_sz x))), .val (.int (Int32.ofNat (own_sz y))), .val (.int (Int32.ofNat i))] [(.int (Int32.ofNat i)), (.int (Int32.ofNat (own_sz y))), (.int (Int32.ofNat (own_sz x))), (.int y), (.int x), (.int (own_c8 (gg15 i)))]))
  refine own_callSH X20 hB15 (own_ew hw) (sf := []) own_saf0 own_lt0 hx hZ15 (y := (⟨"com/example/winnower/winnower/narrowing/PairToStringPinLaw", "expected", "(IIIII)C"⟩ : MethodName)) hown15 (wd_194 hw) (wd_195 hw) (wd_161 hw) (wd_196 hw) (by decide) (m_exp l Z a0 hw x y i (Int32.ofNat (own_sz x)) (Int32.ofNat (own_sz y)) (Int32.ofNat i) cz fm hfm T15.heap n0 OL15 SC hcz SF hi rfl rfl rfl) hh20 (argsL := [(.int x), (.int y), (.int (Int32.ofNat (own_sz x))), (.int (Int32.ofNat (own_sz y))), (.int (Int32.ofNat i))]) (rest := [(.int (own_c8 (gg15 i)))]) (by rw [hml]; rfl) (lenOf pd_30 rfl) rfl rfl (W := 1) rfl (hb hby at_79) (by decide) (by decide) (by decide) (by decide) (fun s21 T21 v21 L21 X21 hB21 hZ21 hown21 hQ21 sf21 => ?_)
  obtain ⟨rfl, Nq21, Kq21⟩ := hQ21
  have N21 := Fr.app N20 Nq21
  have OL21 := OL15.keep Kq21 all0
  show OwnOk p e below _ (T21.setTop (mkF m 82 #[.val (.int x), .val (.int y), .val (.int k), .val (.ref b11), .val (.ref aa15), .val (.int (Int32.ofNat (own_sz x))), .val (.int (Int32.ofNat (own_sz y))), .val (.int (Int32.ofNat i))] [(.int (own_pr x y i)), (.int (own_c8 (gg15 i)))]))
  refine own_up (fun tx kx => XS.icmpNo X21.here hx rfl (hb hby at_82) rfl (teq (by rw [hg15 i hi, own_pr_c8])).2 kx) ?_
  show OwnOk p e below _ (T21.setTop (mkF m 85 #[.val (.int x), .val (.int y), .val (.int k), .val (.ref b11), .val (.ref aa15), .val (.int (Int32.ofNat (own_sz x))), .val (.int (Int32.ofNat (own_sz y))), .val (.int (Int32.ofNat i))] []))
  refine own_up (fun tx kx => XS.iconst X21.here hx rfl (hb hby at_85) kx) ?_
  show OwnOk p e below _ (T21.setTop (mkF m 86 #[.val (.int x), .val (.int y), .val (.int k), .val (.ref b11), .val (.ref aa15), .val (.int (Int32.ofNat (own_sz x))), .val (.int (Int32.ofNat (own_sz y))), .val (.int (Int32.ofNat i))] [(.int (1 : Int32))]))
  refine own_up (fun tx kx => XS.goto X21.here hx rfl (pc0 := 86) (pc' := 90) rfl (hb hby at_86) (by decide) (by decide) kx) ?_
  show OwnOk p e below _ (T21.setTop (mkF m 90 #[.val (.int x), .val (.int y), .val (.int k), .val (.ref b11), .val (.ref aa15), .val (.int (Int32.ofNat (own_sz x))), .val (.int (Int32.ofNat (own_sz y))), .val (.int (Int32.ofNat i))] [(.int (1 : Int32))]))
  refine own_retNH X21 hB21 hZ21 (own_ew hw) hx (t := .boolean) (show meth.sig.returnType = some .boolean from hret) (by simp) hlk (hb hby at_90) (z' := (1 : Int32)) rfl rfl (Nat.le_of_ble_eq_true rfl) (Nat.le_of_ble_eq_true rfl) ?_
  exact ⟨rfl, N21⟩
set_option maxRecDepth 65536 in
set_option maxHeartbeats 40000000 in
theorem comes_1 {Post : Tables → Env → Array Value → State → Outcome → State → Prop} (hpost : ∀ tb e args s v u, (limb_1_1.after args s (.returned v) u = true ∧ limb_1_2.after args s (.returned v) u = true ∧ True) → ReturnedEndW s (.returned v) u (Jvm.fieldLocs frame_1_writes args s ++ Jvm.arrayLocs frame_1_arrays args s ++ Jvm.staticLocs frame_1_statics s) 24 2304 → Post tb e args s (.returned v) u) :
    ArmFor flags0 classFile x code maxLocals ret World_1 tables_1 room_1 Calls_1 rest_1 Pre_1 Post := by
  intro l hfl _ _ p e ha hc hk s m args below hf hA hF happ hP
  obtain ⟨hcalls, hrest, hpre⟩ := hP
  obtain ⟨-, -, -, hnamed, -, -, -, hat⟩ := (Spec.applies_iff hf).mp happ
  obtain ⟨hg, hn⟩ := and_e (Cond.before_iff.mp (show (Jvm.Cond.and given_1 narrow_1).before args s = true from hpre))
  obtain ⟨g0, gr0⟩ := and_e hg
  obtain ⟨w_0, w_1, w_2, rfl⟩ : ∃ w_0 w_1 w_2 : Value, args = #[w_0, w_1, w_2] := by
    have hs : args.size = 3 := by simpa [Cond.value, given_1] using g0
    obtain ⟨L⟩ := args
    match L, hs with
    | [w_0, w_1, w_2], _ => exact ⟨w_0, w_1, w_2, rfl⟩
  have hw := fun d (hd : d ∈ tables_1) => atoms_spec (ws := Jvm.Cond.code x code maxLocals ret :: tables_1) hat d (List.mem_cons_of_mem _ hd)
  have hfit : Fit s := fun {y c} hc i hi => by
    obtain ⟨ha, rfl⟩ := Array.getElem?_eq_some_iff.mp hc
    have q := List.all_eq_true.mp ((Array.all_eq_true_iff_forall_mem.mp hF) _ (Array.getElem_mem ha)) i (List.mem_range.mpr hi)
    simpa [Array.getElem?_eq_getElem hi] using q
  obtain ⟨gi0, gr1⟩ := and_e gr0
  obtain ⟨i0, ei0⟩ := is_v gi0
  obtain rfl : w_0 = (.int i0) := Option.some.inj ei0
  obtain ⟨gi1, gr2⟩ := and_e gr1
  obtain ⟨i1, ei1⟩ := is_v gi1
  obtain rfl : w_1 = (.int i1) := Option.some.inj ei1
  obtain ⟨i2, ei2⟩ := is_v gr2
  obtain rfl : w_2 = (.int i2) := Option.some.inj ei2
  obtain ⟨hsets, hown0⟩ := atoms_of _ (rest_1_c_eq ▸ (show rest_1_c.before _ s = true from hrest))
  have n5 := not_v (Cond.before_iff.mp (hsets _ (List.mem_of_getElem? (i := 2) rfl)))
  obtain ⟨cz, e10⟩ := is_v (Cond.before_iff.mp (hsets _ (List.mem_of_getElem? (i := 1) rfl)))
  have SC : Sta s s.heap "java/lang/String" "COMPACT_STRINGS" "Z" (.int cz) := Sta.start e10 (Or.inl (hsets _ (List.mem_of_getElem? (i := 0) rfl)))
  have hcz : ¬ cz = 0 := gotF (Cond.eq_ints e10 (Term.int_eval (0))) n5
  obtain ⟨fm, ef, hfm⟩ := isR_v (Cond.before_iff.mp (hsets _ (List.mem_of_getElem? (i := 8) rfl)))
  have SF := Sta.start ef (Or.inl (hsets _ (List.mem_of_getElem? (i := 7) rfl)))
  obtain ⟨d1, d2, k1, k2, SO, SD, VO, VD, WO, WD, hlt1, hlt2⟩ := own_tabs (fun d hd => hsets d (List.mem_of_mem_drop (i := 10) hd)) (wd_33 hw)
  obtain ⟨n, o, h1, h2, h3, _, L, rfl, ⟨rfl, N⟩, -, hq⟩ := (rm0 l s _ hw i0 i1 i2 cz d1 d2 k1 k2 fm hfm s.heap s.heap.size (Old.start s) SC hcz SO SD VO VD WO WD SF hlt1 hlt2) tables_1 p e ha hc hk s m _ below hf ((Spec.applies_iff_loose hf).mp happ).1 ⟨rfl, State.Warmed39.refl s, rfl, CHv.start (own_ew hw) hcalls.1 (hsets _ (List.mem_of_getElem? (i := 2) rfl)) (wd_33 hw) (wd_69 hw), own_saf0⟩ trivial
  refine ⟨n, _, h1, h2, h3, hpost _ _ _ _ _ _ ⟨Cond.after_iff.mpr rfl, Cond.after_iff.mpr (eq_i res_at (Term.int_eval (1)) rfl), trivial⟩ ⟨hq.1, hq.2.1, hq.2.2.1, (hq.2.2.2.sift fun y hy => Or.inr (N y hy)).mono (by decide) (by decide)⟩⟩
theorem main_1_1 : Claimed_1_1 := comes_1 fun _ _ _ _ _ _ h hF => ⟨h.1, hF⟩
theorem main_1_2 : Claimed_1_2 := comes_1 fun _ _ _ _ _ _ h hF => ⟨h.2.1, hF⟩
end Jvm.Pilot.@@N@@
namespace Jvm.Pilot.@@N@@
open Jvm Jvm.ClassFile Sem Op Lib Jvm.Free Jvm.Stand Jvm.Pilot.@@N@@.Jvm.D
/-! MADE BY PROGRAM (witnessworld.py) out of the Statement's table words and the real class files: 25 classes; the members and pool entries that the words name. The judged class is class 1, her method 1. -/
namespace start1
open Jvm.ClassFile
def u (s : String) : CpInfo := .utf8 (stringToUtf16 s)
/-- a pool by its gaps: so many unusable entries, then the entry; so many at the end -/
def gap : Nat → List CpInfo → List CpInfo
  | 0, r => r
  | n + 1, r => .unusable :: gap n r
def poolList (es : List (Nat × CpInfo)) (last : Nat) : List CpInfo := es.foldr (fun e r => gap e.1 (e.2 :: r)) (gap last [])
def pool (es : List (Nat × CpInfo)) (last : Nat) : Array CpInfo := ⟨poolList es last⟩
def fileOf (pool : Array CpInfo) (this : Nat) (attrs : Array Attribute := #[]) (ms : Array MethodInfo := #[]) (fl : Nat := 33) (sup : Nat := 0) (ifs : Array Nat := #[]) (fds : Array FieldInfo := #[]) : ClassFile where
  minorVersion := 0
  majorVersion := 65
  constantPool := pool
  accessFlags := fl
  thisClass := this
  superClass := sup
  interfaces := ifs
  fields := fds
  methods := ms
  attributes := attrs
def plain (name : String) (sup : Option ClassId) : Class where
  name := name
  kind := .ordinary
  loader := none
  accessFlags := 33
  super := sup
  interfaces := #[]
  cf := none
  fields := #[]
  methods := #[]
  instanceTypes := #[]
  staticTypes := #[]
  resolved := #[]
  callSites := []
  init := .initialized
  statics := none
  mirror := none

def pool0 : Array CpInfo := pool [(5, u "<init>"), (0, u "()V"), (1, .class_ 10), (1, u "java/lang/Object"), (85, u "clone"), (0, u "()Ljava/lang/Object;")] 26

def k0c0 : Code := { maxStack := 0, maxLocals := 1, code := object_method_1_code, exceptionTable := #[], attributes := #[] }
def k0m0 : Method := { name := "<init>", desc := "()V", sig := { parameters := [], returnType := none }, accessFlags := 1, code := some k0c0 }
def k0m1 : Method := { name := "clone", desc := "()Ljava/lang/Object;", sig := { parameters := [], returnType := some (.object "java/lang/Object") }, accessFlags := 260, code := none }
/-- java/lang/Object -/
def k0 : Class := { plain "java/lang/Object" none with
  accessFlags := 33
  interfaces := #[]
  cf := some (fileOf pool0 8 #[] #[{ accessFlags := 1, nameIndex := 5, descriptorIndex := 6, attributes := #[] }, { accessFlags := 260, nameIndex := 96, descriptorIndex := 97, attributes := #[] }] 33 0 #[] #[])
  fields := #[]
  methods := #[k0m0, k0m1]
  instanceTypes := #[]
  staticTypes := #[]
  resolved := Array.replicate 124 none
  statics := none }

def pool1 : Array CpInfo := pool [(2, .class_ 4), (1, u "java/lang/Object"), (0, u "<init>"), (0, u "()V"), (0, .class_ 8), (0, u "com/example/winnower/winnower/narrowing/Pair"), (0, .methodref 7 10), (0, .nameAndType 5 11), (0, u "(II)V"), (0, .methodref 7 13), (0, .nameAndType 14 15), (0, u "toString"), (0, u "()Ljava/lang/String;"), (0, .methodref 17 18), (0, .class_ 19), (0, .nameAndType 20 21), (0, u "com/example/winnower/winnower/narrowing/PairToStringPinLaw"), (0, u "decLen"), (0, u "(I)I"), (0, .methodref 23 24), (0, .class_ 25), (0, .nameAndType 26 27), (0, u "java/lang/String"), (0, u "length"), (0, u "()I"), (0, .integer 2147483647), (0, .methodref 23 30), (0, .nameAndType 31 32), (0, u "charAt"), (0, u "(I)C"), (0, .methodref 17 34), (0, .nameAndType 35 36), (0, u "expected"), (0, u "(IIIII)C"), (0, .methodref 17 38), (0, .nameAndType 39 40), (0, u "decChar"), (0, u "(III)C"), (0, .string 42), (0, u " and "), (0, .methodref 44 45), (0, .class_ 46), (0, .nameAndType 47 48), (0, u "java/lang/Math"), (0, u "abs"), (0, u "(J)J"), (0, .methodref 17 50), (0, .nameAndType 51 52), (0, u "pow10"), (0, u "(I)J"), (0, .long 10), (1, .methodref 17 56), (0, .nameAndType 57 58), (0, u "digits"), (0, u "(J)I"), (0, .long 100), (1, .long 1000), (1, .long 10000), (1, .long 100000), (1, .long 1000000), (1, .long 10000000), (1, .long 100000000), (1, .long 1000000000), (3, u "law"), (0, u "(III)Z")] 3

def k1m0 : Method := { name := "<init>", desc := "()V", sig := { parameters := [], returnType := none }, accessFlags := 1, code := none }
def k1c1 : Code := { maxStack := 6, maxLocals := 8, code := code, exceptionTable := #[], attributes := #[] }
def k1m1 : Method := { name := "law", desc := "(III)Z", sig := { parameters := [.int, .int, .int], returnType := some .boolean }, accessFlags := 9, code := some k1c1 }
def k1c2 : Code := { maxStack := 4, maxLocals := 6, code := method_3_code, exceptionTable := #[], attributes := #[] }
def k1m2 : Method := { name := "expected", desc := "(IIIII)C", sig := { parameters := [.int, .int, .int, .int, .int], returnType := some .char }, accessFlags := 10, code := some k1c2 }
def k1c3 : Code := { maxStack := 4, maxLocals := 10, code := method_4_code, exceptionTable := #[], attributes := #[] }
def k1m3 : Method := { name := "decChar", desc := "(III)C", sig := { parameters := [.int, .int, .int], returnType := some .char }, accessFlags := 10, code := some k1c3 }
def k1c4 : Code := { maxStack := 2, maxLocals := 4, code := method_5_code, exceptionTable := #[], attributes := #[] }
def k1m4 : Method := { name := "decLen", desc := "(I)I", sig := { parameters := [.int], returnType := some .int }, accessFlags := 10, code := some k1c4 }
def k1c5 : Code := { maxStack := 4, maxLocals := 2, code := method_6_code, exceptionTable := #[], attributes := #[] }
def k1m5 : Method := { name := "digits", desc := "(J)I", sig := { parameters := [.long], returnType := some .int }, accessFlags := 10, code := some k1c5 }
def k1c6 : Code := { maxStack := 2, maxLocals := 1, code := method_7_code, exceptionTable := #[], attributes := #[] }
def k1m6 : Method := { name := "pow10", desc := "(I)J", sig := { parameters := [.int], returnType := some .long }, accessFlags := 10, code := some k1c6 }
/-- com/example/winnower/winnower/narrowing/PairToStringPinLaw -/
def k1 : Class := { plain "com/example/winnower/winnower/narrowing/PairToStringPinLaw" (some 0) with
  accessFlags := 49
  interfaces := #[]
  cf := some (fileOf pool1 17 #[] #[{ accessFlags := 1, nameIndex := 5, descriptorIndex := 6, attributes := #[] }, { accessFlags := 9, nameIndex := 77, descriptorIndex := 78, attributes := #[] }, { accessFlags := 10, nameIndex := 35, descriptorIndex := 36, attributes := #[] }, { accessFlags := 10, nameIndex := 39, descriptorIndex := 40, attributes := #[] }, { accessFlags := 10, nameIndex := 20, descriptorIndex := 21, attributes := #[] }, { accessFlags := 10, nameIndex := 57, descriptorIndex := 58, attributes := #[] }, { accessFlags := 10, nameIndex := 51, descriptorIndex := 52, attributes := #[] }] 49 2 #[] #[])
  fields := #[]
  methods := #[k1m0, k1m1, k1m2, k1m3, k1m4, k1m5, k1m6]
  instanceTypes := #[]
  staticTypes := #[]
  resolved := Array.replicate 82 none
  statics := none }

def pool2 : Array CpInfo := pool [(1, .methodref 2 3), (0, .class_ 4), (0, .nameAndType 5 6), (0, u "java/lang/Object"), (0, u "<init>"), (0, u "()V"), (0, .fieldref 8 9), (0, .class_ 10), (0, .nameAndType 11 12), (0, u "com/example/winnower/winnower/narrowing/Pair"), (0, u "first"), (0, u "I"), (0, .fieldref 8 14), (0, .nameAndType 15 12), (0, u "second"), (0, .class_ 17), (0, u "java/lang/StringBuilder"), (0, .methodref 16 3), (0, .methodref 16 20), (0, .nameAndType 21 22), (0, u "append"), (0, u "(I)Ljava/lang/StringBuilder;"), (0, .string 24), (0, u " and "), (0, .methodref 16 26), (0, .nameAndType 21 27), (0, u "(Ljava/lang/String;)Ljava/lang/StringBuilder;"), (0, .methodref 16 29), (0, .nameAndType 30 31), (0, u "toString"), (0, u "()Ljava/lang/String;"), (0, u "(II)V")] 5

def k2c0 : Code := { maxStack := 2, maxLocals := 3, code := prog_12_method_1_code, exceptionTable := #[], attributes := #[] }
def k2m0 : Method := { name := "<init>", desc := "(II)V", sig := { parameters := [.int, .int], returnType := none }, accessFlags := 1, code := some k2c0 }
def k2c1 : Code := { maxStack := 2, maxLocals := 1, code := prog_12_method_4_code, exceptionTable := #[], attributes := #[] }
def k2m1 : Method := { name := "toString", desc := "()Ljava/lang/String;", sig := { parameters := [], returnType := some (.object "java/lang/String") }, accessFlags := 1, code := some k2c1 }
/-- com/example/winnower/winnower/narrowing/Pair -/
def k2 : Class := { plain "com/example/winnower/winnower/narrowing/Pair" (some 0) with
  accessFlags := 49
  interfaces := #[]
  cf := some (fileOf pool2 8 #[] #[{ accessFlags := 1, nameIndex := 5, descriptorIndex := 32, attributes := #[] }, { accessFlags := 1, nameIndex := 30, descriptorIndex := 31, attributes := #[] }] 49 2 #[] #[{ accessFlags := 18, nameIndex := 11, descriptorIndex := 12, attributes := #[] }, { accessFlags := 18, nameIndex := 15, descriptorIndex := 12, attributes := #[] }])
  fields := #[{ name := "first", type := .int, accessFlags := 18, slot := 0, constantValue := 0 }, { name := "second", type := .int, accessFlags := 18, slot := 1, constantValue := 0 }]
  methods := #[k2m0, k2m1]
  instanceTypes := #[.int, .int]
  staticTypes := #[]
  resolved := Array.replicate 38 none
  statics := none }

def pool3 : Array CpInfo := pool [(1, .class_ 2), (0, u "java/lang/Appendable"), (0, .class_ 4), (0, u "java/lang/Object")] 9

/-- java/lang/Appendable -/
def k3 : Class := { plain "java/lang/Appendable" (some 0) with
  accessFlags := 1537
  interfaces := #[]
  cf := some (fileOf pool3 1 #[] #[] 1537 3 #[] #[])
  fields := #[]
  methods := #[]
  instanceTypes := #[]
  staticTypes := #[]
  resolved := Array.replicate 14 none
  statics := none }

def pool4 : Array CpInfo := pool [(2, .class_ 4), (1, u "java/lang/CharSequence"), (42, .class_ 48), (0, u "java/lang/CharSequence$1CodePointIterator"), (10, .class_ 60), (0, u "java/lang/CharSequence$1CharIterator"), (5, .class_ 67), (0, u "java/lang/Object")] 63

/-- java/lang/CharSequence -/
def k4 : Class := { plain "java/lang/CharSequence" (some 0) with
  accessFlags := 1537
  interfaces := #[]
  cf := some (fileOf pool4 2 #[.nestMembers #[47, 59]] #[] 1537 66 #[] #[])
  fields := #[]
  methods := #[]
  instanceTypes := #[]
  staticTypes := #[]
  resolved := Array.replicate 131 none
  statics := none }

def pool5 : Array CpInfo := pool [(1, .class_ 2), (0, u "java/lang/String"), (0, .methodref 4 5), (0, .class_ 6), (0, .nameAndType 7 8), (0, u "java/lang/Object"), (0, u "<init>"), (0, u "()V"), (1, .class_ 12), (1, u "java/lang/AbstractStringBuilder"), (0, u "EMPTYVALUE"), (0, u "[B"), (0, .fieldref 10 16), (0, .nameAndType 17 14), (0, u "value"), (0, .fieldref 1 19), (0, .nameAndType 20 21), (0, u "COMPACT_STRINGS"), (0, u "Z"), (0, .fieldref 10 23), (0, .nameAndType 24 25), (0, u "coder"), (0, u "B"), (6, .methodref 1 33), (0, .nameAndType 34 35), (0, u "length"), (0, u "()I"), (0, .class_ 37), (0, u "java/lang/Integer"), (1, .integer 2147483647), (0, .methodref 1 41), (0, .nameAndType 24 42), (0, u "()B"), (2, u "append"), (0, u "(Ljava/lang/String;)Ljava/lang/AbstractStringBuilder;"), (1, .class_ 49), (0, u "java/lang/CharSequence"), (19, u "(Ljava/lang/String;)V"), (5, u "maybeLatin1"), (3, .fieldref 10 80), (0, .nameAndType 81 82), (0, u "count"), (0, u "I"), (0, .methodref 10 84), (0, .nameAndType 85 86), (0, u "isLatin1"), (0, u "()Z"), (13, .methodref 10 101), (0, .nameAndType 102 103), (0, u "ensureCapacityInternal"), (0, u "(I)V"), (0, .methodref 10 105), (0, .nameAndType 106 107), (0, u "newCapacity"), (0, u "(I)I"), (0, .methodref 109 110), (0, .class_ 111), (0, .nameAndType 112 113), (0, u "java/util/Arrays"), (0, u "copyOf"), (0, u "([BI)[B"), (0, .methodref 115 116), (0, .class_ 117), (0, .nameAndType 118 119), (0, u "jdk/internal/util/ArraysSupport"), (0, u "newLength"), (0, u "(III)I"), (68, u "getChars"), (19, .methodref 10 209), (0, .nameAndType 210 211), (0, u "putStringAt"), (0, u "(ILjava/lang/String;)V"), (5, u "inflateIfNeededFor"), (2, .nameAndType 221 222), (0, u "getBytes"), (0, u "([BIB)V"), (22, .methodref 36 246), (0, .nameAndType 247 107), (0, u "stringSize"), (0, .methodref 36 249), (0, .nameAndType 188 250), (0, u "(II[B)I"), (146, .methodref 10 398), (0, .nameAndType 217 69), (0, .methodref 1 220), (3, u "()[B"), (40, .class_ 445), (0, u "java/lang/Appendable"), (65, u "(I)Ljava/lang/AbstractStringBuilder;"), (40, u "getValue")] 56

def k5m0 : Method := { name := "<init>", desc := "()V", sig := { parameters := [], returnType := none }, accessFlags := 0, code := none }
def k5c1 : Code := { maxStack := 2, maxLocals := 2, code := jdk_68_method_2_code, exceptionTable := #[], attributes := #[] }
def k5m1 : Method := { name := "<init>", desc := "(I)V", sig := { parameters := [.int], returnType := none }, accessFlags := 0, code := some k5c1 }
def k5c2 : Code := { maxStack := 1, maxLocals := 1, code := jdk_68_method_6_code, exceptionTable := #[], attributes := #[] }
def k5m2 : Method := { name := "length", desc := "()I", sig := { parameters := [], returnType := some .int }, accessFlags := 1, code := some k5c2 }
def k5c3 : Code := { maxStack := 4, maxLocals := 3, code := jdk_68_method_9_code, exceptionTable := #[], attributes := #[] }
def k5m3 : Method := { name := "ensureCapacityInternal", desc := "(I)V", sig := { parameters := [.int], returnType := none }, accessFlags := 2, code := some k5c3 }
def k5c4 : Code := { maxStack := 5, maxLocals := 6, code := jdk_68_method_10_code, exceptionTable := #[], attributes := #[] }
def k5m4 : Method := { name := "newCapacity", desc := "(I)I", sig := { parameters := [.int], returnType := some .int }, accessFlags := 2, code := some k5c4 }
def k5c5 : Code := { maxStack := 3, maxLocals := 3, code := jdk_68_method_22_code, exceptionTable := #[], attributes := #[] }
def k5m5 : Method := { name := "append", desc := "(Ljava/lang/String;)Ljava/lang/AbstractStringBuilder;", sig := { parameters := [(.object "java/lang/String")], returnType := some (.object "java/lang/AbstractStringBuilder") }, accessFlags := 1, code := some k5c5 }
def k5c6 : Code := { maxStack := 4, maxLocals := 4, code := jdk_68_method_32_code, exceptionTable := #[], attributes := #[] }
def k5m6 : Method := { name := "append", desc := "(I)Ljava/lang/AbstractStringBuilder;", sig := { parameters := [.int], returnType := some (.object "java/lang/AbstractStringBuilder") }, accessFlags := 1, code := some k5c6 }
def k5c7 : Code := { maxStack := 1, maxLocals := 1, code := jdk_68_method_64_code, exceptionTable := #[], attributes := #[] }
def k5m7 : Method := { name := "getValue", desc := "()[B", sig := { parameters := [], returnType := some (.array .byte) }, accessFlags := 16, code := some k5c7 }
def k5c8 : Code := { maxStack := 1, maxLocals := 1, code := jdk_68_method_68_code, exceptionTable := #[], attributes := #[] }
def k5m8 : Method := { name := "isLatin1", desc := "()Z", sig := { parameters := [], returnType := some .boolean }, accessFlags := 16, code := some k5c8 }
def k5c9 : Code := { maxStack := 2, maxLocals := 2, code := jdk_68_method_71_code, exceptionTable := #[], attributes := #[] }
def k5m9 : Method := { name := "inflateIfNeededFor", desc := "(Ljava/lang/String;)V", sig := { parameters := [(.object "java/lang/String")], returnType := none }, accessFlags := 2, code := some k5c9 }
def k5c10 : Code := { maxStack := 4, maxLocals := 3, code := jdk_68_method_73_code, exceptionTable := #[], attributes := #[] }
def k5m10 : Method := { name := "putStringAt", desc := "(ILjava/lang/String;)V", sig := { parameters := [.int, (.object "java/lang/String")], returnType := none }, accessFlags := 2, code := some k5c10 }
/-- java/lang/AbstractStringBuilder -/
def k5 : Class := { plain "java/lang/AbstractStringBuilder" (some 0) with
  accessFlags := 1056
  interfaces := #[3, 4]
  cf := some (fileOf pool5 10 #[] #[{ accessFlags := 0, nameIndex := 7, descriptorIndex := 8, attributes := #[] }, { accessFlags := 0, nameIndex := 7, descriptorIndex := 103, attributes := #[] }, { accessFlags := 1, nameIndex := 34, descriptorIndex := 35, attributes := #[] }, { accessFlags := 2, nameIndex := 102, descriptorIndex := 103, attributes := #[] }, { accessFlags := 2, nameIndex := 106, descriptorIndex := 107, attributes := #[] }, { accessFlags := 1, nameIndex := 45, descriptorIndex := 46, attributes := #[] }, { accessFlags := 1, nameIndex := 45, descriptorIndex := 511, attributes := #[] }, { accessFlags := 16, nameIndex := 552, descriptorIndex := 403, attributes := #[] }, { accessFlags := 16, nameIndex := 85, descriptorIndex := 86, attributes := #[] }, { accessFlags := 2, nameIndex := 217, descriptorIndex := 69, attributes := #[] }, { accessFlags := 2, nameIndex := 210, descriptorIndex := 211, attributes := #[] }] 1056 4 #[444, 48] #[{ accessFlags := 0, nameIndex := 17, descriptorIndex := 14, attributes := #[] }, { accessFlags := 0, nameIndex := 24, descriptorIndex := 25, attributes := #[] }, { accessFlags := 0, nameIndex := 75, descriptorIndex := 21, attributes := #[] }, { accessFlags := 0, nameIndex := 81, descriptorIndex := 82, attributes := #[] }, { accessFlags := 26, nameIndex := 13, descriptorIndex := 14, attributes := #[] }])
  fields := #[{ name := "value", type := (.array .byte), accessFlags := 0, slot := 0, constantValue := 0 }, { name := "coder", type := .byte, accessFlags := 0, slot := 1, constantValue := 0 }, { name := "maybeLatin1", type := .boolean, accessFlags := 0, slot := 2, constantValue := 0 }, { name := "count", type := .int, accessFlags := 0, slot := 3, constantValue := 0 }, { name := "EMPTYVALUE", type := (.array .byte), accessFlags := 26, slot := 0, constantValue := 0 }]
  methods := #[k5m0, k5m1, k5m2, k5m3, k5m4, k5m5, k5m6, k5m7, k5m8, k5m9, k5m10]
  instanceTypes := #[(.array .byte), .byte, .boolean, .int]
  staticTypes := #[(.array .byte)]
  resolved := Array.replicate 609 none
  statics := none }

def pool6 : Array CpInfo := pool [(1, .class_ 2), (0, u "java/io/Serializable"), (0, .class_ 4), (0, u "java/lang/Object")] 2

/-- java/io/Serializable -/
def k6 : Class := { plain "java/io/Serializable" (some 0) with
  accessFlags := 1537
  interfaces := #[]
  cf := some (fileOf pool6 1 #[] #[] 1537 3 #[] #[])
  fields := #[]
  methods := #[]
  instanceTypes := #[]
  staticTypes := #[]
  resolved := Array.replicate 7 none
  statics := none }

def pool7 : Array CpInfo := pool [(1, .class_ 2), (0, u "java/lang/Comparable"), (0, .class_ 4), (0, u "java/lang/Object")] 7

/-- java/lang/Comparable -/
def k7 : Class := { plain "java/lang/Comparable" (some 0) with
  accessFlags := 1537
  interfaces := #[]
  cf := some (fileOf pool7 1 #[] #[] 1537 3 #[] #[])
  fields := #[]
  methods := #[]
  instanceTypes := #[]
  staticTypes := #[]
  resolved := Array.replicate 12 none
  statics := none }

def pool8 : Array CpInfo := pool [(1, .methodref 2 3), (0, .class_ 4), (0, .nameAndType 5 6), (0, u "java/lang/AbstractStringBuilder"), (0, u "<init>"), (0, u "(I)V"), (11, .class_ 20), (1, u "java/lang/String"), (3, .class_ 26), (1, u "java/lang/StringBuilder"), (0, u "append"), (0, u "(Ljava/lang/String;)Ljava/lang/StringBuilder;"), (0, .methodref 2 30), (0, .nameAndType 27 31), (0, u "(Ljava/lang/String;)Ljava/lang/AbstractStringBuilder;"), (21, .methodref 2 54), (0, .nameAndType 27 55), (0, u "(I)Ljava/lang/AbstractStringBuilder;"), (81, .methodref 18 138), (0, .nameAndType 5 139), (0, u "(Ljava/lang/StringBuilder;)V"), (5, u "()V"), (10, u "()I"), (111, u "(I)Ljava/lang/StringBuilder;"), (74, .methodref 2 344), (0, .nameAndType 345 156), (0, u "length"), (3, .class_ 350), (0, u "java/lang/Appendable"), (0, .class_ 352), (0, u "java/io/Serializable"), (0, .class_ 354), (0, u "java/lang/Comparable"), (0, .class_ 356), (0, u "java/lang/CharSequence"), (0, u "serialVersionUID"), (0, u "J"), (40, u "toString"), (0, u "()Ljava/lang/String;")] 21

def k8c0 : Code := { maxStack := 2, maxLocals := 1, code := jdk_67_method_1_code, exceptionTable := #[], attributes := #[] }
def k8m0 : Method := { name := "<init>", desc := "()V", sig := { parameters := [], returnType := none }, accessFlags := 1, code := some k8c0 }
def k8c1 : Code := { maxStack := 2, maxLocals := 2, code := jdk_67_method_7_code, exceptionTable := #[], attributes := #[] }
def k8m1 : Method := { name := "append", desc := "(Ljava/lang/String;)Ljava/lang/StringBuilder;", sig := { parameters := [(.object "java/lang/String")], returnType := some (.object "java/lang/StringBuilder") }, accessFlags := 1, code := some k8c1 }
def k8c2 : Code := { maxStack := 2, maxLocals := 2, code := jdk_67_method_15_code, exceptionTable := #[], attributes := #[] }
def k8m2 : Method := { name := "append", desc := "(I)Ljava/lang/StringBuilder;", sig := { parameters := [.int], returnType := some (.object "java/lang/StringBuilder") }, accessFlags := 1, code := some k8c2 }
def k8c3 : Code := { maxStack := 3, maxLocals := 1, code := jdk_67_method_42_code, exceptionTable := #[], attributes := #[] }
def k8m3 : Method := { name := "toString", desc := "()Ljava/lang/String;", sig := { parameters := [], returnType := some (.object "java/lang/String") }, accessFlags := 1, code := some k8c3 }
def k8c4 : Code := { maxStack := 1, maxLocals := 1, code := jdk_67_method_93_code, exceptionTable := #[], attributes := #[] }
def k8m4 : Method := { name := "length", desc := "()I", sig := { parameters := [], returnType := some .int }, accessFlags := 4161, code := some k8c4 }
/-- java/lang/StringBuilder -/
def k8 : Class := { plain "java/lang/StringBuilder" (some 5) with
  accessFlags := 49
  interfaces := #[3, 6, 7, 4]
  cf := some (fileOf pool8 24 #[] #[{ accessFlags := 1, nameIndex := 5, descriptorIndex := 145, attributes := #[] }, { accessFlags := 1, nameIndex := 27, descriptorIndex := 28, attributes := #[] }, { accessFlags := 1, nameIndex := 27, descriptorIndex := 268, attributes := #[] }, { accessFlags := 1, nameIndex := 399, descriptorIndex := 400, attributes := #[] }, { accessFlags := 4161, nameIndex := 345, descriptorIndex := 156, attributes := #[] }] 49 2 #[349, 351, 353, 355] #[{ accessFlags := 24, nameIndex := 357, descriptorIndex := 358, attributes := #[] }])
  fields := #[{ name := "serialVersionUID", type := .long, accessFlags := 24, slot := 0, constantValue := 0 }]
  methods := #[k8m0, k8m1, k8m2, k8m3, k8m4]
  instanceTypes := #[(.array .byte), .byte, .boolean, .int]
  staticTypes := #[.long]
  resolved := Array.replicate 422 none
  statics := none }

def pool9 : Array CpInfo := pool [(1, .class_ 2), (0, u "java/lang/constant/Constable"), (0, .class_ 4), (0, u "java/lang/Object")] 6

/-- java/lang/constant/Constable -/
def k9 : Class := { plain "java/lang/constant/Constable" (some 0) with
  accessFlags := 1537
  interfaces := #[]
  cf := some (fileOf pool9 1 #[] #[] 1537 3 #[] #[])
  fields := #[]
  methods := #[]
  instanceTypes := #[]
  staticTypes := #[]
  resolved := Array.replicate 11 none
  statics := none }

def pool10 : Array CpInfo := pool [(1, .class_ 2), (0, u "java/lang/constant/ConstantDesc"), (0, .class_ 4), (0, u "java/lang/Object")] 32

/-- java/lang/constant/ConstantDesc -/
def k10 : Class := { plain "java/lang/constant/ConstantDesc" (some 0) with
  accessFlags := 1537
  interfaces := #[]
  cf := some (fileOf pool10 1 #[] #[] 1537 3 #[] #[])
  fields := #[]
  methods := #[]
  instanceTypes := #[]
  staticTypes := #[]
  resolved := Array.replicate 37 none
  statics := none }

def pool11 : Array CpInfo := pool [(1, .methodref 2 3), (0, .class_ 4), (0, .nameAndType 5 6), (0, u "java/lang/Object"), (0, u "<init>"), (0, u "()V"), (2, .fieldref 10 11), (0, .class_ 12), (0, .nameAndType 13 14), (0, u "java/lang/String"), (0, u "value"), (0, u "[B"), (0, .fieldref 10 16), (0, .nameAndType 17 18), (0, u "coder"), (0, u "B"), (2, u "hash"), (0, u "I"), (2, u "hashIsZero"), (0, u "Z"), (11, .fieldref 10 39), (0, .nameAndType 40 26), (0, u "COMPACT_STRINGS"), (13, .methodref 55 56), (0, .class_ 57), (0, .nameAndType 58 59), (0, u "java/util/Arrays"), (0, u "copyOfRange"), (0, u "([BII)[B"), (47, .class_ 109), (1, u "java/lang/StringLatin1"), (32, u "()Z"), (50, .class_ 195), (1, u "java/lang/System"), (16, .methodref 193 213), (0, .nameAndType 214 215), (0, u "arraycopy"), (0, u "(Ljava/lang/Object;ILjava/lang/Object;II)V"), (118, u "()I"), (0, .methodref 10 336), (0, .nameAndType 17 337), (0, u "()B"), (2, u "()[B"), (22, u "([BI)C"), (27, u "(II)V"), (35, u "(I)C"), (61, .methodref 10 490), (0, .nameAndType 5 491), (0, u "(Ljava/lang/AbstractStringBuilder;Ljava/lang/Void;)V"), (0, .methodref 10 493), (0, .nameAndType 494 142), (0, u "isLatin1"), (0, .methodref 107 496), (0, .nameAndType 497 363), (0, u "charAt"), (3, u "checkIndex"), (4, .nameAndType 507 334), (0, u "length"), (24, u "getBytes"), (16, .methodref 550 506), (0, .class_ 551), (0, u "java/lang/AbstractStringBuilder"), (0, .methodref 550 553), (0, .nameAndType 554 340), (0, u "getValue"), (20, .class_ 576), (0, u "java/lang/CharSequence"), (22, u "CASE_INSENSITIVE_ORDER"), (0, u "Ljava/util/Comparator;"), (220, u "([BIB)V"), (225, .methodref 550 493), (5, .fieldref 1054 1055), (0, .class_ 1056), (0, .nameAndType 1057 1058), (0, u "jdk/internal/util/Preconditions"), (0, u "SIOOBE_FORMATTER"), (0, u "Ljava/util/function/BiFunction;"), (0, .methodref 1054 1060), (0, .nameAndType 501 1061), (0, u "(IILjava/util/function/BiFunction;)I"), (39, u "serialPersistentFields"), (0, u "[Ljava/io/ObjectStreamField;"), (0, .class_ 1104), (0, u "java/lang/String$CaseInsensitiveComparator"), (1, .class_ 1107), (0, u "java/io/Serializable"), (0, .class_ 1109), (0, u "java/lang/Comparable"), (0, .class_ 1111), (0, u "java/lang/constant/Constable"), (0, .class_ 1113), (0, u "java/lang/constant/ConstantDesc"), (2, u "serialVersionUID"), (0, u "J"), (3, u "REPL"), (0, u "C"), (2, u "LATIN1"), (1, u "UTF16"), (105, u "(Ljava/lang/StringBuilder;)V")] 217

def k11m0 : Method := { name := "<init>", desc := "()V", sig := { parameters := [], returnType := none }, accessFlags := 1, code := none }
def k11c1 : Code := { maxStack := 3, maxLocals := 2, code := jdk_42_method_53_code, exceptionTable := #[], attributes := #[] }
def k11m1 : Method := { name := "<init>", desc := "(Ljava/lang/StringBuilder;)V", sig := { parameters := [(.object "java/lang/StringBuilder")], returnType := none }, accessFlags := 1, code := some k11c1 }
def k11c2 : Code := { maxStack := 2, maxLocals := 1, code := jdk_42_method_54_code, exceptionTable := #[], attributes := #[] }
def k11m2 : Method := { name := "length", desc := "()I", sig := { parameters := [], returnType := some .int }, accessFlags := 1, code := some k11c2 }
def k11c3 : Code := { maxStack := 2, maxLocals := 2, code := jdk_42_method_56_code, exceptionTable := #[], attributes := #[] }
def k11m3 : Method := { name := "charAt", desc := "(I)C", sig := { parameters := [.int], returnType := some .char }, accessFlags := 1, code := some k11c3 }
def k11c4 : Code := { maxStack := 5, maxLocals := 4, code := jdk_42_method_147_code, exceptionTable := #[], attributes := #[] }
def k11m4 : Method := { name := "getBytes", desc := "([BIB)V", sig := { parameters := [(.array .byte), .int, .byte], returnType := none }, accessFlags := 0, code := some k11c4 }
def k11c5 : Code := { maxStack := 5, maxLocals := 5, code := jdk_42_method_150_code, exceptionTable := #[], attributes := #[] }
def k11m5 : Method := { name := "<init>", desc := "(Ljava/lang/AbstractStringBuilder;Ljava/lang/Void;)V", sig := { parameters := [(.object "java/lang/AbstractStringBuilder"), (.object "java/lang/Void")], returnType := none }, accessFlags := 0, code := some k11c5 }
def k11c6 : Code := { maxStack := 1, maxLocals := 1, code := jdk_42_method_152_code, exceptionTable := #[], attributes := #[] }
def k11m6 : Method := { name := "coder", desc := "()B", sig := { parameters := [], returnType := some .byte }, accessFlags := 0, code := some k11c6 }
def k11c7 : Code := { maxStack := 1, maxLocals := 1, code := jdk_42_method_154_code, exceptionTable := #[], attributes := #[] }
def k11m7 : Method := { name := "isLatin1", desc := "()Z", sig := { parameters := [], returnType := some .boolean }, accessFlags := 0, code := some k11c7 }
def k11c8 : Code := { maxStack := 3, maxLocals := 2, code := jdk_42_method_155_code, exceptionTable := #[], attributes := #[] }
def k11m8 : Method := { name := "checkIndex", desc := "(II)V", sig := { parameters := [.int, .int], returnType := none }, accessFlags := 8, code := some k11c8 }
/-- java/lang/String -/
def k11 : Class := { plain "java/lang/String" (some 0) with
  accessFlags := 49
  interfaces := #[6, 7, 4, 9, 10]
  cf := some (fileOf pool11 10 #[.nestMembers #[1103]] #[{ accessFlags := 1, nameIndex := 5, descriptorIndex := 6, attributes := #[] }, { accessFlags := 1, nameIndex := 5, descriptorIndex := 1233, attributes := #[] }, { accessFlags := 1, nameIndex := 507, descriptorIndex := 334, attributes := #[] }, { accessFlags := 1, nameIndex := 497, descriptorIndex := 427, attributes := #[] }, { accessFlags := 0, nameIndex := 532, descriptorIndex := 821, attributes := #[] }, { accessFlags := 0, nameIndex := 5, descriptorIndex := 491, attributes := #[] }, { accessFlags := 0, nameIndex := 17, descriptorIndex := 337, attributes := #[] }, { accessFlags := 0, nameIndex := 494, descriptorIndex := 142, attributes := #[] }, { accessFlags := 8, nameIndex := 501, descriptorIndex := 391, attributes := #[] }] 49 2 #[1106, 1108, 575, 1110, 1112] #[{ accessFlags := 18, nameIndex := 13, descriptorIndex := 14, attributes := #[] }, { accessFlags := 18, nameIndex := 17, descriptorIndex := 18, attributes := #[] }, { accessFlags := 2, nameIndex := 21, descriptorIndex := 22, attributes := #[] }, { accessFlags := 2, nameIndex := 25, descriptorIndex := 26, attributes := #[] }, { accessFlags := 26, nameIndex := 1116, descriptorIndex := 1117, attributes := #[] }, { accessFlags := 24, nameIndex := 40, descriptorIndex := 26, attributes := #[] }, { accessFlags := 26, nameIndex := 1101, descriptorIndex := 1102, attributes := #[] }, { accessFlags := 26, nameIndex := 1121, descriptorIndex := 1122, attributes := #[] }, { accessFlags := 25, nameIndex := 599, descriptorIndex := 600, attributes := #[] }, { accessFlags := 24, nameIndex := 1125, descriptorIndex := 18, attributes := #[] }, { accessFlags := 24, nameIndex := 1127, descriptorIndex := 18, attributes := #[] }])
  fields := #[{ name := "value", type := (.array .byte), accessFlags := 18, slot := 0, constantValue := 0 }, { name := "coder", type := .byte, accessFlags := 18, slot := 1, constantValue := 0 }, { name := "hash", type := .int, accessFlags := 2, slot := 2, constantValue := 0 }, { name := "hashIsZero", type := .boolean, accessFlags := 2, slot := 3, constantValue := 0 }, { name := "serialVersionUID", type := .long, accessFlags := 26, slot := 0, constantValue := 0 }, { name := "COMPACT_STRINGS", type := .boolean, accessFlags := 24, slot := 1, constantValue := 0 }, { name := "serialPersistentFields", type := (.array (.object "java/io/ObjectStreamField")), accessFlags := 26, slot := 2, constantValue := 0 }, { name := "REPL", type := .char, accessFlags := 26, slot := 3, constantValue := 0 }, { name := "CASE_INSENSITIVE_ORDER", type := (.object "java/util/Comparator"), accessFlags := 25, slot := 4, constantValue := 0 }, { name := "LATIN1", type := .byte, accessFlags := 24, slot := 5, constantValue := 0 }, { name := "UTF16", type := .byte, accessFlags := 24, slot := 6, constantValue := 0 }]
  methods := #[k11m0, k11m1, k11m2, k11m3, k11m4, k11m5, k11m6, k11m7, k11m8]
  instanceTypes := #[(.array .byte), .byte, .int, .boolean]
  staticTypes := #[.long, .boolean, (.array (.object "java/io/ObjectStreamField")), .char, (.object "java/util/Comparator"), .byte, .byte]
  resolved := Array.replicate 1451 none
  statics := some 0 }

def pool12 : Array CpInfo := pool [(2, .class_ 4), (1, u "java/lang/Object"), (0, u "<init>"), (0, u "()V"), (1, .class_ 10), (1, u "java/lang/Number"), (2, .class_ 14), (0, u "java/io/Serializable"), (0, u "serialVersionUID"), (0, u "J")] 20

def k12m0 : Method := { name := "<init>", desc := "()V", sig := { parameters := [], returnType := none }, accessFlags := 1, code := none }
/-- java/lang/Number -/
def k12 : Class := { plain "java/lang/Number" (some 0) with
  accessFlags := 1057
  interfaces := #[6]
  cf := some (fileOf pool12 8 #[] #[{ accessFlags := 1, nameIndex := 5, descriptorIndex := 6, attributes := #[] }] 1057 2 #[13] #[{ accessFlags := 26, nameIndex := 15, descriptorIndex := 16, attributes := #[] }])
  fields := #[{ name := "serialVersionUID", type := .long, accessFlags := 26, slot := 0, constantValue := 0 }]
  methods := #[k12m0]
  instanceTypes := #[]
  staticTypes := #[.long]
  resolved := Array.replicate 37 none
  statics := none }

def pool13 : Array CpInfo := pool [(1, .class_ 2), (0, u "java/lang/Integer"), (16, u "digits"), (0, u "[C"), (33, u "(I)I"), (19, u "stringSize"), (2, u "getChars"), (0, u "(II[B)I"), (4, .fieldref 1 84), (0, .nameAndType 85 86), (0, u "DigitOnes"), (0, u "[B"), (0, .fieldref 1 88), (0, .nameAndType 89 86), (0, u "DigitTens"), (99, .class_ 190), (0, u "java/lang/Integer$IntegerCache"), (3, u "I"), (8, .class_ 204), (0, u "java/lang/Number"), (2, u "value"), (94, u "TYPE"), (0, u "Ljava/lang/Class;"), (0, .class_ 305), (0, u "java/lang/Comparable"), (0, .class_ 307), (0, u "java/lang/constant/Constable"), (0, .class_ 309), (0, u "java/lang/constant/ConstantDesc"), (0, u "MIN_VALUE"), (1, u "MAX_VALUE"), (3, u "SIZE"), (1, u "BYTES"), (1, u "serialVersionUID"), (0, u "J")] 131

def k13c0 : Code := { maxStack := 4, maxLocals := 7, code := jdk_33_method_12_code, exceptionTable := #[], attributes := #[] }
def k13m0 : Method := { name := "getChars", desc := "(II[B)I", sig := { parameters := [.int, .int, (.array .byte)], returnType := some .int }, accessFlags := 8, code := some k13c0 }
def k13c1 : Code := { maxStack := 2, maxLocals := 4, code := jdk_33_method_13_code, exceptionTable := #[], attributes := #[] }
def k13m1 : Method := { name := "stringSize", desc := "(I)I", sig := { parameters := [.int], returnType := some .int }, accessFlags := 8, code := some k13c1 }
/-- java/lang/Integer -/
def k13 : Class := { plain "java/lang/Integer" (some 12) with
  accessFlags := 49
  interfaces := #[7, 9, 10]
  cf := some (fileOf pool13 1 #[.nestMembers #[189]] #[{ accessFlags := 8, nameIndex := 77, descriptorIndex := 78, attributes := #[] }, { accessFlags := 8, nameIndex := 74, descriptorIndex := 54, attributes := #[] }] 49 203 #[304, 306, 308] #[{ accessFlags := 25, nameIndex := 310, descriptorIndex := 194, attributes := #[] }, { accessFlags := 25, nameIndex := 312, descriptorIndex := 194, attributes := #[] }, { accessFlags := 25, nameIndex := 302, descriptorIndex := 303, attributes := #[] }, { accessFlags := 24, nameIndex := 19, descriptorIndex := 20, attributes := #[] }, { accessFlags := 24, nameIndex := 89, descriptorIndex := 86, attributes := #[] }, { accessFlags := 24, nameIndex := 85, descriptorIndex := 86, attributes := #[] }, { accessFlags := 18, nameIndex := 207, descriptorIndex := 194, attributes := #[] }, { accessFlags := 25, nameIndex := 316, descriptorIndex := 194, attributes := #[] }, { accessFlags := 25, nameIndex := 318, descriptorIndex := 194, attributes := #[] }, { accessFlags := 26, nameIndex := 320, descriptorIndex := 321, attributes := #[] }])
  fields := #[{ name := "MIN_VALUE", type := .int, accessFlags := 25, slot := 0, constantValue := 0 }, { name := "MAX_VALUE", type := .int, accessFlags := 25, slot := 1, constantValue := 0 }, { name := "TYPE", type := (.object "java/lang/Class"), accessFlags := 25, slot := 2, constantValue := 0 }, { name := "digits", type := (.array .char), accessFlags := 24, slot := 3, constantValue := 0 }, { name := "DigitTens", type := (.array .byte), accessFlags := 24, slot := 4, constantValue := 0 }, { name := "DigitOnes", type := (.array .byte), accessFlags := 24, slot := 5, constantValue := 0 }, { name := "value", type := .int, accessFlags := 18, slot := 0, constantValue := 0 }, { name := "SIZE", type := .int, accessFlags := 25, slot := 6, constantValue := 0 }, { name := "BYTES", type := .int, accessFlags := 25, slot := 7, constantValue := 0 }, { name := "serialVersionUID", type := .long, accessFlags := 26, slot := 8, constantValue := 0 }]
  methods := #[k13m0, k13m1]
  instanceTypes := #[.int]
  staticTypes := #[.int, .int, (.object "java/lang/Class"), (.array .char), (.array .byte), (.array .byte), .int, .int, .long]
  resolved := Array.replicate 453 none
  statics := some 1 }

def pool14 : Array CpInfo := pool [(2, .class_ 4), (1, u "java/lang/Object"), (0, u "<init>"), (0, u "()V"), (1, .class_ 10), (1, u "java/lang/System"), (0, u "allowSecurityManager"), (0, u "I"), (16, u "cons"), (0, u "Ljava/io/Console;"), (77, .class_ 110), (1, u "java/lang/System$CallersHolder"), (43, u "initialErrStream"), (0, u "Ljava/io/PrintStream;"), (19, u "security"), (0, u "Ljava/lang/SecurityManager;"), (31, .class_ 209), (0, u "java/lang/System$1"), (7, u "props"), (0, u "Ljava/util/Properties;"), (2, u "lineSeparator"), (0, u "Ljava/lang/String;"), (96, .class_ 321), (1, u "java/lang/System$LoggerFinder"), (5, .class_ 328), (0, u "java/lang/System$Logger"), (67, u "err"), (2, u "out"), (91, u "notSupportedJnuEncoding"), (15, u "in"), (17, u "initialIn"), (0, u "Ljava/io/InputStream;"), (35, u "bootLayer"), (0, u "Ljava/lang/ModuleLayer;"), (99, .class_ 664), (0, u "java/lang/System$2"), (9, u "NEVER"), (2, u "MAYBE"), (49, u "arraycopy"), (0, u "(Ljava/lang/Object;ILjava/lang/Object;II)V"), (72, .class_ 802), (0, u "java/lang/System$Logger$Level")] 31

def k14m0 : Method := { name := "<init>", desc := "()V", sig := { parameters := [], returnType := none }, accessFlags := 2, code := none }
def k14m1 : Method := { name := "arraycopy", desc := "(Ljava/lang/Object;ILjava/lang/Object;II)V", sig := { parameters := [(.object "java/lang/Object"), .int, (.object "java/lang/Object"), .int, .int], returnType := none }, accessFlags := 265, code := none }
/-- java/lang/System -/
def k14 : Class := { plain "java/lang/System" (some 0) with
  accessFlags := 49
  interfaces := #[]
  cf := some (fileOf pool14 8 #[.nestMembers #[319, 327, 801, 108, 663, 208]] #[{ accessFlags := 2, nameIndex := 5, descriptorIndex := 6, attributes := #[] }, { accessFlags := 265, nameIndex := 727, descriptorIndex := 728, attributes := #[] }] 49 2 #[] #[{ accessFlags := 25, nameIndex := 507, descriptorIndex := 526, attributes := #[] }, { accessFlags := 25, nameIndex := 399, descriptorIndex := 155, attributes := #[] }, { accessFlags := 25, nameIndex := 396, descriptorIndex := 155, attributes := #[] }, { accessFlags := 10, nameIndex := 525, descriptorIndex := 526, attributes := #[] }, { accessFlags := 26, nameIndex := 674, descriptorIndex := 12, attributes := #[] }, { accessFlags := 26, nameIndex := 677, descriptorIndex := 12, attributes := #[] }, { accessFlags := 10, nameIndex := 11, descriptorIndex := 12, attributes := #[] }, { accessFlags := 74, nameIndex := 175, descriptorIndex := 176, attributes := #[] }, { accessFlags := 10, nameIndex := 491, descriptorIndex := 222, attributes := #[] }, { accessFlags := 74, nameIndex := 29, descriptorIndex := 30, attributes := #[] }, { accessFlags := 74, nameIndex := 154, descriptorIndex := 155, attributes := #[] }, { accessFlags := 10, nameIndex := 217, descriptorIndex := 218, attributes := #[] }, { accessFlags := 10, nameIndex := 221, descriptorIndex := 222, attributes := #[] }, { accessFlags := 8, nameIndex := 562, descriptorIndex := 563, attributes := #[] }])
  fields := #[{ name := "in", type := (.object "java/io/InputStream"), accessFlags := 25, slot := 0, constantValue := 0 }, { name := "out", type := (.object "java/io/PrintStream"), accessFlags := 25, slot := 1, constantValue := 0 }, { name := "err", type := (.object "java/io/PrintStream"), accessFlags := 25, slot := 2, constantValue := 0 }, { name := "initialIn", type := (.object "java/io/InputStream"), accessFlags := 10, slot := 3, constantValue := 0 }, { name := "NEVER", type := .int, accessFlags := 26, slot := 4, constantValue := 0 }, { name := "MAYBE", type := .int, accessFlags := 26, slot := 5, constantValue := 0 }, { name := "allowSecurityManager", type := .int, accessFlags := 10, slot := 6, constantValue := 0 }, { name := "security", type := (.object "java/lang/SecurityManager"), accessFlags := 74, slot := 7, constantValue := 0 }, { name := "notSupportedJnuEncoding", type := (.object "java/lang/String"), accessFlags := 10, slot := 8, constantValue := 0 }, { name := "cons", type := (.object "java/io/Console"), accessFlags := 74, slot := 9, constantValue := 0 }, { name := "initialErrStream", type := (.object "java/io/PrintStream"), accessFlags := 74, slot := 10, constantValue := 0 }, { name := "props", type := (.object "java/util/Properties"), accessFlags := 10, slot := 11, constantValue := 0 }, { name := "lineSeparator", type := (.object "java/lang/String"), accessFlags := 10, slot := 12, constantValue := 0 }, { name := "bootLayer", type := (.object "java/lang/ModuleLayer"), accessFlags := 8, slot := 13, constantValue := 0 }]
  methods := #[k14m0, k14m1]
  instanceTypes := #[]
  staticTypes := #[(.object "java/io/InputStream"), (.object "java/io/PrintStream"), (.object "java/io/PrintStream"), (.object "java/io/InputStream"), .int, .int, .int, (.object "java/lang/SecurityManager"), (.object "java/lang/String"), (.object "java/io/Console"), (.object "java/io/PrintStream"), (.object "java/util/Properties"), (.object "java/lang/String"), (.object "java/lang/ModuleLayer")]
  resolved := Array.replicate 834 none
  statics := none }

def pool15 : Array CpInfo := pool [(2, .class_ 4), (1, u "java/lang/Object"), (0, u "<init>"), (0, u "()V"), (7, .class_ 16), (1, u "java/util/Arrays"), (57, .class_ 76), (1, u "java/util/Arrays$NaturalOrder"), (32, u "()Ljava/lang/Object;"), (3, .class_ 115), (1, u "java/util/Arrays$LegacyMergeSort"), (1, u "Z"), (10, .nameAndType 129 109), (0, u "clone"), (9, u "copyOfRange"), (10, .methodref 151 152), (0, .class_ 153), (0, .nameAndType 154 155), (0, u "java/lang/System"), (0, u "arraycopy"), (0, u "(Ljava/lang/Object;ILjava/lang/Object;II)V"), (146, u "copyOf"), (1, .methodref 305 306), (0, .class_ 307), (0, .nameAndType 308 309), (0, u "java/lang/Math"), (0, u "min"), (0, u "(II)I"), (0, .methodref 311 128), (0, .class_ 312), (0, u "[B"), (26, .methodref 14 340), (0, .nameAndType 341 342), (0, u "copyOfRangeByte"), (0, u "([BII)[B"), (0, .methodref 14 344), (0, .nameAndType 345 346), (0, u "checkLength"), (0, u "(II)V"), (28, .class_ 376), (0, u "java/util/Arrays$ArrayList"), (68, u "$assertionsDisabled"), (269, u "MIN_ARRAY_SORT_GRAN"), (0, u "I"), (2, u "INSERTIONSORT_THRESHOLD"), (149, u "([BI)[B"), (105, .class_ 976), (0, u "java/util/Arrays$ArrayItr")] 52

def k15m0 : Method := { name := "<init>", desc := "()V", sig := { parameters := [], returnType := none }, accessFlags := 2, code := none }
def k15c1 : Code := { maxStack := 6, maxLocals := 3, code := jdk_65_method_121_code, exceptionTable := #[], attributes := #[] }
def k15m1 : Method := { name := "copyOf", desc := "([BI)[B", sig := { parameters := [(.array .byte), .int], returnType := some (.array .byte) }, accessFlags := 9, code := some k15c1 }
def k15c2 : Code := { maxStack := 4, maxLocals := 2, code := jdk_65_method_131_code, exceptionTable := #[], attributes := #[] }
def k15m2 : Method := { name := "checkLength", desc := "(II)V", sig := { parameters := [.int, .int], returnType := none }, accessFlags := 10, code := some k15c2 }
def k15c3 : Code := { maxStack := 3, maxLocals := 3, code := jdk_65_method_132_code, exceptionTable := #[], attributes := #[] }
def k15m3 : Method := { name := "copyOfRange", desc := "([BII)[B", sig := { parameters := [(.array .byte), .int, .int], returnType := some (.array .byte) }, accessFlags := 9, code := some k15c3 }
def k15c4 : Code := { maxStack := 6, maxLocals := 5, code := jdk_65_method_133_code, exceptionTable := #[], attributes := #[] }
def k15m4 : Method := { name := "copyOfRangeByte", desc := "([BII)[B", sig := { parameters := [(.array .byte), .int, .int], returnType := some (.array .byte) }, accessFlags := 10, code := some k15c4 }
/-- java/util/Arrays -/
def k15 : Class := { plain "java/util/Arrays" (some 0) with
  accessFlags := 49
  interfaces := #[]
  cf := some (fileOf pool15 14 #[.nestMembers #[975, 375, 113, 74]] #[{ accessFlags := 2, nameIndex := 5, descriptorIndex := 6, attributes := #[] }, { accessFlags := 9, nameIndex := 302, descriptorIndex := 869, attributes := #[] }, { accessFlags := 10, nameIndex := 345, descriptorIndex := 346, attributes := #[] }, { accessFlags := 9, nameIndex := 139, descriptorIndex := 342, attributes := #[] }, { accessFlags := 10, nameIndex := 341, descriptorIndex := 342, attributes := #[] }] 49 2 #[] #[{ accessFlags := 26, nameIndex := 715, descriptorIndex := 716, attributes := #[] }, { accessFlags := 26, nameIndex := 719, descriptorIndex := 716, attributes := #[] }, { accessFlags := 4120, nameIndex := 445, descriptorIndex := 117, attributes := #[] }])
  fields := #[{ name := "MIN_ARRAY_SORT_GRAN", type := .int, accessFlags := 26, slot := 0, constantValue := 0 }, { name := "INSERTIONSORT_THRESHOLD", type := .int, accessFlags := 26, slot := 1, constantValue := 0 }, { name := "$assertionsDisabled", type := .boolean, accessFlags := 4120, slot := 2, constantValue := 0 }]
  methods := #[k15m0, k15m1, k15m2, k15m3, k15m4]
  instanceTypes := #[]
  staticTypes := #[.int, .int, .boolean]
  resolved := Array.replicate 1029 none
  statics := none }

def pool16 : Array CpInfo := pool [(1, .class_ 2), (0, u "java/lang/Math"), (1, .class_ 6), (1, u "java/lang/Object"), (0, u "<init>"), (0, u "()V"), (89, .class_ 100), (1, u "java/lang/Math$RandomNumberGeneratorHolder"), (23, u "abs"), (0, u "(J)J"), (46, u "negativeZeroFloatBits"), (0, u "J"), (2, u "negativeZeroDoubleBits"), (21, u "max"), (2, u "min"), (43, u "$assertionsDisabled"), (0, u "Z"), (88, u "(II)I"), (2, u "twoToTheDoubleScaleDown"), (0, u "D"), (4, u "twoToTheDoubleScaleUp"), (9, u "E"), (3, u "PI"), (2, u "TAU"), (2, u "DEGREES_TO_RADIANS"), (0, u "RADIANS_TO_DEGREES")] 94

def k16m0 : Method := { name := "<init>", desc := "()V", sig := { parameters := [], returnType := none }, accessFlags := 2, code := none }
def k16c1 : Code := { maxStack := 4, maxLocals := 2, code := jdk_29_method_61_code, exceptionTable := #[], attributes := #[] }
def k16m1 : Method := { name := "abs", desc := "(J)J", sig := { parameters := [.long], returnType := some .long }, accessFlags := 9, code := some k16c1 }
def k16c2 : Code := { maxStack := 2, maxLocals := 2, code := jdk_29_method_65_code, exceptionTable := #[], attributes := #[] }
def k16m2 : Method := { name := "max", desc := "(II)I", sig := { parameters := [.int, .int], returnType := some .int }, accessFlags := 9, code := some k16c2 }
def k16c3 : Code := { maxStack := 2, maxLocals := 2, code := jdk_29_method_69_code, exceptionTable := #[], attributes := #[] }
def k16m3 : Method := { name := "min", desc := "(II)I", sig := { parameters := [.int, .int], returnType := some .int }, accessFlags := 9, code := some k16c3 }
/-- java/lang/Math -/
def k16 : Class := { plain "java/lang/Math" (some 0) with
  accessFlags := 49
  interfaces := #[]
  cf := some (fileOf pool16 1 #[.nestMembers #[98]] #[{ accessFlags := 2, nameIndex := 7, descriptorIndex := 8, attributes := #[] }, { accessFlags := 9, nameIndex := 124, descriptorIndex := 125, attributes := #[] }, { accessFlags := 9, nameIndex := 198, descriptorIndex := 335, attributes := #[] }, { accessFlags := 9, nameIndex := 201, descriptorIndex := 335, attributes := #[] }] 49 4 #[] #[{ accessFlags := 25, nameIndex := 354, descriptorIndex := 339, attributes := #[] }, { accessFlags := 25, nameIndex := 358, descriptorIndex := 339, attributes := #[] }, { accessFlags := 25, nameIndex := 361, descriptorIndex := 339, attributes := #[] }, { accessFlags := 26, nameIndex := 364, descriptorIndex := 339, attributes := #[] }, { accessFlags := 26, nameIndex := 365, descriptorIndex := 339, attributes := #[] }, { accessFlags := 26, nameIndex := 172, descriptorIndex := 173, attributes := #[] }, { accessFlags := 26, nameIndex := 176, descriptorIndex := 173, attributes := #[] }, { accessFlags := 8, nameIndex := 344, descriptorIndex := 339, attributes := #[] }, { accessFlags := 8, nameIndex := 338, descriptorIndex := 339, attributes := #[] }, { accessFlags := 4120, nameIndex := 245, descriptorIndex := 246, attributes := #[] }])
  fields := #[{ name := "E", type := .double, accessFlags := 25, slot := 0, constantValue := 0 }, { name := "PI", type := .double, accessFlags := 25, slot := 1, constantValue := 0 }, { name := "TAU", type := .double, accessFlags := 25, slot := 2, constantValue := 0 }, { name := "DEGREES_TO_RADIANS", type := .double, accessFlags := 26, slot := 3, constantValue := 0 }, { name := "RADIANS_TO_DEGREES", type := .double, accessFlags := 26, slot := 4, constantValue := 0 }, { name := "negativeZeroFloatBits", type := .long, accessFlags := 26, slot := 5, constantValue := 0 }, { name := "negativeZeroDoubleBits", type := .long, accessFlags := 26, slot := 6, constantValue := 0 }, { name := "twoToTheDoubleScaleUp", type := .double, accessFlags := 8, slot := 7, constantValue := 0 }, { name := "twoToTheDoubleScaleDown", type := .double, accessFlags := 8, slot := 8, constantValue := 0 }, { name := "$assertionsDisabled", type := .boolean, accessFlags := 4120, slot := 9, constantValue := 0 }]
  methods := #[k16m0, k16m1, k16m2, k16m3]
  instanceTypes := #[]
  staticTypes := #[.double, .double, .double, .double, .double, .long, .long, .double, .double, .boolean]
  resolved := Array.replicate 460 none
  statics := none }

def pool17 : Array CpInfo := pool [(1, .class_ 2), (0, u "java/lang/String"), (1, .class_ 6), (1, u "java/lang/Object"), (0, u "<init>"), (0, u "()V"), (0, .methodref 1 10), (0, .nameAndType 11 12), (0, u "checkIndex"), (0, u "(II)V"), (1, .class_ 16), (1, u "java/lang/StringLatin1"), (36, u "([BI)C"), (67, u "$assertionsDisabled"), (0, u "Z"), (98, .class_ 223), (1, u "java/lang/StringLatin1$LinesSpliterator"), (28, u "charAt"), (137, .class_ 391), (0, u "java/lang/StringLatin1$CharsSpliterator")] 3

def k17m0 : Method := { name := "<init>", desc := "()V", sig := { parameters := [], returnType := none }, accessFlags := 0, code := none }
def k17c1 : Code := { maxStack := 2, maxLocals := 2, code := jdk_43_method_2_code, exceptionTable := #[], attributes := #[] }
def k17m1 : Method := { name := "charAt", desc := "([BI)C", sig := { parameters := [(.array .byte), .int], returnType := some .char }, accessFlags := 9, code := some k17c1 }
/-- java/lang/StringLatin1 -/
def k17 : Class := { plain "java/lang/StringLatin1" (some 0) with
  accessFlags := 48
  interfaces := #[]
  cf := some (fileOf pool17 14 #[.nestMembers #[390, 221]] #[{ accessFlags := 0, nameIndex := 7, descriptorIndex := 8, attributes := #[] }, { accessFlags := 9, nameIndex := 252, descriptorIndex := 53, attributes := #[] }] 48 4 #[] #[{ accessFlags := 4120, nameIndex := 121, descriptorIndex := 122, attributes := #[] }])
  fields := #[{ name := "$assertionsDisabled", type := .boolean, accessFlags := 4120, slot := 0, constantValue := 0 }]
  methods := #[k17m0, k17m1]
  instanceTypes := #[]
  staticTypes := #[.boolean]
  resolved := Array.replicate 395 none
  statics := none }

def pool18 : Array CpInfo := pool [(2, .class_ 4), (1, u "java/lang/Object"), (0, u "<init>"), (0, u "()V"), (17, .class_ 26), (1, u "jdk/internal/util/Preconditions"), (6, u "checkIndex"), (21, .class_ 56), (0, u "jdk/internal/util/Preconditions$4"), (57, .class_ 115), (0, u "jdk/internal/util/Preconditions$1"), (7, u "SIOOBE_FORMATTER"), (0, u "Ljava/util/function/BiFunction;"), (0, .class_ 126), (0, u "jdk/internal/util/Preconditions$2"), (3, u "AIOOBE_FORMATTER"), (0, .class_ 132), (0, u "jdk/internal/util/Preconditions$3"), (3, u "IOOBE_FORMATTER"), (41, u "(IILjava/util/function/BiFunction;)I")] 15

def k18m0 : Method := { name := "<init>", desc := "()V", sig := { parameters := [], returnType := none }, accessFlags := 1, code := none }
def k18c1 : Code := { maxStack := 3, maxLocals := 3, code := jdk_41_method_11_code, exceptionTable := #[], attributes := #[] }
def k18m1 : Method := { name := "checkIndex", desc := "(IILjava/util/function/BiFunction;)I", sig := { parameters := [.int, .int, (.object "java/util/function/BiFunction")], returnType := some .int }, accessFlags := 9, code := some k18c1 }
/-- jdk/internal/util/Preconditions -/
def k18 : Class := { plain "jdk/internal/util/Preconditions" (some 0) with
  accessFlags := 33
  interfaces := #[]
  cf := some (fileOf pool18 24 #[.nestMembers #[55, 131, 125, 114]] #[{ accessFlags := 1, nameIndex := 5, descriptorIndex := 6, attributes := #[] }, { accessFlags := 9, nameIndex := 33, descriptorIndex := 178, attributes := #[] }] 33 2 #[] #[{ accessFlags := 25, nameIndex := 123, descriptorIndex := 124, attributes := #[] }, { accessFlags := 25, nameIndex := 130, descriptorIndex := 124, attributes := #[] }, { accessFlags := 25, nameIndex := 136, descriptorIndex := 124, attributes := #[] }])
  fields := #[{ name := "SIOOBE_FORMATTER", type := (.object "java/util/function/BiFunction"), accessFlags := 25, slot := 0, constantValue := 0 }, { name := "AIOOBE_FORMATTER", type := (.object "java/util/function/BiFunction"), accessFlags := 25, slot := 1, constantValue := 0 }, { name := "IOOBE_FORMATTER", type := (.object "java/util/function/BiFunction"), accessFlags := 25, slot := 2, constantValue := 0 }]
  methods := #[k18m0, k18m1]
  instanceTypes := #[]
  staticTypes := #[(.object "java/util/function/BiFunction"), (.object "java/util/function/BiFunction"), (.object "java/util/function/BiFunction")]
  resolved := Array.replicate 194 none
  statics := some 2 }

def pool19 : Array CpInfo := pool [(9, u "<init>"), (6, .class_ 18), (1, u "java/lang/Object"), (0, u "()V"), (1, .class_ 23), (1, u "jdk/internal/util/ArraysSupport"), (0, u "LOG2_ARRAY_LONG_INDEX_SCALE"), (0, u "I"), (2, u "U"), (0, u "Ljdk/internal/misc/Unsafe;"), (8, u "BIG_ENDIAN"), (0, u "Z"), (8, u "LOG2_BYTE_BIT_SIZE"), (4, u "LOG2_ARRAY_INT_INDEX_SCALE"), (54, u "JLA"), (0, u "Ljdk/internal/access/JavaLangAccess;"), (11, u "LOG2_ARRAY_BOOLEAN_INDEX_SCALE"), (9, u "LOG2_ARRAY_BYTE_INDEX_SCALE"), (5, u "LOG2_ARRAY_CHAR_INDEX_SCALE"), (5, u "LOG2_ARRAY_SHORT_INDEX_SCALE"), (18, u "LOG2_ARRAY_FLOAT_INDEX_SCALE"), (24, u "LOG2_ARRAY_DOUBLE_INDEX_SCALE"), (6, .methodref 195 196), (0, .class_ 197), (0, .nameAndType 198 199), (0, u "java/lang/Math"), (0, u "max"), (0, u "(II)I"), (0, .integer 2147483639), (76, u "T_BOOLEAN"), (2, u "T_CHAR"), (1, u "T_FLOAT"), (1, u "T_DOUBLE"), (1, u "T_BYTE"), (1, u "T_SHORT"), (1, u "T_INT"), (1, u "T_LONG"), (1, u "SOFT_MAX_ARRAY_LENGTH"), (56, u "newLength"), (0, u "(III)I")] 25

def k19m0 : Method := { name := "<init>", desc := "()V", sig := { parameters := [], returnType := none }, accessFlags := 2, code := none }
def k19c1 : Code := { maxStack := 3, maxLocals := 4, code := jdk_48_method_27_code, exceptionTable := #[], attributes := #[] }
def k19m1 : Method := { name := "newLength", desc := "(III)I", sig := { parameters := [.int, .int, .int], returnType := some .int }, accessFlags := 9, code := some k19c1 }
/-- jdk/internal/util/ArraysSupport -/
def k19 : Class := { plain "jdk/internal/util/ArraysSupport" (some 0) with
  accessFlags := 33
  interfaces := #[]
  cf := some (fileOf pool19 21 #[] #[{ accessFlags := 2, nameIndex := 9, descriptorIndex := 19, attributes := #[] }, { accessFlags := 9, nameIndex := 351, descriptorIndex := 352, attributes := #[] }] 33 16 #[] #[{ accessFlags := 24, nameIndex := 28, descriptorIndex := 29, attributes := #[] }, { accessFlags := 26, nameIndex := 38, descriptorIndex := 39, attributes := #[] }, { accessFlags := 25, nameIndex := 121, descriptorIndex := 25, attributes := #[] }, { accessFlags := 25, nameIndex := 131, descriptorIndex := 25, attributes := #[] }, { accessFlags := 25, nameIndex := 137, descriptorIndex := 25, attributes := #[] }, { accessFlags := 25, nameIndex := 143, descriptorIndex := 25, attributes := #[] }, { accessFlags := 25, nameIndex := 53, descriptorIndex := 25, attributes := #[] }, { accessFlags := 25, nameIndex := 24, descriptorIndex := 25, attributes := #[] }, { accessFlags := 25, nameIndex := 162, descriptorIndex := 25, attributes := #[] }, { accessFlags := 25, nameIndex := 187, descriptorIndex := 25, attributes := #[] }, { accessFlags := 26, nameIndex := 48, descriptorIndex := 25, attributes := #[] }, { accessFlags := 25, nameIndex := 277, descriptorIndex := 25, attributes := #[] }, { accessFlags := 25, nameIndex := 280, descriptorIndex := 25, attributes := #[] }, { accessFlags := 25, nameIndex := 282, descriptorIndex := 25, attributes := #[] }, { accessFlags := 25, nameIndex := 284, descriptorIndex := 25, attributes := #[] }, { accessFlags := 25, nameIndex := 286, descriptorIndex := 25, attributes := #[] }, { accessFlags := 25, nameIndex := 288, descriptorIndex := 25, attributes := #[] }, { accessFlags := 25, nameIndex := 290, descriptorIndex := 25, attributes := #[] }, { accessFlags := 25, nameIndex := 292, descriptorIndex := 25, attributes := #[] }, { accessFlags := 26, nameIndex := 108, descriptorIndex := 109, attributes := #[] }, { accessFlags := 25, nameIndex := 294, descriptorIndex := 25, attributes := #[] }])
  fields := #[{ name := "U", type := (.object "jdk/internal/misc/Unsafe"), accessFlags := 24, slot := 0, constantValue := 0 }, { name := "BIG_ENDIAN", type := .boolean, accessFlags := 26, slot := 1, constantValue := 0 }, { name := "LOG2_ARRAY_BOOLEAN_INDEX_SCALE", type := .int, accessFlags := 25, slot := 2, constantValue := 0 }, { name := "LOG2_ARRAY_BYTE_INDEX_SCALE", type := .int, accessFlags := 25, slot := 3, constantValue := 0 }, { name := "LOG2_ARRAY_CHAR_INDEX_SCALE", type := .int, accessFlags := 25, slot := 4, constantValue := 0 }, { name := "LOG2_ARRAY_SHORT_INDEX_SCALE", type := .int, accessFlags := 25, slot := 5, constantValue := 0 }, { name := "LOG2_ARRAY_INT_INDEX_SCALE", type := .int, accessFlags := 25, slot := 6, constantValue := 0 }, { name := "LOG2_ARRAY_LONG_INDEX_SCALE", type := .int, accessFlags := 25, slot := 7, constantValue := 0 }, { name := "LOG2_ARRAY_FLOAT_INDEX_SCALE", type := .int, accessFlags := 25, slot := 8, constantValue := 0 }, { name := "LOG2_ARRAY_DOUBLE_INDEX_SCALE", type := .int, accessFlags := 25, slot := 9, constantValue := 0 }, { name := "LOG2_BYTE_BIT_SIZE", type := .int, accessFlags := 26, slot := 10, constantValue := 0 }, { name := "T_BOOLEAN", type := .int, accessFlags := 25, slot := 11, constantValue := 0 }, { name := "T_CHAR", type := .int, accessFlags := 25, slot := 12, constantValue := 0 }, { name := "T_FLOAT", type := .int, accessFlags := 25, slot := 13, constantValue := 0 }, { name := "T_DOUBLE", type := .int, accessFlags := 25, slot := 14, constantValue := 0 }, { name := "T_BYTE", type := .int, accessFlags := 25, slot := 15, constantValue := 0 }, { name := "T_SHORT", type := .int, accessFlags := 25, slot := 16, constantValue := 0 }, { name := "T_INT", type := .int, accessFlags := 25, slot := 17, constantValue := 0 }, { name := "T_LONG", type := .int, accessFlags := 25, slot := 18, constantValue := 0 }, { name := "JLA", type := (.object "jdk/internal/access/JavaLangAccess"), accessFlags := 26, slot := 19, constantValue := 0 }, { name := "SOFT_MAX_ARRAY_LENGTH", type := .int, accessFlags := 25, slot := 20, constantValue := 0 }]
  methods := #[k19m0, k19m1]
  instanceTypes := #[]
  staticTypes := #[(.object "jdk/internal/misc/Unsafe"), .boolean, .int, .int, .int, .int, .int, .int, .int, .int, .int, .int, .int, .int, .int, .int, .int, .int, .int, (.object "jdk/internal/access/JavaLangAccess"), .int]
  resolved := Array.replicate 378 none
  statics := none }

def pool20 : Array CpInfo := pool [(1, .class_ 2), (0, u "java/lang/Cloneable"), (0, .class_ 4), (0, u "java/lang/Object")] 2

/-- java/lang/Cloneable -/
def k20 : Class := { plain "java/lang/Cloneable" (some 0) with
  accessFlags := 1537
  interfaces := #[]
  cf := some (fileOf pool20 1 #[] #[] 1537 3 #[] #[])
  fields := #[]
  methods := #[]
  instanceTypes := #[]
  staticTypes := #[]
  resolved := Array.replicate 7 none
  statics := none }

/-- the primitive byte -/
def k21 : Class := { plain "byte" none with kind := .primitive 'B', accessFlags := 0x411 }
/-- [B -/
def k22 : Class := { plain "[B" (some 0) with kind := .array 21 .byte, interfaces := #[20, 6], accessFlags := 1041 }

/-- the primitive int -/
def k23 : Class := { plain "int" none with kind := .primitive 'I', accessFlags := 0x411 }
/-- [I -/
def k24 : Class := { plain "[I" (some 0) with kind := .array 23 .int, interfaces := #[20, 6], accessFlags := 1041 }

def heap : Heap := #[{ cls := 11, slots := #[.long 0, .int 1, .null, .int 0, .null, .int 0, .int 0], vm := .statics 11 },
  { cls := 13, slots := #[.int 0, .int 0, .null, .null, .ref 4, .ref 3, .int 0, .int 0, .long 0], vm := .statics 13 },
  { cls := 18, slots := #[.null, .null, .null], vm := .statics 18 },
  { cls := 22, slots := #[.int 48, .int 49, .int 50, .int 51, .int 52, .int 53, .int 54, .int 55, .int 56, .int 57, .int 48, .int 49, .int 50, .int 51, .int 52, .int 53, .int 54, .int 55, .int 56, .int 57, .int 48, .int 49, .int 50, .int 51, .int 52, .int 53, .int 54, .int 55, .int 56, .int 57, .int 48, .int 49, .int 50, .int 51, .int 52, .int 53, .int 54, .int 55, .int 56, .int 57, .int 48, .int 49, .int 50, .int 51, .int 52, .int 53, .int 54, .int 55, .int 56, .int 57, .int 48, .int 49, .int 50, .int 51, .int 52, .int 53, .int 54, .int 55, .int 56, .int 57, .int 48, .int 49, .int 50, .int 51, .int 52, .int 53, .int 54, .int 55, .int 56, .int 57, .int 48, .int 49, .int 50, .int 51, .int 52, .int 53, .int 54, .int 55, .int 56, .int 57, .int 48, .int 49, .int 50, .int 51, .int 52, .int 53, .int 54, .int 55, .int 56, .int 57, .int 48, .int 49, .int 50, .int 51, .int 52, .int 53, .int 54, .int 55, .int 56, .int 57], vm := .none },
  { cls := 22, slots := #[.int 48, .int 48, .int 48, .int 48, .int 48, .int 48, .int 48, .int 48, .int 48, .int 48, .int 49, .int 49, .int 49, .int 49, .int 49, .int 49, .int 49, .int 49, .int 49, .int 49, .int 50, .int 50, .int 50, .int 50, .int 50, .int 50, .int 50, .int 50, .int 50, .int 50, .int 51, .int 51, .int 51, .int 51, .int 51, .int 51, .int 51, .int 51, .int 51, .int 51, .int 52, .int 52, .int 52, .int 52, .int 52, .int 52, .int 52, .int 52, .int 52, .int 52, .int 53, .int 53, .int 53, .int 53, .int 53, .int 53, .int 53, .int 53, .int 53, .int 53, .int 54, .int 54, .int 54, .int 54, .int 54, .int 54, .int 54, .int 54, .int 54, .int 54, .int 55, .int 55, .int 55, .int 55, .int 55, .int 55, .int 55, .int 55, .int 55, .int 55, .int 56, .int 56, .int 56, .int 56, .int 56, .int 56, .int 56, .int 56, .int 56, .int 56, .int 57, .int 57, .int 57, .int 57, .int 57, .int 57, .int 57, .int 57, .int 57, .int 57], vm := .none }]
def classes : Array Class := #[k0, k1, k2, k3, k4, k5, k6, k7, k8, k9, k10, k11, k12, k13, k14, k15, k16, k17, k18, k19, k20, k21, k22, k23, k24]
def interned : List (Array UInt16 × Addr) := []
def slotsUsed : Nat := 219
def theMethod : MethodId := ⟨1, 1⟩
def args0 : Array Value := #[.int 5, .int 6, .int 7]
def aboutOver (below : List Frame) : State where
  vm := { classes := classes, interned := interned.toArray }
  heap := heap
  slotsUsed := slotsUsed
  threads := #[{ frames := .invoking theMethod args0 :: below }]
def below0 : List Frame := [.native { method := ⟨0, 0⟩, args := #[] }]
def about1 : State := aboutOver below0
def p0 : Program := .bare "" "" ""
def e0 : Env := launch0.env 0 0 0
theorem w_frames : about1.frames = Frame.invoking theMethod args0 :: below0 := rfl
set_option maxRecDepth 65536 in
theorem w_args : argsFit about1.vm theMethod args0 = true := by decide +kernel
set_option maxRecDepth 65536 in
theorem w_heap : heapFits about1 = true := by decide +kernel
set_option maxRecDepth 65536 in
theorem w_runnable : about1.curStatus? = some .runnable := by decide +kernel
set_option maxRecDepth 65536 in
theorem w_alone : about1.alone = true := by decide +kernel
set_option maxRecDepth 65536 in
theorem w_named : about1.methodNamed? x = some theMethod := by decide +kernel
set_option maxRecDepth 65536 in
theorem w_hears : about1.hears theMethod below0 = true := by decide +kernel
set_option maxRecDepth 65536 in
theorem w_ripe : about1.ripe theMethod args0 below0 = true := by decide +kernel
theorem w_running : about1.status = .running := rfl
set_option maxRecDepth 65536 in
theorem w_room : about1.hasRoom e0.platform room_1 = true :=
  launch0.hasRoom_least _ room_1 (by decide +kernel) (by decide +kernel) (by decide +kernel) (by decide +kernel) (by decide +kernel) (by decide +kernel)
theorem allAtoms_all (ts : List Jvm.Cond) (a : Array Jvm.Value) (st : Jvm.State) : (allAtoms ts).before a st = ts.all (fun c => c.before a st) := by
  induction ts with
  | nil => rfl
  | cons c t ih =>
    show (Jvm.Cond.and c (allAtoms t)).before a st = _
    rw [Jvm.Cond.before_and, ih, List.all_cons]
def words1 : List Jvm.Cond := Jvm.Cond.code x code maxLocals ret :: tables_1
/-- a 'code' word, met by the world's own term for the bytes: nothing is compared byte by byte -/
theorem code_word {y : MethodName} {bytes : ByteArray} {mx : Nat} {rt : Option FieldType} {a : Array Value} {s : State} {m : MethodId} {meth : Method} {c : Code} (h1 : s.methodNamed? y = some m) (h2 : s.vm.method? m = some meth) (h3 : meth.code = some c) (h4 : c.code = bytes)
    (h5 : (c.maxLocals == mx && c.exceptionTable.isEmpty && decide (c.maxStack ≤ mostOperands) && decide (meth.sig.returnType = rt) && !meth.locks && decide (parseMethodDescriptor y.desc = some meth.sig)) = true) : (Jvm.Cond.code y bytes mx rt).before a s = true := by
  simp only [Bool.and_eq_true, beq_iff_eq, Bool.not_eq_true', decide_eq_true_eq] at h5
  obtain ⟨⟨⟨⟨⟨g1, g2⟩, g3⟩, g4⟩, g5⟩, g6⟩ := h5
  simp [Cond.before, Cond.holds, Cond.value, h1, h2, h3, h4, g1, g2, g3, g4, g5, g6]
def isCode : Jvm.Cond → Bool
  | .code _ _ _ _ => true
  | _ => false
theorem all_split {L : List Jvm.Cond} {P : Jvm.Cond → Bool} (h1 : L.all (fun c => isCode c || P c) = true) (h2 : ∀ c ∈ L.filter isCode, P c = true) : L.all P = true := by
  refine List.all_eq_true.mpr fun c hc => ?_
  have h := List.all_eq_true.mp h1 c hc
  rcases Bool.eq_false_or_eq_true (isCode c) with hi | hi
  · exact h2 c (List.mem_filter.mpr ⟨hc, hi⟩)
  · simpa [hi] using h
set_option maxRecDepth 65536 in
theorem w_c0 : (Jvm.Cond.code x code maxLocals ret).before args0 about1 = true := code_word (m := ⟨1, 1⟩) (meth := k1m1) (c := k1c1) (by decide +kernel) rfl rfl rfl (by decide +kernel)
set_option maxRecDepth 65536 in
theorem w_c1 : (Jvm.Cond.code ({ cls := "com/example/winnower/winnower/narrowing/Pair", name := "<init>", desc := "(II)V" } : Jvm.MethodName) prog_12_method_1_code (3 : Nat) (Option.none : Option Jvm.ClassFile.FieldType)).before args0 about1 = true := code_word (m := ⟨2, 0⟩) (meth := k2m0) (c := k2c0) (by decide +kernel) rfl rfl rfl (by decide +kernel)
set_option maxRecDepth 65536 in
theorem w_c2 : (Jvm.Cond.code ({ cls := "java/lang/Object", name := "<init>", desc := "()V" } : Jvm.MethodName) object_method_1_code (1 : Nat) (Option.none : Option Jvm.ClassFile.FieldType)).before args0 about1 = true := code_word (m := ⟨0, 0⟩) (meth := k0m0) (c := k0c0) (by decide +kernel) rfl rfl rfl (by decide +kernel)
set_option maxRecDepth 65536 in
theorem w_c3 : (Jvm.Cond.code ({ cls := "com/example/winnower/winnower/narrowing/Pair", name := "toString", desc := "()Ljava/lang/String;" } : Jvm.MethodName) prog_12_method_4_code (1 : Nat) (Option.some (Jvm.ClassFile.FieldType.object "java/lang/String"))).before args0 about1 = true := code_word (m := ⟨2, 1⟩) (meth := k2m1) (c := k2c1) (by decide +kernel) rfl rfl rfl (by decide +kernel)
set_option maxRecDepth 65536 in
theorem w_c4 : (Jvm.Cond.code ({ cls := "java/lang/StringBuilder", name := "<init>", desc := "()V" } : Jvm.MethodName) jdk_67_method_1_code (1 : Nat) (Option.none : Option Jvm.ClassFile.FieldType)).before args0 about1 = true := code_word (m := ⟨8, 0⟩) (meth := k8m0) (c := k8c0) (by decide +kernel) rfl rfl rfl (by decide +kernel)
set_option maxRecDepth 65536 in
theorem w_c5 : (Jvm.Cond.code ({ cls := "java/lang/AbstractStringBuilder", name := "<init>", desc := "(I)V" } : Jvm.MethodName) jdk_68_method_2_code (2 : Nat) (Option.none : Option Jvm.ClassFile.FieldType)).before args0 about1 = true := code_word (m := ⟨5, 1⟩) (meth := k5m1) (c := k5c1) (by decide +kernel) rfl rfl rfl (by decide +kernel)
set_option maxRecDepth 65536 in
theorem w_c6 : (Jvm.Cond.code ({ cls := "java/lang/StringBuilder", name := "append", desc := "(I)Ljava/lang/StringBuilder;" } : Jvm.MethodName) jdk_67_method_15_code (2 : Nat) (Option.some (Jvm.ClassFile.FieldType.object "java/lang/StringBuilder"))).before args0 about1 = true := code_word (m := ⟨8, 2⟩) (meth := k8m2) (c := k8c2) (by decide +kernel) rfl rfl rfl (by decide +kernel)
set_option maxRecDepth 65536 in
theorem w_c7 : (Jvm.Cond.code ({ cls := "java/lang/AbstractStringBuilder", name := "append", desc := "(I)Ljava/lang/AbstractStringBuilder;" } : Jvm.MethodName) jdk_68_method_32_code (4 : Nat) (Option.some (Jvm.ClassFile.FieldType.object "java/lang/AbstractStringBuilder"))).before args0 about1 = true := code_word (m := ⟨5, 6⟩) (meth := k5m6) (c := k5c6) (by decide +kernel) rfl rfl rfl (by decide +kernel)
set_option maxRecDepth 65536 in
theorem w_c8 : (Jvm.Cond.code ({ cls := "java/lang/Integer", name := "stringSize", desc := "(I)I" } : Jvm.MethodName) jdk_33_method_13_code (4 : Nat) (Option.some Jvm.ClassFile.FieldType.int)).before args0 about1 = true := code_word (m := ⟨13, 1⟩) (meth := k13m1) (c := k13c1) (by decide +kernel) rfl rfl rfl (by decide +kernel)
set_option maxRecDepth 65536 in
theorem w_c9 : (Jvm.Cond.code ({ cls := "java/lang/AbstractStringBuilder", name := "ensureCapacityInternal", desc := "(I)V" } : Jvm.MethodName) jdk_68_method_9_code (3 : Nat) (Option.none : Option Jvm.ClassFile.FieldType)).before args0 about1 = true := code_word (m := ⟨5, 3⟩) (meth := k5m3) (c := k5c3) (by decide +kernel) rfl rfl rfl (by decide +kernel)
set_option maxRecDepth 65536 in
theorem w_c10 : (Jvm.Cond.code ({ cls := "java/lang/AbstractStringBuilder", name := "isLatin1", desc := "()Z" } : Jvm.MethodName) jdk_68_method_68_code (1 : Nat) (Option.some Jvm.ClassFile.FieldType.boolean)).before args0 about1 = true := code_word (m := ⟨5, 8⟩) (meth := k5m8) (c := k5c8) (by decide +kernel) rfl rfl rfl (by decide +kernel)
set_option maxRecDepth 65536 in
theorem w_c11 : (Jvm.Cond.code ({ cls := "java/lang/Integer", name := "getChars", desc := "(II[B)I" } : Jvm.MethodName) jdk_33_method_12_code (7 : Nat) (Option.some Jvm.ClassFile.FieldType.int)).before args0 about1 = true := code_word (m := ⟨13, 0⟩) (meth := k13m0) (c := k13c0) (by decide +kernel) rfl rfl rfl (by decide +kernel)
set_option maxRecDepth 65536 in
theorem w_c12 : (Jvm.Cond.code ({ cls := "java/lang/StringBuilder", name := "append", desc := "(Ljava/lang/String;)Ljava/lang/StringBuilder;" } : Jvm.MethodName) jdk_67_method_7_code (2 : Nat) (Option.some (Jvm.ClassFile.FieldType.object "java/lang/StringBuilder"))).before args0 about1 = true := code_word (m := ⟨8, 1⟩) (meth := k8m1) (c := k8c1) (by decide +kernel) rfl rfl rfl (by decide +kernel)
set_option maxRecDepth 65536 in
theorem w_c13 : (Jvm.Cond.code ({ cls := "java/lang/AbstractStringBuilder", name := "append", desc := "(Ljava/lang/String;)Ljava/lang/AbstractStringBuilder;" } : Jvm.MethodName) jdk_68_method_22_code (3 : Nat) (Option.some (Jvm.ClassFile.FieldType.object "java/lang/AbstractStringBuilder"))).before args0 about1 = true := code_word (m := ⟨5, 5⟩) (meth := k5m5) (c := k5c5) (by decide +kernel) rfl rfl rfl (by decide +kernel)
set_option maxRecDepth 65536 in
theorem w_c14 : (Jvm.Cond.code ({ cls := "java/lang/String", name := "length", desc := "()I" } : Jvm.MethodName) jdk_42_method_54_code (1 : Nat) (Option.some Jvm.ClassFile.FieldType.int)).before args0 about1 = true := code_word (m := ⟨11, 2⟩) (meth := k11m2) (c := k11c2) (by decide +kernel) rfl rfl rfl (by decide +kernel)
set_option maxRecDepth 65536 in
theorem w_c15 : (Jvm.Cond.code ({ cls := "java/lang/String", name := "coder", desc := "()B" } : Jvm.MethodName) jdk_42_method_152_code (1 : Nat) (Option.some Jvm.ClassFile.FieldType.byte)).before args0 about1 = true := code_word (m := ⟨11, 6⟩) (meth := k11m6) (c := k11c6) (by decide +kernel) rfl rfl rfl (by decide +kernel)
set_option maxRecDepth 65536 in
theorem w_c16 : (Jvm.Cond.code ({ cls := "java/lang/AbstractStringBuilder", name := "putStringAt", desc := "(ILjava/lang/String;)V" } : Jvm.MethodName) jdk_68_method_73_code (3 : Nat) (Option.none : Option Jvm.ClassFile.FieldType)).before args0 about1 = true := code_word (m := ⟨5, 10⟩) (meth := k5m10) (c := k5c10) (by decide +kernel) rfl rfl rfl (by decide +kernel)
set_option maxRecDepth 65536 in
theorem w_c17 : (Jvm.Cond.code ({ cls := "java/lang/AbstractStringBuilder", name := "inflateIfNeededFor", desc := "(Ljava/lang/String;)V" } : Jvm.MethodName) jdk_68_method_71_code (2 : Nat) (Option.none : Option Jvm.ClassFile.FieldType)).before args0 about1 = true := code_word (m := ⟨5, 9⟩) (meth := k5m9) (c := k5c9) (by decide +kernel) rfl rfl rfl (by decide +kernel)
set_option maxRecDepth 65536 in
theorem w_c18 : (Jvm.Cond.code ({ cls := "java/lang/String", name := "getBytes", desc := "([BIB)V" } : Jvm.MethodName) jdk_42_method_147_code (4 : Nat) (Option.none : Option Jvm.ClassFile.FieldType)).before args0 about1 = true := code_word (m := ⟨11, 4⟩) (meth := k11m4) (c := k11c4) (by decide +kernel) rfl rfl rfl (by decide +kernel)
set_option maxRecDepth 65536 in
theorem w_c19 : (Jvm.Cond.code ({ cls := "java/lang/StringBuilder", name := "toString", desc := "()Ljava/lang/String;" } : Jvm.MethodName) jdk_67_method_42_code (1 : Nat) (Option.some (Jvm.ClassFile.FieldType.object "java/lang/String"))).before args0 about1 = true := code_word (m := ⟨8, 3⟩) (meth := k8m3) (c := k8c3) (by decide +kernel) rfl rfl rfl (by decide +kernel)
set_option maxRecDepth 65536 in
theorem w_c20 : (Jvm.Cond.code ({ cls := "java/lang/String", name := "<init>", desc := "(Ljava/lang/StringBuilder;)V" } : Jvm.MethodName) jdk_42_method_53_code (2 : Nat) (Option.none : Option Jvm.ClassFile.FieldType)).before args0 about1 = true := code_word (m := ⟨11, 1⟩) (meth := k11m1) (c := k11c1) (by decide +kernel) rfl rfl rfl (by decide +kernel)
set_option maxRecDepth 65536 in
theorem w_c21 : (Jvm.Cond.code ({ cls := "java/lang/String", name := "<init>", desc := "(Ljava/lang/AbstractStringBuilder;Ljava/lang/Void;)V" } : Jvm.MethodName) jdk_42_method_150_code (5 : Nat) (Option.none : Option Jvm.ClassFile.FieldType)).before args0 about1 = true := code_word (m := ⟨11, 5⟩) (meth := k11m5) (c := k11c5) (by decide +kernel) rfl rfl rfl (by decide +kernel)
set_option maxRecDepth 65536 in
theorem w_c22 : (Jvm.Cond.code ({ cls := "java/lang/AbstractStringBuilder", name := "getValue", desc := "()[B" } : Jvm.MethodName) jdk_68_method_64_code (1 : Nat) (Option.some (Jvm.ClassFile.FieldType.array Jvm.ClassFile.FieldType.byte))).before args0 about1 = true := code_word (m := ⟨5, 7⟩) (meth := k5m7) (c := k5c7) (by decide +kernel) rfl rfl rfl (by decide +kernel)
set_option maxRecDepth 65536 in
theorem w_c23 : (Jvm.Cond.code ({ cls := "java/lang/StringBuilder", name := "length", desc := "()I" } : Jvm.MethodName) jdk_67_method_93_code (1 : Nat) (Option.some Jvm.ClassFile.FieldType.int)).before args0 about1 = true := code_word (m := ⟨8, 4⟩) (meth := k8m4) (c := k8c4) (by decide +kernel) rfl rfl rfl (by decide +kernel)
set_option maxRecDepth 65536 in
theorem w_c24 : (Jvm.Cond.code ({ cls := "java/lang/AbstractStringBuilder", name := "length", desc := "()I" } : Jvm.MethodName) jdk_68_method_6_code (1 : Nat) (Option.some Jvm.ClassFile.FieldType.int)).before args0 about1 = true := code_word (m := ⟨5, 2⟩) (meth := k5m2) (c := k5c2) (by decide +kernel) rfl rfl rfl (by decide +kernel)
set_option maxRecDepth 65536 in
theorem w_c25 : (Jvm.Cond.code ({ cls := "java/util/Arrays", name := "copyOfRange", desc := "([BII)[B" } : Jvm.MethodName) jdk_65_method_132_code (3 : Nat) (Option.some (Jvm.ClassFile.FieldType.array Jvm.ClassFile.FieldType.byte))).before args0 about1 = true := code_word (m := ⟨15, 3⟩) (meth := k15m3) (c := k15c3) (by decide +kernel) rfl rfl rfl (by decide +kernel)
set_option maxRecDepth 65536 in
theorem w_c26 : (Jvm.Cond.code ({ cls := "java/util/Arrays", name := "copyOfRangeByte", desc := "([BII)[B" } : Jvm.MethodName) jdk_65_method_133_code (5 : Nat) (Option.some (Jvm.ClassFile.FieldType.array Jvm.ClassFile.FieldType.byte))).before args0 about1 = true := code_word (m := ⟨15, 4⟩) (meth := k15m4) (c := k15c4) (by decide +kernel) rfl rfl rfl (by decide +kernel)
set_option maxRecDepth 65536 in
theorem w_c27 : (Jvm.Cond.code ({ cls := "java/util/Arrays", name := "checkLength", desc := "(II)V" } : Jvm.MethodName) jdk_65_method_131_code (2 : Nat) (Option.none : Option Jvm.ClassFile.FieldType)).before args0 about1 = true := code_word (m := ⟨15, 2⟩) (meth := k15m2) (c := k15c2) (by decide +kernel) rfl rfl rfl (by decide +kernel)
set_option maxRecDepth 65536 in
theorem w_c28 : (Jvm.Cond.code ({ cls := "java/lang/Math", name := "min", desc := "(II)I" } : Jvm.MethodName) jdk_29_method_69_code (2 : Nat) (Option.some Jvm.ClassFile.FieldType.int)).before args0 about1 = true := code_word (m := ⟨16, 3⟩) (meth := k16m3) (c := k16c3) (by decide +kernel) rfl rfl rfl (by decide +kernel)
set_option maxRecDepth 65536 in
theorem w_c29 : (Jvm.Cond.code ({ cls := "com/example/winnower/winnower/narrowing/PairToStringPinLaw", name := "decLen", desc := "(I)I" } : Jvm.MethodName) method_5_code (4 : Nat) (Option.some Jvm.ClassFile.FieldType.int)).before args0 about1 = true := code_word (m := ⟨1, 4⟩) (meth := k1m4) (c := k1c4) (by decide +kernel) rfl rfl rfl (by decide +kernel)
set_option maxRecDepth 65536 in
theorem w_c30 : (Jvm.Cond.code ({ cls := "java/lang/Math", name := "abs", desc := "(J)J" } : Jvm.MethodName) jdk_29_method_61_code (2 : Nat) (Option.some Jvm.ClassFile.FieldType.long)).before args0 about1 = true := code_word (m := ⟨16, 1⟩) (meth := k16m1) (c := k16c1) (by decide +kernel) rfl rfl rfl (by decide +kernel)
set_option maxRecDepth 65536 in
theorem w_c31 : (Jvm.Cond.code ({ cls := "com/example/winnower/winnower/narrowing/PairToStringPinLaw", name := "digits", desc := "(J)I" } : Jvm.MethodName) method_6_code (2 : Nat) (Option.some Jvm.ClassFile.FieldType.int)).before args0 about1 = true := code_word (m := ⟨1, 5⟩) (meth := k1m5) (c := k1c5) (by decide +kernel) rfl rfl rfl (by decide +kernel)
set_option maxRecDepth 65536 in
theorem w_c32 : (Jvm.Cond.code ({ cls := "java/lang/String", name := "charAt", desc := "(I)C" } : Jvm.MethodName) jdk_42_method_56_code (2 : Nat) (Option.some Jvm.ClassFile.FieldType.char)).before args0 about1 = true := code_word (m := ⟨11, 3⟩) (meth := k11m3) (c := k11c3) (by decide +kernel) rfl rfl rfl (by decide +kernel)
set_option maxRecDepth 65536 in
theorem w_c33 : (Jvm.Cond.code ({ cls := "java/lang/String", name := "isLatin1", desc := "()Z" } : Jvm.MethodName) jdk_42_method_154_code (1 : Nat) (Option.some Jvm.ClassFile.FieldType.boolean)).before args0 about1 = true := code_word (m := ⟨11, 7⟩) (meth := k11m7) (c := k11c7) (by decide +kernel) rfl rfl rfl (by decide +kernel)
set_option maxRecDepth 65536 in
theorem w_c34 : (Jvm.Cond.code ({ cls := "java/lang/StringLatin1", name := "charAt", desc := "([BI)C" } : Jvm.MethodName) jdk_43_method_2_code (2 : Nat) (Option.some Jvm.ClassFile.FieldType.char)).before args0 about1 = true := code_word (m := ⟨17, 1⟩) (meth := k17m1) (c := k17c1) (by decide +kernel) rfl rfl rfl (by decide +kernel)
set_option maxRecDepth 65536 in
theorem w_c35 : (Jvm.Cond.code ({ cls := "java/lang/String", name := "checkIndex", desc := "(II)V" } : Jvm.MethodName) jdk_42_method_155_code (2 : Nat) (Option.none : Option Jvm.ClassFile.FieldType)).before args0 about1 = true := code_word (m := ⟨11, 8⟩) (meth := k11m8) (c := k11c8) (by decide +kernel) rfl rfl rfl (by decide +kernel)
set_option maxRecDepth 65536 in
theorem w_c36 : (Jvm.Cond.code ({ cls := "jdk/internal/util/Preconditions", name := "checkIndex", desc := "(IILjava/util/function/BiFunction;)I" } : Jvm.MethodName) jdk_41_method_11_code (3 : Nat) (Option.some Jvm.ClassFile.FieldType.int)).before args0 about1 = true := code_word (m := ⟨18, 1⟩) (meth := k18m1) (c := k18c1) (by decide +kernel) rfl rfl rfl (by decide +kernel)
set_option maxRecDepth 65536 in
theorem w_c37 : (Jvm.Cond.code ({ cls := "com/example/winnower/winnower/narrowing/PairToStringPinLaw", name := "expected", desc := "(IIIII)C" } : Jvm.MethodName) method_3_code (6 : Nat) (Option.some Jvm.ClassFile.FieldType.char)).before args0 about1 = true := code_word (m := ⟨1, 2⟩) (meth := k1m2) (c := k1c2) (by decide +kernel) rfl rfl rfl (by decide +kernel)
set_option maxRecDepth 65536 in
theorem w_c38 : (Jvm.Cond.code ({ cls := "com/example/winnower/winnower/narrowing/PairToStringPinLaw", name := "decChar", desc := "(III)C" } : Jvm.MethodName) method_4_code (10 : Nat) (Option.some Jvm.ClassFile.FieldType.char)).before args0 about1 = true := code_word (m := ⟨1, 3⟩) (meth := k1m3) (c := k1c3) (by decide +kernel) rfl rfl rfl (by decide +kernel)
set_option maxRecDepth 65536 in
theorem w_c39 : (Jvm.Cond.code ({ cls := "com/example/winnower/winnower/narrowing/PairToStringPinLaw", name := "pow10", desc := "(I)J" } : Jvm.MethodName) method_7_code (1 : Nat) (Option.some Jvm.ClassFile.FieldType.long)).before args0 about1 = true := code_word (m := ⟨1, 6⟩) (meth := k1m6) (c := k1c6) (by decide +kernel) rfl rfl rfl (by decide +kernel)
set_option maxRecDepth 65536 in
theorem w_c40 : (Jvm.Cond.code ({ cls := "java/lang/AbstractStringBuilder", name := "newCapacity", desc := "(I)I" } : Jvm.MethodName) jdk_68_method_10_code (6 : Nat) (Option.some Jvm.ClassFile.FieldType.int)).before args0 about1 = true := code_word (m := ⟨5, 4⟩) (meth := k5m4) (c := k5c4) (by decide +kernel) rfl rfl rfl (by decide +kernel)
set_option maxRecDepth 65536 in
theorem w_c41 : (Jvm.Cond.code ({ cls := "jdk/internal/util/ArraysSupport", name := "newLength", desc := "(III)I" } : Jvm.MethodName) jdk_48_method_27_code (4 : Nat) (Option.some Jvm.ClassFile.FieldType.int)).before args0 about1 = true := code_word (m := ⟨19, 1⟩) (meth := k19m1) (c := k19c1) (by decide +kernel) rfl rfl rfl (by decide +kernel)
set_option maxRecDepth 65536 in
theorem w_c42 : (Jvm.Cond.code ({ cls := "java/lang/Math", name := "max", desc := "(II)I" } : Jvm.MethodName) jdk_29_method_65_code (2 : Nat) (Option.some Jvm.ClassFile.FieldType.int)).before args0 about1 = true := code_word (m := ⟨16, 2⟩) (meth := k16m2) (c := k16c2) (by decide +kernel) rfl rfl rfl (by decide +kernel)
set_option maxRecDepth 65536 in
theorem w_c43 : (Jvm.Cond.code ({ cls := "java/util/Arrays", name := "copyOf", desc := "([BI)[B" } : Jvm.MethodName) jdk_65_method_121_code (3 : Nat) (Option.some (Jvm.ClassFile.FieldType.array Jvm.ClassFile.FieldType.byte))).before args0 about1 = true := code_word (m := ⟨15, 1⟩) (meth := k15m1) (c := k15c1) (by decide +kernel) rfl rfl rfl (by decide +kernel)
def codes1 : List Jvm.Cond := [Jvm.Cond.code x code maxLocals ret, Jvm.Cond.code ({ cls := "com/example/winnower/winnower/narrowing/Pair", name := "<init>", desc := "(II)V" } : Jvm.MethodName) prog_12_method_1_code (3 : Nat) (Option.none : Option Jvm.ClassFile.FieldType), Jvm.Cond.code ({ cls := "java/lang/Object", name := "<init>", desc := "()V" } : Jvm.MethodName) object_method_1_code (1 : Nat) (Option.none : Option Jvm.ClassFile.FieldType), Jvm.Cond.code ({ cls := "com/example/winnower/winnower/narrowing/Pair", name := "toString", desc := "()Ljava/lang/String;" } : Jvm.MethodName) prog_12_method_4_code (1 : Nat) (Option.some (Jvm.ClassFile.FieldType.object "java/lang/String")), Jvm.Cond.code ({ cls := "java/lang/StringBuilder", name := "<init>", desc := "()V" } : Jvm.MethodName) jdk_67_method_1_code (1 : Nat) (Option.none : Option Jvm.ClassFile.FieldType), Jvm.Cond.code ({ cls := "java/lang/AbstractStringBuilder", name := "<init>", desc := "(I)V" } : Jvm.MethodName) jdk_68_method_2_code (2 : Nat) (Option.none : Option Jvm.ClassFile.FieldType), Jvm.Cond.code ({ cls := "java/lang/StringBuilder", name := "append", desc := "(I)Ljava/lang/StringBuilder;" } : Jvm.MethodName) jdk_67_method_15_code (2 : Nat) (Option.some (Jvm.ClassFile.FieldType.object "java/lang/StringBuilder")), Jvm.Cond.code ({ cls := "java/lang/AbstractStringBuilder", name := "append", desc := "(I)Ljava/lang/AbstractStringBuilder;" } : Jvm.MethodName) jdk_68_method_32_code (4 : Nat) (Option.some (Jvm.ClassFile.FieldType.object "java/lang/AbstractStringBuilder")), Jvm.Cond.code ({ cls := "java/lang/Integer", name := "stringSize", desc := "(I)I" } : Jvm.MethodName) jdk_33_method_13_code (4 : Nat) (Option.some Jvm.ClassFile.FieldType.int), Jvm.Cond.code ({ cls := "java/lang/AbstractStringBuilder", name := "ensureCapacityInternal", desc := "(I)V" } : Jvm.MethodName) jdk_68_method_9_code (3 : Nat) (Option.none : Option Jvm.ClassFile.FieldType), Jvm.Cond.code ({ cls := "java/lang/AbstractStringBuilder", name := "isLatin1", desc := "()Z" } : Jvm.MethodName) jdk_68_method_68_code (1 : Nat) (Option.some Jvm.ClassFile.FieldType.boolean), Jvm.Cond.code ({ cls := "java/lang/Integer", name := "getChars", desc := "(II[B)I" } : Jvm.MethodName) jdk_33_method_12_code (7 : Nat) (Option.some Jvm.ClassFile.FieldType.int), Jvm.Cond.code ({ cls := "java/lang/StringBuilder", name := "append", desc := "(Ljava/lang/String;)Ljava/lang/StringBuilder;" } : Jvm.MethodName) jdk_67_method_7_code (2 : Nat) (Option.some (Jvm.ClassFile.FieldType.object "java/lang/StringBuilder")), Jvm.Cond.code ({ cls := "java/lang/AbstractStringBuilder", name := "append", desc := "(Ljava/lang/String;)Ljava/lang/AbstractStringBuilder;" } : Jvm.MethodName) jdk_68_method_22_code (3 : Nat) (Option.some (Jvm.ClassFile.FieldType.object "java/lang/AbstractStringBuilder")), Jvm.Cond.code ({ cls := "java/lang/String", name := "length", desc := "()I" } : Jvm.MethodName) jdk_42_method_54_code (1 : Nat) (Option.some Jvm.ClassFile.FieldType.int), Jvm.Cond.code ({ cls := "java/lang/String", name := "coder", desc := "()B" } : Jvm.MethodName) jdk_42_method_152_code (1 : Nat) (Option.some Jvm.ClassFile.FieldType.byte), Jvm.Cond.code ({ cls := "java/lang/AbstractStringBuilder", name := "putStringAt", desc := "(ILjava/lang/String;)V" } : Jvm.MethodName) jdk_68_method_73_code (3 : Nat) (Option.none : Option Jvm.ClassFile.FieldType), Jvm.Cond.code ({ cls := "java/lang/AbstractStringBuilder", name := "inflateIfNeededFor", desc := "(Ljava/lang/String;)V" } : Jvm.MethodName) jdk_68_method_71_code (2 : Nat) (Option.none : Option Jvm.ClassFile.FieldType), Jvm.Cond.code ({ cls := "java/lang/String", name := "getBytes", desc := "([BIB)V" } : Jvm.MethodName) jdk_42_method_147_code (4 : Nat) (Option.none : Option Jvm.ClassFile.FieldType), Jvm.Cond.code ({ cls := "java/lang/StringBuilder", name := "toString", desc := "()Ljava/lang/String;" } : Jvm.MethodName) jdk_67_method_42_code (1 : Nat) (Option.some (Jvm.ClassFile.FieldType.object "java/lang/String")), Jvm.Cond.code ({ cls := "java/lang/String", name := "<init>", desc := "(Ljava/lang/StringBuilder;)V" } : Jvm.MethodName) jdk_42_method_53_code (2 : Nat) (Option.none : Option Jvm.ClassFile.FieldType), Jvm.Cond.code ({ cls := "java/lang/String", name := "<init>", desc := "(Ljava/lang/AbstractStringBuilder;Ljava/lang/Void;)V" } : Jvm.MethodName) jdk_42_method_150_code (5 : Nat) (Option.none : Option Jvm.ClassFile.FieldType), Jvm.Cond.code ({ cls := "java/lang/AbstractStringBuilder", name := "getValue", desc := "()[B" } : Jvm.MethodName) jdk_68_method_64_code (1 : Nat) (Option.some (Jvm.ClassFile.FieldType.array Jvm.ClassFile.FieldType.byte)), Jvm.Cond.code ({ cls := "java/lang/StringBuilder", name := "length", desc := "()I" } : Jvm.MethodName) jdk_67_method_93_code (1 : Nat) (Option.some Jvm.ClassFile.FieldType.int), Jvm.Cond.code ({ cls := "java/lang/AbstractStringBuilder", name := "length", desc := "()I" } : Jvm.MethodName) jdk_68_method_6_code (1 : Nat) (Option.some Jvm.ClassFile.FieldType.int), Jvm.Cond.code ({ cls := "java/util/Arrays", name := "copyOfRange", desc := "([BII)[B" } : Jvm.MethodName) jdk_65_method_132_code (3 : Nat) (Option.some (Jvm.ClassFile.FieldType.array Jvm.ClassFile.FieldType.byte)), Jvm.Cond.code ({ cls := "java/util/Arrays", name := "copyOfRangeByte", desc := "([BII)[B" } : Jvm.MethodName) jdk_65_method_133_code (5 : Nat) (Option.some (Jvm.ClassFile.FieldType.array Jvm.ClassFile.FieldType.byte)), Jvm.Cond.code ({ cls := "java/util/Arrays", name := "checkLength", desc := "(II)V" } : Jvm.MethodName) jdk_65_method_131_code (2 : Nat) (Option.none : Option Jvm.ClassFile.FieldType), Jvm.Cond.code ({ cls := "java/lang/Math", name := "min", desc := "(II)I" } : Jvm.MethodName) jdk_29_method_69_code (2 : Nat) (Option.some Jvm.ClassFile.FieldType.int), Jvm.Cond.code ({ cls := "com/example/winnower/winnower/narrowing/PairToStringPinLaw", name := "decLen", desc := "(I)I" } : Jvm.MethodName) method_5_code (4 : Nat) (Option.some Jvm.ClassFile.FieldType.int), Jvm.Cond.code ({ cls := "java/lang/Math", name := "abs", desc := "(J)J" } : Jvm.MethodName) jdk_29_method_61_code (2 : Nat) (Option.some Jvm.ClassFile.FieldType.long), Jvm.Cond.code ({ cls := "com/example/winnower/winnower/narrowing/PairToStringPinLaw", name := "digits", desc := "(J)I" } : Jvm.MethodName) method_6_code (2 : Nat) (Option.some Jvm.ClassFile.FieldType.int), Jvm.Cond.code ({ cls := "java/lang/String", name := "charAt", desc := "(I)C" } : Jvm.MethodName) jdk_42_method_56_code (2 : Nat) (Option.some Jvm.ClassFile.FieldType.char), Jvm.Cond.code ({ cls := "java/lang/String", name := "isLatin1", desc := "()Z" } : Jvm.MethodName) jdk_42_method_154_code (1 : Nat) (Option.some Jvm.ClassFile.FieldType.boolean), Jvm.Cond.code ({ cls := "java/lang/StringLatin1", name := "charAt", desc := "([BI)C" } : Jvm.MethodName) jdk_43_method_2_code (2 : Nat) (Option.some Jvm.ClassFile.FieldType.char), Jvm.Cond.code ({ cls := "java/lang/String", name := "checkIndex", desc := "(II)V" } : Jvm.MethodName) jdk_42_method_155_code (2 : Nat) (Option.none : Option Jvm.ClassFile.FieldType), Jvm.Cond.code ({ cls := "jdk/internal/util/Preconditions", name := "checkIndex", desc := "(IILjava/util/function/BiFunction;)I" } : Jvm.MethodName) jdk_41_method_11_code (3 : Nat) (Option.some Jvm.ClassFile.FieldType.int), Jvm.Cond.code ({ cls := "com/example/winnower/winnower/narrowing/PairToStringPinLaw", name := "expected", desc := "(IIIII)C" } : Jvm.MethodName) method_3_code (6 : Nat) (Option.some Jvm.ClassFile.FieldType.char), Jvm.Cond.code ({ cls := "com/example/winnower/winnower/narrowing/PairToStringPinLaw", name := "decChar", desc := "(III)C" } : Jvm.MethodName) method_4_code (10 : Nat) (Option.some Jvm.ClassFile.FieldType.char), Jvm.Cond.code ({ cls := "com/example/winnower/winnower/narrowing/PairToStringPinLaw", name := "pow10", desc := "(I)J" } : Jvm.MethodName) method_7_code (1 : Nat) (Option.some Jvm.ClassFile.FieldType.long), Jvm.Cond.code ({ cls := "java/lang/AbstractStringBuilder", name := "newCapacity", desc := "(I)I" } : Jvm.MethodName) jdk_68_method_10_code (6 : Nat) (Option.some Jvm.ClassFile.FieldType.int), Jvm.Cond.code ({ cls := "jdk/internal/util/ArraysSupport", name := "newLength", desc := "(III)I" } : Jvm.MethodName) jdk_48_method_27_code (4 : Nat) (Option.some Jvm.ClassFile.FieldType.int), Jvm.Cond.code ({ cls := "java/lang/Math", name := "max", desc := "(II)I" } : Jvm.MethodName) jdk_29_method_65_code (2 : Nat) (Option.some Jvm.ClassFile.FieldType.int), Jvm.Cond.code ({ cls := "java/util/Arrays", name := "copyOf", desc := "([BI)[B" } : Jvm.MethodName) jdk_65_method_121_code (3 : Nat) (Option.some (Jvm.ClassFile.FieldType.array Jvm.ClassFile.FieldType.byte))]
set_option maxRecDepth 65536 in
theorem codes_eq : words1.filter isCode = codes1 := rfl
theorem w_codes : ∀ c ∈ words1.filter isCode, c.before args0 about1 = true := by
  rw [codes_eq]
  intro c hc
  simp only [codes1, List.mem_cons, List.not_mem_nil, or_false] at hc
  rcases hc with rfl | rfl | rfl | rfl | rfl | rfl | rfl | rfl | rfl | rfl | rfl | rfl | rfl | rfl | rfl | rfl | rfl | rfl | rfl | rfl | rfl | rfl | rfl | rfl | rfl | rfl | rfl | rfl | rfl | rfl | rfl | rfl | rfl | rfl | rfl | rfl | rfl | rfl | rfl | rfl | rfl | rfl | rfl | rfl
  · exact w_c0
  · exact w_c1
  · exact w_c2
  · exact w_c3
  · exact w_c4
  · exact w_c5
  · exact w_c6
  · exact w_c7
  · exact w_c8
  · exact w_c9
  · exact w_c10
  · exact w_c11
  · exact w_c12
  · exact w_c13
  · exact w_c14
  · exact w_c15
  · exact w_c16
  · exact w_c17
  · exact w_c18
  · exact w_c19
  · exact w_c20
  · exact w_c21
  · exact w_c22
  · exact w_c23
  · exact w_c24
  · exact w_c25
  · exact w_c26
  · exact w_c27
  · exact w_c28
  · exact w_c29
  · exact w_c30
  · exact w_c31
  · exact w_c32
  · exact w_c33
  · exact w_c34
  · exact w_c35
  · exact w_c36
  · exact w_c37
  · exact w_c38
  · exact w_c39
  · exact w_c40
  · exact w_c41
  · exact w_c42
  · exact w_c43
set_option maxRecDepth 65536 in
theorem w_t1 : (words1.take 24).all (fun c => isCode c || c.before args0 about1) = true := by decide +kernel
set_option maxRecDepth 65536 in
theorem w_t2 : ((words1.drop 24).take 24).all (fun c => isCode c || c.before args0 about1) = true := by decide +kernel
set_option maxRecDepth 65536 in
theorem w_t3 : (((words1.drop 24).drop 24).take 24).all (fun c => isCode c || c.before args0 about1) = true := by decide +kernel
set_option maxRecDepth 65536 in
theorem w_t4 : ((((words1.drop 24).drop 24).drop 24).take 24).all (fun c => isCode c || c.before args0 about1) = true := by decide +kernel
set_option maxRecDepth 65536 in
theorem w_t5 : (((((words1.drop 24).drop 24).drop 24).drop 24).take 24).all (fun c => isCode c || c.before args0 about1) = true := by decide +kernel
set_option maxRecDepth 65536 in
theorem w_t6 : ((((((words1.drop 24).drop 24).drop 24).drop 24).drop 24).take 24).all (fun c => isCode c || c.before args0 about1) = true := by decide +kernel
set_option maxRecDepth 65536 in
theorem w_t7 : (((((((words1.drop 24).drop 24).drop 24).drop 24).drop 24).drop 24).take 24).all (fun c => isCode c || c.before args0 about1) = true := by decide +kernel
set_option maxRecDepth 65536 in
theorem w_t8 : ((((((((words1.drop 24).drop 24).drop 24).drop 24).drop 24).drop 24).drop 24).take 24).all (fun c => isCode c || c.before args0 about1) = true := by decide +kernel
set_option maxRecDepth 65536 in
theorem w_t9 : (((((((((words1.drop 24).drop 24).drop 24).drop 24).drop 24).drop 24).drop 24).drop 24).take 24).all (fun c => isCode c || c.before args0 about1) = true := by decide +kernel
set_option maxRecDepth 65536 in
theorem w_t10 : (((((((((words1.drop 24).drop 24).drop 24).drop 24).drop 24).drop 24).drop 24).drop 24).drop 24).all (fun c => isCode c || c.before args0 about1) = true := by decide +kernel
theorem w_tables : (allAtoms (Jvm.Cond.code x code maxLocals ret :: tables_1)).before args0 about1 = true := by
  rw [allAtoms_all]
  show words1.all (fun c => c.before args0 about1) = true
  refine all_split ?_ w_codes
  rw [← List.take_append_drop 24 words1, List.all_append, w_t1, ← List.take_append_drop 24 (words1.drop 24), List.all_append, w_t2, ← List.take_append_drop 24 ((words1.drop 24).drop 24), List.all_append, w_t3, ← List.take_append_drop 24 (((words1.drop 24).drop 24).drop 24), List.all_append, w_t4, ← List.take_append_drop 24 ((((words1.drop 24).drop 24).drop 24).drop 24), List.all_append, w_t5, ← List.take_append_drop 24 (((((words1.drop 24).drop 24).drop 24).drop 24).drop 24), List.all_append, w_t6, ← List.take_append_drop 24 ((((((words1.drop 24).drop 24).drop 24).drop 24).drop 24).drop 24), List.all_append, w_t7, ← List.take_append_drop 24 (((((((words1.drop 24).drop 24).drop 24).drop 24).drop 24).drop 24).drop 24), List.all_append, w_t8, ← List.take_append_drop 24 ((((((((words1.drop 24).drop 24).drop 24).drop 24).drop 24).drop 24).drop 24).drop 24), List.all_append, w_t9, w_t10]
  rfl
set_option maxRecDepth 65536 in
theorem w_rest : rest_1_c.before args0 about1 = true := by decide +kernel
set_option maxRecDepth 65536 in
theorem w_case : (Jvm.Cond.and given_1 narrow_1).before args0 about1 = true := by decide +kernel
set_option maxRecDepth 65536 in
theorem w_consts : constsHeld consts_1 about1 := Jvm.Lit.constsHeldB_iff.mp (by decide +kernel)
theorem w_applies : (headSpec (Jvm.Cond.code x code maxLocals ret :: tables_1) room_1).applies x e0.platform about1 = true :=
  (Spec.applies_iff w_frames).mpr ⟨w_running, w_runnable, w_alone, w_named, w_hears, w_ripe, w_room, w_tables⟩
theorem atStart : AtStart classFile x code maxLocals ret World_1 tables_1 room_1 Calls_1 rest_1 Pre_1 launch0 p0 e0 about1 theMethod args0 below0 :=
  ⟨lists_1, trivial, launch0.admits_env _ _ _, launch0.least_env, fairChoices_fair.cas, fairChoices_fair.clock, w_frames, w_args, w_heap, w_applies, ⟨w_consts, trivial⟩, w_rest, w_case⟩
end start1
theorem witness_1 : WitnessClaimed_1 := ⟨start1.p0, start1.e0, start1.about1, start1.theMethod, start1.args0, start1.below0, start1.atStart⟩
end Jvm.Pilot.@@N@@
