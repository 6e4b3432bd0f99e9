import JvmDerived
import JvmDerived.Pilot.@@N@@Statement
import JvmDerived.Pilot.@@N@@Code
set_option linter.unusedVariables false
set_option linter.unusedSimpArgs false
namespace Jvm.RoadKit
open Sem ClassFile Op Lib Jvm.Stand Jvm.Free Jvm.LawKit
section Own
variable {p : Program} {l : Launch} {e : Env} {R : Room} {s s' : State} {m : MethodId} {args : Array Value} {below : List Frame} {meth : Method} {c : Code} {T : State} {locs : List Loc} {cells slots : Nat} {Z : State} {a0 : Array Value} {h : Heap} {K : Outcome → State → Prop} {Q : Option Value → Heap → List Loc → Prop}
/-- from the state A the run comes to an end that K allows -/
def OwnOk (p : Program) (e : Env) (below : List Frame) (K : Outcome → State → Prop) (A : State) : Prop :=
  ∃ s₂ o, Steps p.tables e below A s₂ ∧ s₂.status = .running ∧ Ended s₂ below o ∧ K o s₂
theorem own_up {A B : State} (h : ∀ t, Steps p.tables e below B t → Steps p.tables e below A t) (k : OwnOk p e below K B) : OwnOk p e below K A := by
  obtain ⟨s₂, o, h1, h2⟩ := k
  exact ⟨s₂, o, h _ h1, h2⟩
theorem own_to {A B : State} (h : Steps p.tables e below A B) (k : OwnOk p e below K B) : OwnOk p e below K A := own_up (fun _ q => h.trans q) k
theorem own_rem64 (x y : Int64) : x - (x / y) * y = x % y := by
  apply Int64.toInt_inj.mp
  have h1 := Int64.le_toInt (x % y)
  have h2 := Int64.toInt_lt (x % y)
  rw [Int64.toInt_sub, Int64.toInt_mul, Int64.toInt_div, Int.bmod_mul_bmod, Int.sub_bmod_bmod, Int.mul_comm (x.toInt.tdiv y.toInt), ← Int.tmod_def, ← Int64.toInt_mod]
  exact Int.bmod_eq_of_le_mul_two (by omega) (by omega)
theorem own_ldiv {g : JFrame} {target : State} (X : Stand p l e R s m args below meth c T locs cells slots) (hx : p.tables.exec = Jvm.exec) (hg : g.method = m) {x y : Int64} {rest : List Value} (hd : decode c.code g.pc = .ok (.ldiv, 1)) (hs : g.stack = .long y :: .long x :: rest) (hy : y ≠ 0)
    (hr : Steps p.tables e below (T.setTop { g with pc := g.pc + 1, stack := .long (x / y) :: rest }) target) : Steps p.tables e below (T.setTop g) target := by
  have h := X.here
  subst hg
  jvm_step h [h.top, hx, hd, hs, hy, ldiv.wp_sem]
  exact hr
theorem own_lrem {g : JFrame} {target : State} (X : Stand p l e R s m args below meth c T locs cells slots) (hx : p.tables.exec = Jvm.exec) (hg : g.method = m) {x y : Int64} {rest : List Value} (hd : decode c.code g.pc = .ok (.lrem, 1)) (hs : g.stack = .long y :: .long x :: rest) (hy : y ≠ 0)
    (hr : Steps p.tables e below (T.setTop { g with pc := g.pc + 1, stack := .long (x % y) :: rest }) target) : Steps p.tables e below (T.setTop g) target := by
  have h := X.here
  rw [← own_rem64] at hr
  subst hg
  jvm_step h [h.top, hx, hd, hs, hy, lrem.wp_sem]
  exact hr
theorem own_ar {h1 h2 : Heap} {b : Addr} {cl : Cell} (q : h1 = h2) (r : h2[b]? = some cl) : h1[b]? = some cl := by rw [q]; exact r
theorem own_n0 {n0 : Nat} (X : Old Z n0 h) : n0 ≤ h.size := X.1 ▸ X.2.1
theorem own_ref_eq {a b : Addr} (q : a = b) : Value.ref a = Value.ref b := congrArg Value.ref q
theorem own_ref_ne {a b : Addr} (q : ¬ a = b) : ¬ Value.ref a = Value.ref b := fun r => q (Value.ref.inj r)
theorem own_jtlt {x y : Int64} (h : x < y) : ifCond.holds .lt (lcmpW x y) = true ∧ ifCond.holds .ge (lcmpW x y) = false ∧ ifCond.holds .gt (lcmpW y x) = true ∧ ifCond.holds .le (lcmpW y x) = false := by
  have q1 : lcmpW x y < 0 := by rw [lcW]; exact (lc_lt x y).mpr h
  have q2 : (0 : Int32) < lcmpW y x := by rw [lcW]; exact (lc_gt y x).mpr h
  exact ⟨(if0 _ _).trans (tlt q1).1, (if0 _ _).trans (tlt q1).2.1, (if0 _ _).trans (tlt q2).2.2.1, (if0 _ _).trans (tlt q2).2.2.2⟩
theorem own_jflt {x y : Int64} (h : ¬ x < y) : ifCond.holds .lt (lcmpW x y) = false ∧ ifCond.holds .ge (lcmpW x y) = true ∧ ifCond.holds .gt (lcmpW y x) = false ∧ ifCond.holds .le (lcmpW y x) = true := by
  have q1 : ¬ lcmpW x y < 0 := by rw [lcW]; exact fun q => h ((lc_lt x y).mp q)
  have q2 : ¬ (0 : Int32) < lcmpW y x := by rw [lcW]; exact fun q => h ((lc_gt y x).mp q)
  exact ⟨(if0 _ _).trans (flt q1).1, (if0 _ _).trans (flt q1).2.1, (if0 _ _).trans (flt q2).2.2.1, (if0 _ _).trans (flt q2).2.2.2⟩
theorem own_jteq {x y : Int64} (h : x = y) : ifCond.holds .eq (lcmpW x y) = true ∧ ifCond.holds .ne (lcmpW x y) = false := by
  have q1 : lcmpW x y = 0 := by rw [lcW]; exact (lc_eq x y).mpr h
  exact ⟨(if0 _ _).trans (teq q1).1, (if0 _ _).trans (teq q1).2⟩
theorem own_jfeq {x y : Int64} (h : ¬ x = y) : ifCond.holds .eq (lcmpW x y) = false ∧ ifCond.holds .ne (lcmpW x y) = true := by
  have q1 : ¬ lcmpW x y = 0 := by rw [lcW]; exact fun q => h ((lc_eq x y).mp q)
  exact ⟨(if0 _ _).trans (feq q1).1, (if0 _ _).trans (feq q1).2⟩
theorem own_fldEq {t : Term} {a : Addr} {C n d : String} {z : Int32} (ev : t.eval args Z none [] Z = some (.ref a)) (q : (Cond.eq (.field t C n d) (.int z)).value args Z none Z [] = some true) : Fld Z Z.heap a C n d (.int z) := by
  obtain ⟨x, y, h1, h2, h3, h4⟩ := cmp_v (Or.inl q)
  have e2 : y = .int z := by simpa [Term.eval] using h2.symm
  subst e2
  obtain ⟨w, rfl⟩ := h4
  have hw : w = z := by
    have q' := q
    rw [Cond.eq_ints h1 h2] at q'
    exact of_decide_eq_true (Option.some.inj q')
  subst hw
  rw [fld_at ev] at h1
  exact Fld.start h1
/-- the end of a body that interns nothing -/
def own_K (s : State) (Q : Option Value → Heap → List Loc → Prop) (k n : Nat) (o : Outcome) (u : State) : Prop := ∃ v L, o = .returned v ∧ Q v u.heap L ∧ FrameEnd s o u L k n
/-- a body's contract -/
def own_Met (l : Launch) (Z : State) (y : MethodName) (bytes : ByteArray) (maxL : Nat) (ret : Option FieldType) (rm : Room) (as' : Array Value) (h0 : Heap) (Q : Option Value → Heap → List Loc → Prop) : Prop :=
  ∀ ws, MetFree l y (head1 (Cond.code y bytes maxL ret :: ws) rm) (fun a U => a = as' ∧ Z.Warmed39 U.vm ∧ U.heap = h0) (fun _ _ _ _ _ => True) (fun _ U o U' => own_K U Q rm.cells rm.slots o U')
theorem own_body {y : MethodName} {bytes : ByteArray} {maxL : Nat} {ret : Option FieldType} {rm : Room} {as' : Array Value} {L0 : Array Slot}
    (hpl : plainFor y = true) (ef : ∀ m, entryFrame m as' maxL = mkF m 0 L0 [])
    (body : ∀ (p : Program) (e : Env) (s : State) (m : MethodId) (below : List Frame) (meth : Method) (c : Code) (s₁ : State), p.tables.exec = Jvm.exec → c.code = bytes → c.maxLocals = maxL → Z.Warmed39 s.vm → s.vm.findClass y.cls = some m.cls → meth.name = y.name → meth.sig.returnType = ret → meth.locks = false →
      Stand p l e rm s m as' below meth c s₁ [] 0 0 → s₁.heap = h → OwnOk p e below (own_K s Q rm.cells rm.slots) (s₁.setTop (mkF m 0 L0 []))) :
    own_Met l Z y bytes maxL ret rm as' h Q := by
  intro ws
  refine MetFree.of_bodySF hpl hisR ?_
  intro p e s m args below meth c s₁ Bd hml0 hP hK
  obtain ⟨rfl, hZ, hh⟩ := hP
  have q := body p e s m below meth c s₁ Bd.exec Bd.bytes hml0 hZ (findClass_of_methodNamed Bd.named) (name_of_methodNamed Bd.named Bd.method).1 Bd.returns Bd.notSynchronized (Stand.of_body Bd) (by rw [← hh, Bd.state]; rfl)
  rw [← ef] at q
  exact q
theorem own_ret (X : Stand p l e R s m args below meth c T locs cells slots) {F : JFrame} {v : Option Value} (hv : meth.sig.returnType = none → v = none) (hlk : meth.locks = false)
    (st : ∀ fs, (∀ (f : JFrame) (acts : List Action), f.method = m → f.locked = none → f.entered = [] → (doReturn e (T.setTop f) acts v).1 = T.setFrames fs) → Steps p.tables e below (T.setTop F) (T.setFrames fs))
    (eT : T.heap = h) (hQ : Q v h locs) {k n : Nat} (hk : cells ≤ k) (hn : slots ≤ n) : OwnOk p e below (own_K s Q k n) (T.setTop F) := by
  obtain ⟨fs, hr, hrun, hended, hW, hsame⟩ := X.leave hv hlk
  refine ⟨_, _, st fs hr, hrun, hended, v, locs, rfl, ?_, ⟨_, rfl⟩, hW, hsame.mono hk hn⟩
  show Q v T.heap locs
  rw [eT]; exact hQ
theorem own_retN (X : Stand p l e R s m args below meth c T locs cells slots) (hx : p.tables.exec = Jvm.exec) {t : FieldType} (hret : meth.sig.returnType = some t) (ht : t = .boolean ∨ t = .byte ∨ t = .char ∨ t = .short) (hlk : meth.locks = false)
    {pc : Nat} {Ls : Array Slot} {z z' : Int32} {rest : List Value} (hd : decode c.code pc = .ok (.ireturn, 1)) (hz : nar t z = z') (eT : T.heap = h) {k n : Nat} (hk : cells ≤ k) (hn : slots ≤ n) (hQ : Q (some (.int z')) h locs) :
    OwnOk p e below (own_K s Q k n) (T.setTop (mkF m pc Ls (.int z :: rest))) := by
  subst hz
  exact own_ret X (fun q => by rw [hret] at q; cases q) hlk (fun fs hr => retN X hx hret ht hd hr) eT hQ hk hn
theorem own_retI (X : Stand p l e R s m args below meth c T locs cells slots) (hx : p.tables.exec = Jvm.exec) (hret : meth.sig.returnType = some .int) (hlk : meth.locks = false)
    {pc : Nat} {Ls : Array Slot} {z : Int32} {rest : List Value} (hd : decode c.code pc = .ok (.ireturn, 1)) (eT : T.heap = h) {k n : Nat} (hk : cells ≤ k) (hn : slots ≤ n) (hQ : Q (some (.int z)) h locs) :
    OwnOk p e below (own_K s Q k n) (T.setTop (mkF m pc Ls (.int z :: rest))) :=
  own_ret X (fun q => by rw [hret] at q; cases q) hlk (fun fs hr => retOut X hx hret rfl (Or.inl ⟨rfl, Or.inl rfl, z, rfl⟩) hd hr) eT hQ hk hn
theorem own_retJ (X : Stand p l e R s m args below meth c T locs cells slots) (hx : p.tables.exec = Jvm.exec) (hret : meth.sig.returnType = some .long) (hlk : meth.locks = false)
    {pc : Nat} {Ls : Array Slot} {z : Int64} {rest : List Value} (hd : decode c.code pc = .ok (.lreturn, 1)) (eT : T.heap = h) {k n : Nat} (hk : cells ≤ k) (hn : slots ≤ n) (hQ : Q (some (.long z)) h locs) :
    OwnOk p e below (own_K s Q k n) (T.setTop (mkF m pc Ls (.long z :: rest))) :=
  own_ret X (fun q => by rw [hret] at q; cases q) hlk (fun fs hr => retOut X hx hret rfl (Or.inr (Or.inl ⟨rfl, rfl, z, rfl⟩)) hd hr) eT hQ hk hn
theorem own_retR (X : Stand p l e R s m args below meth c T locs cells slots) (hx : p.tables.exec = Jvm.exec) {t : FieldType} (hret : meth.sig.returnType = some t) (ht : t.isReference = true) (hlk : meth.locks = false)
    {pc : Nat} {Ls : Array Slot} {w : Value} {rest : List Value} (hw : w.isRef = true) (hd : decode c.code pc = .ok (.areturn, 1)) (eT : T.heap = h) {k n : Nat} (hk : cells ≤ k) (hn : slots ≤ n) (hQ : Q (some w) h locs) :
    OwnOk p e below (own_K s Q k n) (T.setTop (mkF m pc Ls (w :: rest))) :=
  own_ret X (fun q => by rw [hret] at q; cases q) hlk (fun fs hr => retOut X hx hret (by rcases ref_cases hw with rfl | ⟨a, rfl⟩ <;> cases t <;> rfl) (Or.inr (Or.inr (Or.inr (Or.inr ⟨rfl, ht, hw⟩)))) hd hr) eT hQ hk hn
theorem own_retV (X : Stand p l e R s m args below meth c T locs cells slots) (hx : p.tables.exec = Jvm.exec) (hret : meth.sig.returnType = none) (hlk : meth.locks = false)
    {pc : Nat} {Ls : Array Slot} (hd : decode c.code pc = .ok (.return_, 1)) (eT : T.heap = h) {k n : Nat} (hk : cells ≤ k) (hn : slots ≤ n) (hQ : Q none h locs) :
    OwnOk p e below (own_K s Q k n) (T.setTop (mkF m pc Ls [])) :=
  own_ret X (fun _ => rfl) hlk (fun fs hr => X.returnOut hx hret hd hr) eT hQ hk hn
/-- who pays a call: Back, in the form that backOf and the pasted String laws have -/
def own_Bk (l : Launch) (R : Room) (p : Program) (e : Env) (below : List Frame) (s : State) (args : Array Value) (y : MethodName) (len W : Nat) (as' : Array Value) (h : Heap) (kc ks : Nat) (Q : Option Value → Heap → List Loc → Prop) : Prop :=
  Back l R p e below s args y len W (fun A a => a = as' ∧ A.U.heap = h ∧ A.cells + kc ≤ R.cells ∧ A.slots + ks ≤ R.slots) (fun A _ v B => ∃ L, Q v B.U.heap L ∧ B.locs = A.locs ++ L ∧ B.cells = A.cells + kc ∧ B.slots = A.slots + ks)
theorem own_bk {y : MethodName} {bytes : ByteArray} {maxL : Nat} {ret : Option FieldType} {rm : Room} {len W : Nat} {as' : Array Value} (hM : own_Met l Z y bytes maxL ret rm as' h Q) (hZ : Z.Warmed39 s.vm) (w4 : (Cond.code y bytes maxL ret).before a0 Z = true) (w3 : (Cond.initialized y.cls).before a0 Z = true) (hf : rm.frames + 1 ≤ R.frames) (hl : W + (maxL + 11) + rm.locals ≤ R.locals) :
    own_Bk l R p e below s args y len W as' h rm.cells rm.slots Q := backOf (W := W) (hM []) hZ w4 w3 hf hl
/-- a static call -/
theorem own_callSB (X : Stand p l e R s m args below meth c T locs cells slots) (hx : p.tables.exec = Jvm.exec) (hZ : Z.Warmed39 s.vm) {own : String} {index : Nat} {y : MethodName} {bytes : ByteArray} {maxL : Nat} {ret : Option FieldType}
    (hown : s.vm.findClass own = some m.cls) (w1 : (Cond.methodLink own index y).before a0 Z = true) (w2 : (Cond.static y).before a0 Z = true) (w3 : (Cond.initialized y.cls).before a0 Z = true) (w4 : (Cond.code y bytes maxL ret).before a0 Z = true)
    (hy : y.cls ≠ "java/lang/invoke/MethodHandle" ∧ y.cls ≠ "java/lang/invoke/VarHandle") {W kc ks : Nat} {as' : Array Value} {Q' : Option Value → Heap → List Loc → Prop} (hB : own_Bk l R p e below s args y 3 W as' h kc ks Q') (eT : T.heap = h)
    {pc : Nat} {ls : Array Slot} {st argsL rest : List Value} (hsize : ls.size = c.maxLocals) (hlen : ∀ sig, parseMethodDescriptor y.desc = some sig → argsL.length = sig.parameters.length) (has : argsL.toArray = as') (hst : st = argsL.reverse ++ rest)
    (hW : (rest.map fun v => v.category).sum = W) (hd : decode c.code pc = .ok (.invokestatic index, 3)) (hc : cells + kc ≤ R.cells) (hs : slots + ks ≤ R.slots)
    (k : ∀ (T' : State) (v : Option Value) (L : List Loc), Stand p l e R s m args below meth c T' (locs ++ L) (cells + kc) (slots + ks) → Q' v T'.heap L → OwnOk p e below K (T'.setTop (mkF m (pc + 3) ls (v.toList ++ rest)))) :
    OwnOk p e below K (T.setTop (mkF m pc ls st)) := by
  obtain ⟨v, _, ⟨T2, L2, k2, n2⟩, -, X2, ⟨Lc, hQ, l2, y2, z2⟩, st2⟩ := Jvm.LawKit.callS X hx hown (mvT hZ w1) (mvT hZ w2) (mvT hZ w3) (mvT hZ w4) hy hB
    (g := mkF m pc ls st) rfl hsize (argsL := argsL) (rest := rest) hlen hst (by show 2 * 0 + _ ≤ _; rw [hW]; omega) hd (fun _ _ => ⟨has, eT, hc, hs⟩)
  dsimp only [Pt.U, Pt.locs, Pt.cells, Pt.slots] at X2 l2 y2 z2 st2 hQ
  subst l2 y2 z2
  exact own_up st2 (k _ _ _ X2 hQ)
theorem own_callS (X : Stand p l e R s m args below meth c T locs cells slots) (hx : p.tables.exec = Jvm.exec) (hZ : Z.Warmed39 s.vm) {own : String} {index : Nat} {y : MethodName} {bytes : ByteArray} {maxL : Nat} {ret : Option FieldType}
    (hown : s.vm.findClass own = some m.cls) (w1 : (Cond.methodLink own index y).before a0 Z = true) (w2 : (Cond.static y).before a0 Z = true) (w3 : (Cond.initialized y.cls).before a0 Z = true) (w4 : (Cond.code y bytes maxL ret).before a0 Z = true)
    (hy : y.cls ≠ "java/lang/invoke/MethodHandle" ∧ y.cls ≠ "java/lang/invoke/VarHandle") {rm : Room} {as' : Array Value} {Q' : Option Value → Heap → List Loc → Prop} (hM : own_Met l Z y bytes maxL ret rm as' h Q') (eT : T.heap = h)
    {pc W : Nat} {ls : Array Slot} {st argsL rest : List Value} (hsize : ls.size = c.maxLocals) (hlen : ∀ sig, parseMethodDescriptor y.desc = some sig → argsL.length = sig.parameters.length) (has : argsL.toArray = as') (hst : st = argsL.reverse ++ rest)
    (hW : (rest.map fun v => v.category).sum = W) (hd : decode c.code pc = .ok (.invokestatic index, 3)) (hf : rm.frames + 1 ≤ R.frames) (hl : W + (maxL + 11) + rm.locals ≤ R.locals) (hc : cells + rm.cells ≤ R.cells) (hs : slots + rm.slots ≤ R.slots)
    (k : ∀ (T' : State) (v : Option Value) (L : List Loc), Stand p l e R s m args below meth c T' (locs ++ L) (cells + rm.cells) (slots + rm.slots) → Q' v T'.heap L → OwnOk p e below K (T'.setTop (mkF m (pc + 3) ls (v.toList ++ rest)))) :
    OwnOk p e below K (T.setTop (mkF m pc ls st)) := own_callSB X hx hZ hown w1 w2 w3 w4 hy (own_bk hM hZ w4 w3 hf hl) eT hsize hlen has hst hW hd hc hs k
/-- a constructor -/
theorem own_callCB (X : Stand p l e R s m args below meth c T locs cells slots) (hx : p.tables.exec = Jvm.exec) (hZ : Z.Warmed39 s.vm) {own : String} {index : Nat} {y : MethodName} {bytes : ByteArray} {maxL : Nat} (hy1 : y.name = "<init>")
    (hown : s.vm.findClass own = some m.cls) (w1 : (Cond.methodLink own index y).before a0 Z = true) (w2 : (Cond.instanceMethod y).before a0 Z = true) (w4 : (Cond.code y bytes maxL none).before a0 Z = true)
    (hy : y.cls ≠ "java/lang/invoke/MethodHandle" ∧ y.cls ≠ "java/lang/invoke/VarHandle") {W kc ks : Nat} {as' : Array Value} {Q' : Option Value → Heap → List Loc → Prop} (hB : own_Bk l R p e below s args y 3 W as' h kc ks Q') (eT : T.heap = h)
    {pc : Nat} {ls : Array Slot} {a : Addr} {st argsL rest : List Value} (hsize : ls.size = c.maxLocals) (hlen : ∀ sig, parseMethodDescriptor y.desc = some sig → argsL.length = sig.parameters.length) (has : (Value.ref a :: argsL).toArray = as') (hst : st = argsL.reverse ++ .ref a :: rest)
    (hW : (rest.map fun v => v.category).sum = W) (hd : decode c.code pc = .ok (.invokespecial index, 3)) (hc : cells + kc ≤ R.cells) (hs : slots + ks ≤ R.slots)
    (k : ∀ (T' : State) (v : Option Value) (L : List Loc), Stand p l e R s m args below meth c T' (locs ++ L) (cells + kc) (slots + ks) → Q' v T'.heap L → OwnOk p e below K (T'.setTop (mkF m (pc + 3) ls (v.toList ++ rest)))) :
    OwnOk p e below K (T.setTop (mkF m pc ls st)) := by
  obtain ⟨v, _, ⟨T2, L2, k2, n2⟩, -, X2, ⟨Lc, hQ, l2, y2, z2⟩, st2⟩ := X.specialBack hx hy1 hown (mvT hZ w1) (mvT hZ w2) (mvT hZ w4) hy hB
    (g := mkF m pc ls st) rfl hsize (Steps.refl _) (a := a) (argsL := argsL) (rest := rest) hlen hst (by show 2 * 0 + _ ≤ _; rw [hW]; omega) hd (fun _ _ => ⟨has, eT, hc, hs⟩)
  dsimp only [Pt.U, Pt.locs, Pt.cells, Pt.slots] at X2 l2 y2 z2 st2 hQ
  subst l2 y2 z2
  exact own_to st2 (k _ _ _ X2 hQ)
theorem own_callC (X : Stand p l e R s m args below meth c T locs cells slots) (hx : p.tables.exec = Jvm.exec) (hZ : Z.Warmed39 s.vm) {own : String} {index : Nat} {y : MethodName} {bytes : ByteArray} {maxL : Nat} (hy1 : y.name = "<init>")
    (hown : s.vm.findClass own = some m.cls) (w1 : (Cond.methodLink own index y).before a0 Z = true) (w2 : (Cond.instanceMethod y).before a0 Z = true) (w3 : (Cond.initialized y.cls).before a0 Z = true) (w4 : (Cond.code y bytes maxL none).before a0 Z = true)
    (hy : y.cls ≠ "java/lang/invoke/MethodHandle" ∧ y.cls ≠ "java/lang/invoke/VarHandle") {rm : Room} {as' : Array Value} {Q' : Option Value → Heap → List Loc → Prop} (hM : own_Met l Z y bytes maxL none rm as' h Q') (eT : T.heap = h)
    {pc W : Nat} {ls : Array Slot} {a : Addr} {st argsL rest : List Value} (hsize : ls.size = c.maxLocals) (hlen : ∀ sig, parseMethodDescriptor y.desc = some sig → argsL.length = sig.parameters.length) (has : (Value.ref a :: argsL).toArray = as') (hst : st = argsL.reverse ++ .ref a :: rest)
    (hW : (rest.map fun v => v.category).sum = W) (hd : decode c.code pc = .ok (.invokespecial index, 3)) (hf : rm.frames + 1 ≤ R.frames) (hl : W + (maxL + 11) + rm.locals ≤ R.locals) (hc : cells + rm.cells ≤ R.cells) (hs : slots + rm.slots ≤ R.slots)
    (k : ∀ (T' : State) (v : Option Value) (L : List Loc), Stand p l e R s m args below meth c T' (locs ++ L) (cells + rm.cells) (slots + rm.slots) → Q' v T'.heap L → OwnOk p e below K (T'.setTop (mkF m (pc + 3) ls (v.toList ++ rest)))) :
    OwnOk p e below K (T.setTop (mkF m pc ls st)) := own_callCB X hx hZ hy1 hown w1 w2 w4 hy (own_bk hM hZ w4 w3 hf hl) eT hsize hlen has hst hW hd hc hs k
/-- an instance method: the body that the receiver's class selects -/
theorem own_callVB (X : Stand p l e R s m args below meth c T locs cells slots) (hx : p.tables.exec = Jvm.exec) (hZ : Z.Warmed39 s.vm) {own C : String} {index : Nat} {y z : MethodName}
    (hown : s.vm.findClass own = some m.cls) (w1 : (Cond.methodLink own index y).before a0 Z = true) (w2 : (Cond.declares y).before a0 Z = true) (hnf : NotFace s y) (w5 : (Cond.selects C y z).before a0 Z = true) (w6 : (Cond.instanceMethod z).before a0 Z = true)
    (hy : y.cls ≠ "java/lang/invoke/MethodHandle" ∧ y.cls ≠ "java/lang/invoke/VarHandle") {W kc ks : Nat} {as' : Array Value} {Q' : Option Value → Heap → List Loc → Prop} (hB : own_Bk l R p e below s args z 3 W as' h kc ks Q') (eT : T.heap = h)
    {pc : Nat} {ls : Array Slot} {a : Addr} {st argsL rest : List Value} (E : Exa Z h a C) (hsize : ls.size = c.maxLocals) (hlen : ∀ sig, parseMethodDescriptor y.desc = some sig → argsL.length = sig.parameters.length) (has : (Value.ref a :: argsL).toArray = as') (hst : st = argsL.reverse ++ .ref a :: rest)
    (hW : (rest.map fun v => v.category).sum = W) (hd : decode c.code pc = .ok (.invokevirtual index, 3)) (hc : cells + kc ≤ R.cells) (hs : slots + ks ≤ R.slots)
    (k : ∀ (T' : State) (v : Option Value) (L : List Loc), Stand p l e R s m args below meth c T' (locs ++ L) (cells + kc) (slots + ks) → Q' v T'.heap L → OwnOk p e below K (T'.setTop (mkF m (pc + 3) ls (v.toList ++ rest)))) :
    OwnOk p e below K (T.setTop (mkF m pc ls st)) := by
  obtain ⟨cq, kq, qa, qb, qc⟩ := isOf hZ eT E
  obtain ⟨v, _, ⟨T2, L2, k2, n2⟩, -, X2, ⟨Lc, hQ, l2, y2, z2⟩, st2⟩ := X.virtualBack hx (y := y) (z := z) hown (mvT hZ w1) (mvT hZ w2) hnf (mvT hZ w5) (mvT hZ w6) hy hB qa qc
    (g := mkF m pc ls st) rfl hsize (Steps.refl _) (argsL := argsL) (rest := rest) hlen hst (by show 2 * 0 + _ ≤ _; rw [hW]; omega) hd (fun _ _ => ⟨has, eT, hc, hs⟩)
  dsimp only [Pt.U, Pt.locs, Pt.cells, Pt.slots] at X2 l2 y2 z2 st2 hQ
  subst l2 y2 z2
  exact own_to st2 (k _ _ _ X2 hQ)
theorem own_callV (X : Stand p l e R s m args below meth c T locs cells slots) (hx : p.tables.exec = Jvm.exec) (hZ : Z.Warmed39 s.vm) {own C : String} {index : Nat} {y z : MethodName} {bytes : ByteArray} {maxL : Nat} {ret : Option FieldType}
    (hown : s.vm.findClass own = some m.cls) (w1 : (Cond.methodLink own index y).before a0 Z = true) (w2 : (Cond.declares y).before a0 Z = true) (hnf : NotFace s y) (w5 : (Cond.selects C y z).before a0 Z = true) (w6 : (Cond.instanceMethod z).before a0 Z = true) (w3 : (Cond.initialized z.cls).before a0 Z = true) (w4 : (Cond.code z bytes maxL ret).before a0 Z = true)
    (hy : y.cls ≠ "java/lang/invoke/MethodHandle" ∧ y.cls ≠ "java/lang/invoke/VarHandle") {rm : Room} {as' : Array Value} {Q' : Option Value → Heap → List Loc → Prop} (hM : own_Met l Z z bytes maxL ret rm as' h Q') (eT : T.heap = h)
    {pc W : Nat} {ls : Array Slot} {a : Addr} {st argsL rest : List Value} (E : Exa Z h a C) (hsize : ls.size = c.maxLocals) (hlen : ∀ sig, parseMethodDescriptor y.desc = some sig → argsL.length = sig.parameters.length) (has : (Value.ref a :: argsL).toArray = as') (hst : st = argsL.reverse ++ .ref a :: rest)
    (hW : (rest.map fun v => v.category).sum = W) (hd : decode c.code pc = .ok (.invokevirtual index, 3)) (hf : rm.frames + 1 ≤ R.frames) (hl : W + (maxL + 11) + rm.locals ≤ R.locals) (hc : cells + rm.cells ≤ R.cells) (hs : slots + rm.slots ≤ R.slots)
    (k : ∀ (T' : State) (v : Option Value) (L : List Loc), Stand p l e R s m args below meth c T' (locs ++ L) (cells + rm.cells) (slots + rm.slots) → Q' v T'.heap L → OwnOk p e below K (T'.setTop (mkF m (pc + 3) ls (v.toList ++ rest)))) :
    OwnOk p e below K (T.setTop (mkF m pc ls st)) := own_callVB X hx hZ hown w1 w2 hnf w5 w6 hy (own_bk hM hZ w4 w3 hf hl) eT E hsize hlen has hst hW hd hc hs k
end Own
end Jvm.RoadKit
namespace Jvm.RoadKit
open Sem ClassFile Op Lib Jvm.Stand Jvm.Free Jvm.LawKit
section OwnX
variable {p : Program} {l : Launch} {e : Env} {R : Room} {s s' : State} {m : MethodId} {args : Array Value} {below : List Frame} {meth : Method} {c : Code} {T : State} {locs : List Loc} {cells slots : Nat} {Z : State} {a0 : Array Value} {h : Heap} {K : Outcome → State → Prop} {Q : Option Value → Heap → List Loc → Prop}
theorem own_declares {y : MethodName} {bytes : ByteArray} {maxL : Nat} {ret : Option FieldType} (w6 : (Cond.instanceMethod y).before a0 Z = true) (w4 : (Cond.code y bytes maxL ret).before a0 Z = true) : (Cond.declares y).before a0 Z = true := by
  obtain ⟨mk, methM, hnamed, hmethM, hst, hab⟩ := Cond.instanceMethod_spec w6
  obtain ⟨methM', cM, hm', -, -, -, -, -, -, hsig⟩ := Cond.code_spec hnamed w4
  cases hmethM.symm.trans hm'
  simp [Cond.before, Cond.holds, Cond.value, hnamed, hmethM, hst, hsig]
theorem own_nf {y y1 : MethodName} (h : NotFace s y1) (hc : y1.cls = y.cls) (w : (Cond.instanceMethod y1).before a0 s = true) : NotFace s y := fun r0 h0 => by
  obtain ⟨mk, methM, hnamed, -, -, -⟩ := Cond.instanceMethod_spec w
  obtain ⟨kr, q1, q2⟩ := h mk hnamed
  have e1 := findClass_of_methodNamed hnamed
  have e2 := findClass_of_methodNamed h0
  rw [hc] at e1
  have e3 : mk.cls = r0.cls := Option.some.inj (e1.symm.trans e2)
  exact ⟨kr, e3 ▸ q1, q2⟩
theorem own_sameMethod {y : MethodName} (hnf : NotFace Z y) (w6 : (Cond.instanceMethod y).before a0 Z = true) (hy : y.cls ≠ "java/lang/invoke/MethodHandle" ∧ y.cls ≠ "java/lang/invoke/VarHandle") : (Cond.sameMethod y.cls y.cls y.name y.desc).before a0 Z = true := by
  obtain ⟨mk, methM, hnamed, -, -, -⟩ := Cond.instanceMethod_spec w6
  obtain ⟨kr, q1, q2⟩ := hnf mk hnamed
  have e1 := findClass_of_methodNamed hnamed
  have e2 := State.methodFound?_of_named hnamed hy
  have e3 : Z.methodNamed? ⟨y.cls, y.name, y.desc⟩ = some mk := hnamed
  simp [Cond.before, Cond.holds, Cond.value, e1, e2, e3, q1, q2]
/-- super.m(..) -/
theorem own_callUB (X : Stand p l e R s m args below meth c T locs cells slots) (hx : p.tables.exec = Jvm.exec) (hZ : Z.Warmed39 s.vm) {own C : String} {index : Nat} {y : MethodName} {bytes : ByteArray} {maxL : Nat} {ret : Option FieldType}
    (hown : s.vm.findClass own = some m.cls) (w1 : (Cond.methodLink own index y).before a0 Z = true) (w2 : (Cond.sameMethod y.cls y.cls y.name y.desc).before a0 Z = true) (w3 : (Cond.instanceMethod y).before a0 Z = true) (w4 : (Cond.superclass own y.cls).before a0 Z = true) (hn : y.name ≠ "<init>") (wc : (Cond.code y bytes maxL ret).before a0 Z = true)
    {W kc ks : Nat} {as' : Array Value} {Q' : Option Value → Heap → List Loc → Prop} (hB : own_Bk l R p e below s args y 3 W as' h kc ks Q') (eT : T.heap = h)
    {pc : Nat} {ls : Array Slot} {a : Addr} {st argsL rest : List Value} (E : Exa Z h a C) (hsize : ls.size = c.maxLocals) (hlen : ∀ sig, parseMethodDescriptor y.desc = some sig → argsL.length = sig.parameters.length) (has : (Value.ref a :: argsL).toArray = as') (hst : st = argsL.reverse ++ .ref a :: rest)
    (hW : (rest.map fun v => v.category).sum = W) (hd : decode c.code pc = .ok (.invokespecial index, 3)) (hc : cells + kc ≤ R.cells) (hs : slots + ks ≤ R.slots)
    (k : ∀ (T' : State) (v : Option Value) (L : List Loc), Stand p l e R s m args below meth c T' (locs ++ L) (cells + kc) (slots + ks) → Q' v T'.heap L → OwnOk p e below K (T'.setTop (mkF m (pc + 3) ls (v.toList ++ rest)))) :
    OwnOk p e below K (T.setTop (mkF m pc ls st)) := by
  obtain ⟨v, _, ⟨T2, L2, k2, n2⟩, -, X2, ⟨Lc, hQ, l2, y2, z2⟩, st2⟩ := superBack X hx hZ (y := y) hown w1 w2 w3 w4 hn hB eT (Ins.self E)
    (g := mkF m pc ls st) rfl hsize wc (argsL := argsL) (rest := rest) hlen hst (by show 2 * 0 + _ ≤ _; rw [hW]; omega) hd (fun _ _ => ⟨has, eT, hc, hs⟩)
  dsimp only [Pt.U, Pt.locs, Pt.cells, Pt.slots] at X2 l2 y2 z2 st2 hQ
  subst l2 y2 z2
  exact own_to st2 (k _ _ _ X2 hQ)
/-- an array's ints by a function -/
def own_F (n : Nat) (f : Nat → Int32) : List Value := (List.range n).map fun j => Value.int (f j)
theorem own_F_len (n : Nat) (f : Nat → Int32) : (own_F n f).length = n := by simp [own_F]
theorem own_F_get {n : Nat} {f : Nat → Int32} {j : Nat} (hj : j < n) : (own_F n f)[j]? = some (.int (f j)) := by simp [own_F, hj]
theorem own_F_out {n : Nat} {f : Nat → Int32} {j : Nat} (hj : n ≤ j) : (own_F n f)[j]? = none := by rw [List.getElem?_eq_none]; rw [own_F_len]; exact hj
theorem own_F_at {n : Nat} {f : Nat → Int32} {d : Value} {j : Nat} (hj : j < n) : (own_F n f).getD j d = .int (f j) := by rw [List.getD_eq_getElem?_getD, own_F_get hj]; rfl
theorem own_F_congr {n : Nat} {f g : Nat → Int32} (h : ∀ j, j < n → f j = g j) : own_F n f = own_F n g := List.map_congr_left fun j hj => by rw [h j (List.mem_range.mp hj)]
theorem own_F_set {n : Nat} {f : Nat → Int32} {i : Nat} {v : Int32} : (own_F n f).set i (.int v) = own_F n (fun j => if j = i then v else f j) := by
  apply List.ext_getElem?
  intro j
  by_cases hj : j < n
  · rw [own_F_get hj, List.getElem?_set]
    by_cases q : i = j
    · subst q; simp [own_F_len, hj]
    · have q' : ¬ j = i := fun z => q z.symm
      simp [q, q', own_F_get hj]
  · rw [own_F_out (Nat.le_of_not_lt hj), List.getElem?_eq_none]
    rw [List.length_set, own_F_len]; omega
theorem own_newF {a : Addr} {k : ClassId} {ty : FieldType} {z : Int32} (V : Arv Z h a k ty z [] (.int 0)) (n : Nat) : Arv Z h a k ty z (own_F n fun _ => 0) (.int 0) := V.pad fun i => by
  by_cases hi : i < n
  · rw [own_F_at hi]; rfl
  · rw [List.getD_eq_getElem?_getD, own_F_out (Nat.le_of_not_lt hi)]; rfl
theorem own_cl (n : Nat) (hn : n < 2147483648) : (Int32.ofNat n).toNatClampNeg = n := clamp_of rfl hn
theorem own_nn (n : Nat) (hn : n < 2147483648) : ¬ Int32.ofNat n < 0 := by
  rw [Int32.lt_iff_toInt_lt, toInt_of rfl hn]
  have : (0 : Int32).toInt = 0 := rfl
  omega
theorem own_lt {i n : Nat} (hi : i < n) (hn : n < 2147483648) : Int32.ofNat i < Int32.ofNat n := by
  rw [Int32.lt_iff_toInt_lt, toInt_of rfl hn, toInt_of rfl (by omega)]; omega
theorem own_nlt {i n : Nat} (hi : i ≤ n) (hn : n < 2147483648) : ¬ Int32.ofNat n < Int32.ofNat i := by
  rw [Int32.lt_iff_toInt_lt, toInt_of rfl hn, toInt_of rfl (by omega)]; omega
theorem own_shr0 (x : Int32) : x >>> ((0 : Int32) &&& 31) = x := by
  apply Int32.toBitVec_inj.mp
  simp [Int32.toBitVec_shiftRight]
theorem own_shl0 (x : Int32) : x <<< ((0 : Int32) &&& 31) = x := by
  apply Int32.toBitVec_inj.mp
  simp [Int32.toBitVec_shiftLeft]
theorem own_sub_le {i n : Nat} (hi : i ≤ n) (hn : n < 2147483648) : ¬ (0 : Int32) < Int32.ofNat i - Int32.ofNat n := by
  have e0 : (0 : Int32).toInt = 0 := rfl
  rw [Int32.lt_iff_toInt_lt, Int32.toInt_sub, toInt_of rfl hn, toInt_of rfl (by omega), Int.bmod_eq_of_le (by omega) (by omega), e0]; omega
theorem own_sub_gt {i n : Nat} (hi : n < i) (hn : i < 2147483648) : (0 : Int32) < Int32.ofNat i - Int32.ofNat n := by
  have e0 : (0 : Int32).toInt = 0 := rfl
  rw [Int32.lt_iff_toInt_lt, Int32.toInt_sub, toInt_of rfl hn, toInt_of rfl (by omega), Int.bmod_eq_of_le (by omega) (by omega), e0]; omega
theorem own_max18 {g : Nat} (hg : g ≤ 18) : (if (Int32.ofNat g) < (18 : Int32) then (18 : Int32) else (Int32.ofNat g)) = (18 : Int32) := by
  by_cases q : g = 18
  · subst q; rfl
  · exact if_pos (own_lt (i := g) (n := 18) (by omega) (by omega))
theorem own_min {i n : Nat} (hi : i ≤ n) (hn : n < 2147483648) : (if (Int32.ofNat i) < (Int32.ofNat n) then (Int32.ofNat i) else (Int32.ofNat n)) = Int32.ofNat i := by
  by_cases q : i = n
  · subst q; split <;> rfl
  · rw [if_pos (own_lt (by omega) hn)]
theorem own_ofNatEq {i n : Nat} (q : Int32.ofNat i = Int32.ofNat n) (hi : i < 2147483648) (hn : n < 2147483648) : i = n := by
  have := congrArg Int32.toInt q
  rw [toInt_of rfl hn, toInt_of rfl hi] at this; omega
theorem own_ofNat0 {i : Nat} (q : Int32.ofNat i = (0 : Int32)) (hi : i < 2147483648) : i = 0 := own_ofNatEq (n := 0) q hi (by omega)
/-- the place i lies in an array of n -/
theorem own_in {i n : Nat} (hi : i < n) (hn : n < 2147483648) : ¬ Int32.ofNat i < 0 ∧ Int32.ofNat i < Int32.ofNat n := ⟨own_nn i (by omega), own_lt hi hn⟩
theorem own_F_copy {n dp nn sp ns : Nat} {f g : Nat → Int32} (h1 : dp + nn ≤ n) (h2 : sp + nn ≤ ns) : (own_F n f).take dp ++ ((List.range nn).map fun i => (own_F ns g).getD (sp + i) (.int 0)) ++ (own_F n f).drop (dp + nn) = own_F n (fun j => if dp ≤ j ∧ j < dp + nn then g (sp + (j - dp)) else f j) := by
  apply List.ext_getElem?
  intro j
  by_cases hj : j < n
  · rw [own_F_get hj]
    by_cases q1 : j < dp
    · rw [List.append_assoc, List.getElem?_append_left (by rw [List.length_take, own_F_len]; omega), List.getElem?_take_of_lt q1, own_F_get hj, if_neg (by omega)]
    · by_cases q2 : j < dp + nn
      · rw [List.append_assoc, List.getElem?_append_right (by rw [List.length_take, own_F_len]; omega), List.getElem?_append_left (by rw [List.length_map, List.length_range, List.length_take, own_F_len]; omega), List.length_take, own_F_len, Nat.min_eq_left (by omega), if_pos ⟨by omega, q2⟩, List.getElem?_map, List.getElem?_range (by omega)]
        show some ((own_F ns g).getD (sp + (j - dp)) (.int 0)) = _
        rw [own_F_at (by omega)]
      · rw [List.getElem?_append_right (by rw [List.length_append, List.length_map, List.length_range, List.length_take, own_F_len]; omega), List.length_append, List.length_map, List.length_range, List.length_take, own_F_len, Nat.min_eq_left (by omega), List.getElem?_drop, if_neg (by omega)]
        rw [show dp + nn + (j - (dp + nn)) = j by omega, own_F_get hj]
  · rw [own_F_out (Nat.le_of_not_lt hj), List.getElem?_eq_none]
    rw [List.length_append, List.length_append, List.length_map, List.length_range, List.length_take, List.length_drop, own_F_len]
    omega
theorem own_cl3 {a b c : Nat} (ha : a < 2147483648) (hb : b < 2147483648) (hc : c < 2147483648) (h : a + b ≤ c) : (Int32.ofNat a).toNatClampNeg + (Int32.ofNat b).toNatClampNeg ≤ (Int32.ofNat c).toNatClampNeg := by rw [own_cl a ha, own_cl b hb, own_cl c hc]; exact h
theorem own_clF {a b n : Nat} {f : Nat → Int32} (ha : a < 2147483648) (hb : b < 2147483648) (h : a + b ≤ n) : (Int32.ofNat a).toNatClampNeg + (Int32.ofNat b).toNatClampNeg ≤ (own_F n f).length := by rw [own_cl a ha, own_cl b hb, own_F_len]; exact h
theorem own_F_copyI {n dp nn sp ns : Nat} {f g : Nat → Int32} (h1 : dp + nn ≤ n) (h2 : sp + nn ≤ ns) (b1 : dp < 2147483648) (b2 : nn < 2147483648) (b3 : sp < 2147483648) : (own_F n f).take (Int32.ofNat dp).toNatClampNeg ++ ((List.range (Int32.ofNat nn).toNatClampNeg).map fun i => (own_F ns g).getD ((Int32.ofNat sp).toNatClampNeg + i) (.int 0)) ++ (own_F n f).drop ((Int32.ofNat dp).toNatClampNeg + (Int32.ofNat nn).toNatClampNeg) = own_F n (fun j => if dp ≤ j ∧ j < dp + nn then g (sp + (j - dp)) else f j) := by
  rw [own_cl dp b1, own_cl nn b2, own_cl sp b3]
  exact own_F_copy h1 h2
end OwnX
end Jvm.RoadKit
namespace Jvm.RoadKit
open Sem Bundle ClassFile Op Lib Jvm.Stand Jvm.Free Jvm.LawKit
section OwnH
variable {p : Program} {l : Launch} {e : Env} {R : Room} {s s' : State} {m : MethodId} {args : Array Value} {below : List Frame} {meth : Method} {c : Code} {T : State} {locs : List Loc} {cells slots : Nat} {Z : State} {a0 : Array Value} {h h' : Heap} {EL : List (String × Nat)} {x : Addr} {ws : List Addr} {K : Outcome → State → Prop} {Q : Option Value → Heap → List Loc → Prop}
/-- the walk's base: the start with the tables at hand, the literals' invariant kept -/
def own_FrH (Z : State) (EL : List (String × Nat)) (s s' : State) (h : Heap) : Prop := ∃ (vm0 : Vm) (k0 : Nat), s' = s.setVm vm0 ∧ s.Since vm0 k0 ∧ k0 ≤ h.size ∧ CHr Z EL s.vm s.heap vm0 h
theorem own_FrH.start (hh : s.heap = h) (H : CHv Z EL s.vm h) : own_FrH Z EL s s h := ⟨s.vm, 0, rfl, (State.WarmedH.refl s).since 0, Nat.zero_le _, by rw [hh]; exact CHr.refl H⟩
theorem own_FrH.inv (B : own_FrH Z EL s s' h) : CHv Z EL s'.vm h := by
  obtain ⟨vm0, k0, rfl, h2, h3, h4⟩ := B
  exact h4.1
theorem own_FrH.ext (B : own_FrH Z EL s s' h) (E : Ext h h') : own_FrH Z EL s s' h' := by
  obtain ⟨vm0, k0, h1, h2, h3, h4⟩ := B
  exact ⟨vm0, k0, h1, h2, Nat.le_trans h3 E.1, h4.trans (CHr.ext E h4.1)⟩
theorem own_FrH.wr {a : Addr} {sl : Nat} {v : Value} (B : own_FrH Z EL s s' h) (W : Wr h h' a sl v) (S : Safe Z EL s'.vm h a) : own_FrH Z EL s s' h' := by
  obtain ⟨vm0, k0, rfl, h2, h3, h4⟩ := B
  exact ⟨vm0, k0, rfl, h2, Nat.le_trans h3 (Nat.le_of_eq W.size.symm), h4.trans (CHr.wr W S h4.1)⟩
theorem own_FrH.keep (B : own_FrH Z EL s s' h) (K : Keep h h' ws) (hs : ∀ x ∈ ws, Safe Z EL s'.vm h x) : own_FrH Z EL s s' h' := by
  obtain ⟨vm0, k0, rfl, h2, h3, h4⟩ := B
  exact ⟨vm0, k0, rfl, h2, Nat.le_trans h3 K.1, h4.trans (CHr.keep K hs h4.1)⟩
theorem own_FrH.sNew (B : own_FrH Z EL s s' h) (E : Ext h h') (hx : h.size ≤ x) : Safe Z EL s'.vm h' x := Safe.ext E B.inv (Safe.new hx)
theorem own_FrH.sNewK (B : own_FrH Z EL s s' h) (K : Keep h h' ws) (hs : ∀ x ∈ ws, Safe Z EL s'.vm h x) (hx : h.size ≤ x) : Safe Z EL s'.vm h' x := Safe.keep K hs B.inv (Safe.new hx)
theorem own_FrH.sExt (B : own_FrH Z EL s s' h) (E : Ext h h') (S : Safe Z EL s'.vm h x) : Safe Z EL s'.vm h' x := Safe.ext E B.inv S
theorem own_FrH.sWr {a : Addr} {sl : Nat} {v : Value} (B : own_FrH Z EL s s' h) (W : Wr h h' a sl v) (S : Safe Z EL s'.vm h a) (Sx : Safe Z EL s'.vm h x) : Safe Z EL s'.vm h' x := Safe.wr W S B.inv Sx
theorem own_FrH.sKeep (B : own_FrH Z EL s s' h) (K : Keep h h' ws) (hs : ∀ x ∈ ws, Safe Z EL s'.vm h x) (S : Safe Z EL s'.vm h x) : Safe Z EL s'.vm h' x := Safe.keep K hs B.inv S
theorem own_saf0 {vm : Vm} : ∀ x ∈ ([] : List Addr), Safe Z EL vm h x := fun _ q => by cases q
theorem own_safS {vm : Vm} {b : Addr} (S : Safe Z EL vm h b) (q : ∀ x ∈ ws, Safe Z EL vm h x) : ∀ x ∈ b :: ws, Safe Z EL vm h x := fun x hx => by
  rcases List.mem_cons.mp hx with rfl | hx
  · exact S
  · exact q x hx
theorem own_lt0 : ∀ x ∈ ([] : List Addr), x < h.size := fun _ q => by cases q
theorem own_ltS {b : Addr} (S : b < h.size) (q : ∀ x ∈ ws, x < h.size) : ∀ x ∈ b :: ws, x < h.size := fun x hx => by
  rcases List.mem_cons.mp hx with rfl | hx
  · exact S
  · exact q x hx
theorem own_safE {C : String} (hZ : Z.Warmed39 s'.vm) (E : Exa Z h x C) (h1 : C ≠ "java/lang/String") (h2 : C ≠ "[B") : Safe Z EL s'.vm h x := Safe.exa hZ.alike E h1 h2
/-- the end of a body that may intern and keeps the invariant -/
def own_KH (Z : State) (EL : List (String × Nat)) (s : State) (Q : Option Value → Heap → List Loc → Prop) (k n : Nat) (o : Outcome) (u : State) : Prop := ∃ v L, o = .returned v ∧ Q v u.heap L ∧ CHr Z EL s.vm s.heap u.vm u.heap ∧ ReturnedEndW s o u L k n
def own_MetH (l : Launch) (Z : State) (EL : List (String × Nat)) (sf : List Addr) (y : MethodName) (bytes : ByteArray) (maxL : Nat) (ret : Option FieldType) (rm : Room) (as' : Array Value) (h0 : Heap) (Q : Option Value → Heap → List Loc → Prop) : Prop :=
  ∀ ws, MetFree l y (head1 (Cond.code y bytes maxL ret :: ws) rm) (fun a U => a = as' ∧ Z.Warmed39 U.vm ∧ U.heap = h0 ∧ CHv Z EL U.vm h0 ∧ ∀ x ∈ sf, Safe Z EL U.vm h0 x) (fun _ _ _ _ _ => True) (fun _ U o U' => own_KH Z EL U Q rm.cells rm.slots o U')
theorem own_bodyH {sf : List Addr} {y : MethodName} {bytes : ByteArray} {maxL : Nat} {ret : Option FieldType} {rm : Room} {as' : Array Value} {L0 : Array Slot}
    (hpl : plainFor y = true) (ef : ∀ m, entryFrame m as' maxL = mkF m 0 L0 [])
    (body : ∀ (p : Program) (e : Env) (s : State) (m : MethodId) (below : List Frame) (meth : Method) (c : Code) (s₁ : State), p.tables.exec = Jvm.exec → c.code = bytes → c.maxLocals = maxL → Z.Warmed39 s.vm → s.vm.findClass y.cls = some m.cls → meth.name = y.name → meth.sig.returnType = ret → meth.locks = false →
      Stand p l e rm s m as' below meth c s₁ [] 0 0 → s₁.heap = h → own_FrH Z EL s s h → (∀ x ∈ sf, Safe Z EL s.vm h x) → OwnOk p e below (own_KH Z EL s Q rm.cells rm.slots) (s₁.setTop (mkF m 0 L0 []))) :
    own_MetH l Z EL sf y bytes maxL ret rm as' h Q := by
  intro ws
  refine MetFree.of_bodySF hpl hisR ?_
  intro p e s m args below meth c s₁ Bd hml0 hP hK
  obtain ⟨rfl, hZ, hh, hH, hsf⟩ := hP
  have q := body p e s m below meth c s₁ Bd.exec Bd.bytes hml0 hZ (findClass_of_methodNamed Bd.named) (name_of_methodNamed Bd.named Bd.method).1 Bd.returns Bd.notSynchronized (Stand.of_body Bd) (by rw [← hh, Bd.state]; rfl) (own_FrH.start hh hH) hsf
  rw [← ef] at q
  exact q
theorem own_retH (X : Stand p l e R s' m args below meth c T locs cells slots) (B : own_FrH Z EL s s' h) (hZ : Z.Warmed39 s'.vm) (hEL : EW Z a0 EL) {F : JFrame} {v : Option Value} (hv : meth.sig.returnType = none → v = none) (hlk : meth.locks = false)
    (st : ∀ fs, (∀ (f : JFrame) (acts : List Action), f.method = m → f.locked = none → f.entered = [] → (doReturn e (T.setTop f) acts v).1 = T.setFrames fs) → Steps p.tables e below (T.setTop F) (T.setFrames fs))
    (eT : T.heap = h) (hQ : Q v h locs) {k n : Nat} (hk : cells ≤ k) (hn : slots ≤ n) : OwnOk p e below (own_KH Z EL s Q k n) (T.setTop F) := by
  obtain ⟨vm0, k0, rfl, hS, hk0, hC⟩ := B
  obtain ⟨fs, hr, hrun, hended, hE⟩ := X.leaveW hS (by rw [eT]; exact hk0) hv hlk
  have hC2 := hC.trans (CHv.at X hZ hEL hC.1)
  refine ⟨_, _, st fs hr, hrun, hended, v, locs, rfl, ?_, ?_, hE.1, hE.2.1, hE.2.2.1, hE.2.2.2.mono hk hn⟩
  · show Q v T.heap locs
    rw [eT]; exact hQ
  · show CHr Z EL s.vm s.heap T.vm T.heap
    rw [eT]; exact hC2
theorem own_retNH (X : Stand p l e R s' m args below meth c T locs cells slots) (B : own_FrH Z EL s s' h) (hZ : Z.Warmed39 s'.vm) (hEL : EW Z a0 EL) (hx : p.tables.exec = Jvm.exec) {t : FieldType} (hret : meth.sig.returnType = some t) (ht : t = .boolean ∨ t = .byte ∨ t = .char ∨ t = .short) (hlk : meth.locks = false)
    {pc : Nat} {Ls : Array Slot} {z z' : Int32} {rest : List Value} (hd : decode c.code pc = .ok (.ireturn, 1)) (hz : nar t z = z') (eT : T.heap = h) {k n : Nat} (hk : cells ≤ k) (hn : slots ≤ n) (hQ : Q (some (.int z')) h locs) :
    OwnOk p e below (own_KH Z EL s Q k n) (T.setTop (mkF m pc Ls (.int z :: rest))) := by
  subst hz
  exact own_retH X B hZ hEL (fun q => by rw [hret] at q; cases q) hlk (fun fs hr => retN X hx hret ht hd hr) eT hQ hk hn
theorem own_retIH (X : Stand p l e R s' m args below meth c T locs cells slots) (B : own_FrH Z EL s s' h) (hZ : Z.Warmed39 s'.vm) (hEL : EW Z a0 EL) (hx : p.tables.exec = Jvm.exec) (hret : meth.sig.returnType = some .int) (hlk : meth.locks = false)
    {pc : Nat} {Ls : Array Slot} {z : Int32} {rest : List Value} (hd : decode c.code pc = .ok (.ireturn, 1)) (eT : T.heap = h) {k n : Nat} (hk : cells ≤ k) (hn : slots ≤ n) (hQ : Q (some (.int z)) h locs) :
    OwnOk p e below (own_KH Z EL s Q k n) (T.setTop (mkF m pc Ls (.int z :: rest))) :=
  own_retH X B hZ hEL (fun q => by rw [hret] at q; cases q) hlk (fun fs hr => retOut X hx hret rfl (Or.inl ⟨rfl, Or.inl rfl, z, rfl⟩) hd hr) eT hQ hk hn
theorem own_retJH (X : Stand p l e R s' m args below meth c T locs cells slots) (B : own_FrH Z EL s s' h) (hZ : Z.Warmed39 s'.vm) (hEL : EW Z a0 EL) (hx : p.tables.exec = Jvm.exec) (hret : meth.sig.returnType = some .long) (hlk : meth.locks = false)
    {pc : Nat} {Ls : Array Slot} {z : Int64} {rest : List Value} (hd : decode c.code pc = .ok (.lreturn, 1)) (eT : T.heap = h) {k n : Nat} (hk : cells ≤ k) (hn : slots ≤ n) (hQ : Q (some (.long z)) h locs) :
    OwnOk p e below (own_KH Z EL s Q k n) (T.setTop (mkF m pc Ls (.long z :: rest))) :=
  own_retH X B hZ hEL (fun q => by rw [hret] at q; cases q) hlk (fun fs hr => retOut X hx hret rfl (Or.inr (Or.inl ⟨rfl, rfl, z, rfl⟩)) hd hr) eT hQ hk hn
theorem own_retRH (X : Stand p l e R s' m args below meth c T locs cells slots) (B : own_FrH Z EL s s' h) (hZ : Z.Warmed39 s'.vm) (hEL : EW Z a0 EL) (hx : p.tables.exec = Jvm.exec) {t : FieldType} (hret : meth.sig.returnType = some t) (ht : t.isReference = true) (hlk : meth.locks = false)
    {pc : Nat} {Ls : Array Slot} {w : Value} {rest : List Value} (hw : w.isRef = true) (hd : decode c.code pc = .ok (.areturn, 1)) (eT : T.heap = h) {k n : Nat} (hk : cells ≤ k) (hn : slots ≤ n) (hQ : Q (some w) h locs) :
    OwnOk p e below (own_KH Z EL s Q k n) (T.setTop (mkF m pc Ls (w :: rest))) :=
  own_retH X B hZ hEL (fun q => by rw [hret] at q; cases q) hlk (fun fs hr => retOut X hx hret (by rcases ref_cases hw with rfl | ⟨a, rfl⟩ <;> cases t <;> rfl) (Or.inr (Or.inr (Or.inr (Or.inr ⟨rfl, ht, hw⟩)))) hd hr) eT hQ hk hn
theorem own_retVH (X : Stand p l e R s' m args below meth c T locs cells slots) (B : own_FrH Z EL s s' h) (hZ : Z.Warmed39 s'.vm) (hEL : EW Z a0 EL) (hx : p.tables.exec = Jvm.exec) (hret : meth.sig.returnType = none) (hlk : meth.locks = false)
    {pc : Nat} {Ls : Array Slot} (hd : decode c.code pc = .ok (.return_, 1)) (eT : T.heap = h) {k n : Nat} (hk : cells ≤ k) (hn : slots ≤ n) (hQ : Q none h locs) :
    OwnOk p e below (own_KH Z EL s Q k n) (T.setTop (mkF m pc Ls [])) :=
  own_retH X B hZ hEL (fun _ => rfl) hlk (fun fs hr => X.returnOut hx hret hd hr) eT hQ hk hn
/-- library's backOfSH, with addresses that the caller knows as safe -/
theorem own_backH {vm0 : Vm} {sf : List Addr} {y : MethodName} {bytes : ByteArray} {maxL : Nat} {ret : Option FieldType} {rm : Room} {len W : Nat} {as' : Array Value} (hM : own_MetH l Z EL sf y bytes maxL ret rm as' h Q)
    (hZ : Z.Warmed39 vm0) (wc : (Cond.code y bytes maxL ret).before a0 Z = true) (wz : (Cond.initialized y.cls).before a0 Z = true) (hf : rm.frames + 1 ≤ R.frames) (hl : W + (maxL + 11) + rm.locals ≤ R.locals) (hEL : EW Z a0 EL) (H : CHv Z EL vm0 h) (hsf : ∀ x ∈ sf, Safe Z EL vm0 h x) (hlt : ∀ x ∈ sf, x < h.size) :
    BackS l R p e below (s.setVm vm0) args y len W (fun A a => a = as' ∧ A.U.heap = h ∧ A.cells + rm.cells ≤ R.cells ∧ A.slots + rm.slots ≤ R.slots)
      (fun A _ v B => ∃ L, Q v B.U.heap L ∧ B.locs = A.locs ++ L ∧ B.cells = A.cells + rm.cells ∧ B.slots = A.slots + rm.slots ∧ CHr Z EL vm0 h B.U.vm B.U.heap) :=
  BackS.of_freeW (bytes := bytes) (maxL := maxL) (ret := ret) (E := fun _ first o t L k n => k = rm.cells ∧ n = rm.slots ∧ (∃ v, o = .returned v ∧ Q v t.heap L) ∧ CHr Z EL first.vm first.heap t.vm t.heap) (hM []) hf hl
    (fun m meth c A a Y hp => have hU : Z.Warmed39 A.U.vm := wtrans (s := s.setVm vm0) hZ Y.warmed
      ⟨by show (Cond.and _ .tt).before a A.U = true; rw [Cond.before_and, mv hU wc]; rfl, mv hU wc, mv hU wz, hp.2.2.1, hp.2.2.2⟩)
    (fun m meth c A a g mk Y hp => ⟨hp.1, wtrans (s := s.setVm vm0) hZ Y.warmed, hp.2.1, (CHv.at Y hZ hEL H).1, fun x hx => (CHv.at Y hZ hEL H).safe (hlt x hx) (hsf x hx)⟩) (fun _ _ _ _ _ _ _ _ _ => trivial)
    (fun _ _ _ _ ⟨v, L, h1, h2, h3, h4⟩ => ⟨L, _, _, h4, rfl, rfl, ⟨v, h1, h2⟩, h3⟩)
    (fun m meth c A a g mk v t L k n Y hp _ _ ⟨e1, e2, ⟨v', e3, e4⟩, e5⟩ => by
      cases e3; subst e1 e2
      refine ⟨L, e4, rfl, rfl, rfl, (CHv.at Y hZ hEL H).trans ?_⟩
      rw [← hp.2.1]; exact e5)
/-- a String constant is loaded: its text is known -/
theorem own_ldcH (X : Stand p l e R s' m args below meth c T locs cells slots) (B : own_FrH Z EL s s' h) (hx : p.tables.exec = Jvm.exec) (hZ : Z.Warmed39 s'.vm) (hEL : EW Z a0 EL) {own text : String} {index : Nat} (hown : s'.vm.findClass own = some m.cls) (hmem : (own, index) ∈ EL)
    (w : (Cond.stringLink own index text).before a0 Z = true) (wS : ∀ a ∈ Bundle.stringAtoms, a.before a0 Z = true) (eT : T.heap = h) {vs : List Value} {z : Int32} (ht : (∀ c ∈ text.toList, c.toNat < 256) ∧ text.toList.map (fun c => Value.int (Jvm.Lit.byteI c.toNat.toUInt16)) = vs) (hz : ¬ z < 0) (hl' : z.toNatClampNeg = vs.length)
    {pc : Nat} {ls : Array Slot} {st : List Value} (hd : decode c.code pc = .ok (.ldc index, 2)) {n : Nat} (hn : 4 * text.toList.length ≤ n) (hbig : n ≤ 536870912) (hc : cells + 2 ≤ R.cells) (hl : slots + (n + 4) ≤ R.slots)
    (k : ∀ (s'' : State) (a b : Addr) (kk : ClassId) (T' : State) (h' : Heap), Stand p l e R s'' m args below meth c T' locs (cells + 2) (slots + (n + 4)) → own_FrH Z EL s s'' h' → Z.Warmed39 s''.vm → s''.vm.findClass own = some m.cls → T'.heap = h' → Ext h h' →
      Exa Z h' a "java/lang/String" → Fld Z h' a "java/lang/String" "coder" "B" (.int 0) → Fld Z h' a "java/lang/String" "value" "[B" (.ref b) → Arv Z h' b kk .byte z vs (.int 0) → (∀ x, x < h.size → Safe Z EL s'.vm h x → Safe Z EL s''.vm h' x ∧ x ≠ a ∧ x ≠ b) → OwnOk p e below K (T'.setTop (mkF m (pc + 2) ls (.ref a :: st)))) :
    OwnOk p e below K (T.setTop (mkF m pc ls st)) := by
  obtain ⟨vm0, k0, rfl, hS, hk, hC⟩ := B
  obtain ⟨a, T', h', k1, b, kk, X', e', E, hS', hk', hZ', hown', q1, q2, q3, q4, q5, q6, hC', hL, hne, st'⟩ := ldcCH X hx hZ hown w wS eT hS hk hEL hmem hC.1 ht hz hl' (g := mkF m pc ls st) rfl hd hn hbig hc hl
  exact own_up st' (k _ a b kk T' h' X' ⟨_, _, rfl, hS', hk', hC.trans hC'⟩ hZ' hown' e' E q1 q2 q3 q4 (fun x hx S => have q := hC'.safe hx S; ⟨q, hne x q⟩))
theorem own_callSH (X : Stand p l e R s' m args below meth c T locs cells slots) (B : own_FrH Z EL s s' h) (hEL : EW Z a0 EL) {sf : List Addr} (hsf : ∀ x ∈ sf, Safe Z EL s'.vm h x) (hlt : ∀ x ∈ sf, x < h.size) (hx : p.tables.exec = Jvm.exec) (hZ : Z.Warmed39 s'.vm) {own : String} {index : Nat} {y : MethodName} {bytes : ByteArray} {maxL : Nat} {ret : Option FieldType}
    (hown : s'.vm.findClass own = some m.cls) (w1 : (Cond.methodLink own index y).before a0 Z = true) (w2 : (Cond.static y).before a0 Z = true) (w3 : (Cond.initialized y.cls).before a0 Z = true) (w4 : (Cond.code y bytes maxL ret).before a0 Z = true)
    (hy : y.cls ≠ "java/lang/invoke/MethodHandle" ∧ y.cls ≠ "java/lang/invoke/VarHandle") {rm : Room} {as' : Array Value} {Q' : Option Value → Heap → List Loc → Prop} (hM : own_MetH l Z EL sf y bytes maxL ret rm as' h Q') (eT : T.heap = h)
    {pc W : Nat} {ls : Array Slot} {st argsL rest : List Value} (hsize : ls.size = c.maxLocals) (hlen : ∀ sig, parseMethodDescriptor y.desc = some sig → argsL.length = sig.parameters.length) (has : argsL.toArray = as') (hst : st = argsL.reverse ++ rest)
    (hW : (rest.map fun v => v.category).sum = W) (hd : decode c.code pc = .ok (.invokestatic index, 3)) (hf : rm.frames + 1 ≤ R.frames) (hl : W + (maxL + 11) + rm.locals ≤ R.locals) (hc : cells + rm.cells ≤ R.cells) (hs : slots + rm.slots ≤ R.slots)
    (k : ∀ (s'' T' : State) (v : Option Value) (L : List Loc), Stand p l e R s'' m args below meth c T' (locs ++ L) (cells + rm.cells) (slots + rm.slots) → own_FrH Z EL s s'' T'.heap → Z.Warmed39 s''.vm → s''.vm.findClass own = some m.cls → Q' v T'.heap L → (∀ x, x < h.size → Safe Z EL s'.vm h x → Safe Z EL s''.vm T'.heap x) → OwnOk p e below K (T'.setTop (mkF m (pc + 3) ls (v.toList ++ rest)))) :
    OwnOk p e below K (T.setTop (mkF m pc ls st)) := by
  obtain ⟨vm0, k0, rfl, hS, hk, hC⟩ := B
  obtain ⟨v, _, ⟨T2, L2, k2, n2⟩, -, X2, hS2, hgr, ⟨Lc, hQ, l2, y2, z2, hC'⟩, st2⟩ := callSS X hx hown (mvT hZ w1) (mvT hZ w2) (mvT hZ w3) (mvT hZ w4) hy (own_backH (W := W) hM hZ w4 w3 hf hl hEL hC.1 hsf hlt)
    (g := mkF m pc ls st) rfl hsize (argsL := argsL) (rest := rest) hlen hst (by show 2 * 0 + _ ≤ _; rw [hW]; omega) hd (fun _ _ => ⟨has, eT, hc, hs⟩)
  dsimp only [Pt.U, Pt.locs, Pt.cells, Pt.slots] at X2 l2 y2 z2 st2 hQ hS2 hgr hC'
  subst l2 y2 z2
  exact own_to st2 (k _ _ _ _ X2 ⟨T2.vm, T2.heap.size, rfl, hS.trans hS2 (Nat.le_trans hk (eT ▸ hgr)), Nat.le_refl _, hC.trans hC'⟩ (State.Warmed39.trans (t := s.setVm vm0) hZ hS2.1) (by show T2.vm.findClass own = _; rw [hS2.1.alike.findClass]; exact hown) hQ (fun x hx S => hC'.safe hx S))
theorem own_callCH (X : Stand p l e R s' m args below meth c T locs cells slots) (B : own_FrH Z EL s s' h) (hEL : EW Z a0 EL) {sf : List Addr} (hsf : ∀ x ∈ sf, Safe Z EL s'.vm h x) (hlt : ∀ x ∈ sf, x < h.size) (hx : p.tables.exec = Jvm.exec) (hZ : Z.Warmed39 s'.vm) {own : String} {index : Nat} {y : MethodName} {bytes : ByteArray} {maxL : Nat} (hy1 : y.name = "<init>")
    (hown : s'.vm.findClass own = some m.cls) (w1 : (Cond.methodLink own index y).before a0 Z = true) (w2 : (Cond.instanceMethod y).before a0 Z = true) (w3 : (Cond.initialized y.cls).before a0 Z = true) (w4 : (Cond.code y bytes maxL none).before a0 Z = true)
    (hy : y.cls ≠ "java/lang/invoke/MethodHandle" ∧ y.cls ≠ "java/lang/invoke/VarHandle") {rm : Room} {as' : Array Value} {Q' : Option Value → Heap → List Loc → Prop} (hM : own_MetH l Z EL sf y bytes maxL none rm as' h Q') (eT : T.heap = h)
    {pc W : Nat} {ls : Array Slot} {a : Addr} {st argsL rest : List Value} (hsize : ls.size = c.maxLocals) (hlen : ∀ sig, parseMethodDescriptor y.desc = some sig → argsL.length = sig.parameters.length) (has : (Value.ref a :: argsL).toArray = as') (hst : st = argsL.reverse ++ .ref a :: rest)
    (hW : (rest.map fun v => v.category).sum = W) (hd : decode c.code pc = .ok (.invokespecial index, 3)) (hf : rm.frames + 1 ≤ R.frames) (hl : W + (maxL + 11) + rm.locals ≤ R.locals) (hc : cells + rm.cells ≤ R.cells) (hs : slots + rm.slots ≤ R.slots)
    (k : ∀ (s'' T' : State) (v : Option Value) (L : List Loc), Stand p l e R s'' m args below meth c T' (locs ++ L) (cells + rm.cells) (slots + rm.slots) → own_FrH Z EL s s'' T'.heap → Z.Warmed39 s''.vm → s''.vm.findClass own = some m.cls → Q' v T'.heap L → (∀ x, x < h.size → Safe Z EL s'.vm h x → Safe Z EL s''.vm T'.heap x) → OwnOk p e below K (T'.setTop (mkF m (pc + 3) ls (v.toList ++ rest)))) :
    OwnOk p e below K (T.setTop (mkF m pc ls st)) := by
  obtain ⟨vm0, k0, rfl, hS, hk, hC⟩ := B
  obtain ⟨v, _, ⟨T2, L2, k2, n2⟩, -, X2, hS2, hgr, ⟨Lc, hQ, l2, y2, z2, hC'⟩, st2⟩ := X.specialBackS hx hy1 hown (mvT hZ w1) (mvT hZ w2) (mvT hZ w4) hy (own_backH (W := W) hM hZ w4 w3 hf hl hEL hC.1 hsf hlt)
    (g := mkF m pc ls st) rfl hsize (Steps.refl _) (a := a) (argsL := argsL) (rest := rest) hlen hst (by show 2 * 0 + _ ≤ _; rw [hW]; omega) hd (fun _ _ => ⟨has, eT, hc, hs⟩)
  dsimp only [Pt.U, Pt.locs, Pt.cells, Pt.slots] at X2 l2 y2 z2 st2 hQ hS2 hgr hC'
  subst l2 y2 z2
  exact own_to st2 (k _ _ _ _ X2 ⟨T2.vm, T2.heap.size, rfl, hS.trans hS2 (Nat.le_trans hk (eT ▸ hgr)), Nat.le_refl _, hC.trans hC'⟩ (State.Warmed39.trans (t := s.setVm vm0) hZ hS2.1) (by show T2.vm.findClass own = _; rw [hS2.1.alike.findClass]; exact hown) hQ (fun x hx S => hC'.safe hx S))
theorem own_callVH (X : Stand p l e R s' m args below meth c T locs cells slots) (B : own_FrH Z EL s s' h) (hEL : EW Z a0 EL) {sf : List Addr} (hsf : ∀ x ∈ sf, Safe Z EL s'.vm h x) (hlt : ∀ x ∈ sf, x < h.size) (hx : p.tables.exec = Jvm.exec) (hZ : Z.Warmed39 s'.vm) {own C : String} {index : Nat} {y z : MethodName} {bytes : ByteArray} {maxL : Nat} {ret : Option FieldType}
    (hown : s'.vm.findClass own = some m.cls) (w1 : (Cond.methodLink own index y).before a0 Z = true) (w2 : (Cond.declares y).before a0 Z = true) (hnf : NotFace s' y) (w5 : (Cond.selects C y z).before a0 Z = true) (w6 : (Cond.instanceMethod z).before a0 Z = true) (w3 : (Cond.initialized z.cls).before a0 Z = true) (w4 : (Cond.code z bytes maxL ret).before a0 Z = true)
    (hy : y.cls ≠ "java/lang/invoke/MethodHandle" ∧ y.cls ≠ "java/lang/invoke/VarHandle") {rm : Room} {as' : Array Value} {Q' : Option Value → Heap → List Loc → Prop} (hM : own_MetH l Z EL sf z bytes maxL ret rm as' h Q') (eT : T.heap = h)
    {pc W : Nat} {ls : Array Slot} {a : Addr} {st argsL rest : List Value} (E : Exa Z h a C) (hsize : ls.size = c.maxLocals) (hlen : ∀ sig, parseMethodDescriptor y.desc = some sig → argsL.length = sig.parameters.length) (has : (Value.ref a :: argsL).toArray = as') (hst : st = argsL.reverse ++ .ref a :: rest)
    (hW : (rest.map fun v => v.category).sum = W) (hd : decode c.code pc = .ok (.invokevirtual index, 3)) (hf : rm.frames + 1 ≤ R.frames) (hl : W + (maxL + 11) + rm.locals ≤ R.locals) (hc : cells + rm.cells ≤ R.cells) (hs : slots + rm.slots ≤ R.slots)
    (k : ∀ (s'' T' : State) (v : Option Value) (L : List Loc), Stand p l e R s'' m args below meth c T' (locs ++ L) (cells + rm.cells) (slots + rm.slots) → own_FrH Z EL s s'' T'.heap → Z.Warmed39 s''.vm → s''.vm.findClass own = some m.cls → Q' v T'.heap L → (∀ x, x < h.size → Safe Z EL s'.vm h x → Safe Z EL s''.vm T'.heap x) → OwnOk p e below K (T'.setTop (mkF m (pc + 3) ls (v.toList ++ rest)))) :
    OwnOk p e below K (T.setTop (mkF m pc ls st)) := by
  obtain ⟨vm0, k0, rfl, hS, hk, hC⟩ := B
  obtain ⟨cq, kq, qa, qb, qc⟩ := isOf hZ eT E
  obtain ⟨v, _, ⟨T2, L2, k2, n2⟩, -, X2, hS2, hgr, ⟨Lc, hQ, l2, y2, z2, hC'⟩, st2⟩ := X.virtualBackS hx (y := y) (z := z) hown (mvT hZ w1) (mvT hZ w2) hnf (mvT hZ w5) (mvT hZ w6) hy (own_backH (W := W) hM hZ w4 w3 hf hl hEL hC.1 hsf hlt) qa qc
    (g := mkF m pc ls st) rfl hsize (Steps.refl _) (argsL := argsL) (rest := rest) hlen hst (by show 2 * 0 + _ ≤ _; rw [hW]; omega) hd (fun _ _ => ⟨has, eT, hc, hs⟩)
  dsimp only [Pt.U, Pt.locs, Pt.cells, Pt.slots] at X2 l2 y2 z2 st2 hQ hS2 hgr hC'
  subst l2 y2 z2
  exact own_to st2 (k _ _ _ _ X2 ⟨T2.vm, T2.heap.size, rfl, hS.trans hS2 (Nat.le_trans hk (eT ▸ hgr)), Nat.le_refl _, hC.trans hC'⟩ (State.Warmed39.trans (t := s.setVm vm0) hZ hS2.1) (by show T2.vm.findClass own = _; rw [hS2.1.alike.findClass]; exact hown) hQ (fun x hx S => hC'.safe hx S))
end OwnH
end Jvm.RoadKit
namespace Jvm.RoadKit
open Sem ClassFile Op Lib Jvm.Stand Jvm.Free Jvm.LawKit Jvm.Free.SBG
section OwnJ
variable {p : Program} {l : Launch} {e : Env} {R : Room} {s s' : State} {m : MethodId} {args : Array Value} {below : List Frame} {Z : State} {a0 : Array Value} {h : Heap} {W n0 : Nat}
/-- the j-th char of the decimal form of x, n = |x| -/
def own_dg (n : Nat) (x : Int32) (j : Nat) : Int32 := if j = 0 ∧ x < 0 then 45 else Int32.ofNat (48 + n / 10 ^ (SBG.digits n + GetChars.sgn x - 1 - j) % 10)
theorem own_dig_fits : ∀ d, d < 10 → fits .byte (.int (Int32.ofNat (48 + d))) = true := by decide
theorem own_dg_fits (n : Nat) (x : Int32) (j : Nat) : fits .byte (.int (own_dg n x j)) = true := by
  unfold own_dg
  split
  · rfl
  · exact own_dig_fits _ (Nat.mod_lt _ (by omega))
/-- Integer.stringSize -/
theorem own_ssBk (hZ : Z.Warmed39 s.vm) (wc : (Cond.code StrSize.ssN StrSize.ssB 4 (some .int)).before a0 Z = true) (wz : (Cond.initialized INT).before a0 Z = true) {x : Int32} {nn : Nat} (hn : nn ≤ 2 ^ 31) (hneg : (if x < 0 then x else -x) = negI nn) (hfr : 2 ≤ R.frames) (hlo : W + 55 ≤ R.locals) :
    own_Bk l R p e below s args StrSize.ssN 3 W #[.int x] h 0 0 (fun v h' L => v = some (.int (Int32.ofNat (SBG.digits nn + GetChars.sgn x))) ∧ Fr n0 L ∧ h' = h) := by
  refine Back.mono (StrSize.pays hfr hlo (mv hZ wc) (mv hZ wz)) (fun A a hp => ⟨by have := hp.2.2.1; omega, by have := hp.2.2.2; omega, x, hp.1⟩) (fun A a v B hp hq => ?_)
  obtain ⟨⟨q1, q2, q3, q4⟩, q5⟩ := hq
  refine ⟨[], ⟨?_, Fr.nil n0, by rw [q1]; exact hp.2.1⟩, by rw [q2, List.append_nil], q3, q4⟩
  rw [q5 x hp.1, strSizeOf_eq hn hneg]
/-- Integer.getChars -/
theorem own_gcBk (hZ : Z.Warmed39 s.vm) (wc : (Cond.code GetChars.gcN GetChars.gcB 7 (some .int)).before a0 Z = true) (wf1 : (Cond.fieldLink INT 83 INT "DigitOnes" "[B").before a0 Z = true) (wf2 : (Cond.fieldLink INT 87 INT "DigitTens" "[B").before a0 Z = true) (wz : (Cond.initialized INT).before a0 Z = true)
    (wl1 : (Cond.laysStatic INT "DigitOnes" "[B").before a0 Z = true) (wl2 : (Cond.laysStatic INT "DigitTens" "[B").before a0 Z = true) {d1 d2 t : Addr} {k1 k2 k : ClassId} {N : Int32} {cap idx nn : Nat} {f : Nat → Int32} {x : Int32}
    (S1 : Sta Z h INT "DigitOnes" "[B" (.ref d1)) (S2 : Sta Z h INT "DigitTens" "[B" (.ref d2)) (V1 : Arv Z h d1 k1 .byte (Int32.ofNat 100) (own_F 100 fun r => Int32.ofNat (48 + r % 10)) (.int 0)) (V2 : Arv Z h d2 k2 .byte (Int32.ofNat 100) (own_F 100 fun r => Int32.ofNat (48 + r / 10)) (.int 0))
    (V : Arv Z h t k .byte N (own_F cap f) (.int 0)) (hN : N = Int32.ofNat cap) (hcap : cap < 2147483648) (hn : nn ≤ 2 ^ 31) (hneg : (if x < 0 then x else -x) = negI nn) (hidx : idx ≤ cap) (hsz : SBG.digits nn + GetChars.sgn x ≤ idx) (ht1 : t ≠ d1) (ht2 : t ≠ d2) (ge : n0 ≤ t)
    (hfr : 2 ≤ R.frames) (hlo : W + 78 ≤ R.locals) :
    own_Bk l R p e below s args GetChars.gcN 3 W #[.int x, .int (Int32.ofNat idx), .ref t] h 0 0 (fun v h' L => (∃ z, v = some (.int z)) ∧ Fr n0 L ∧ Keep h h' [t] ∧ Arv Z h' t k .byte N (own_F cap fun q => if idx - (SBG.digits nn + GetChars.sgn x) ≤ q ∧ q < idx then own_dg nn x (q - (idx - (SBG.digits nn + GetChars.sgn x))) else f q) (.int 0)) := by
  intro m meth c P g ig mk a X hg hsize hdg hW hnm hp'
  obtain ⟨rfl, hh, r1, r2⟩ := hp'
  have al : Z.vm.Alike P.U.vm := hZ.alike.trans X.warmed.alike
  obtain ⟨D1, A1, -, z1, -, H1, -⟩ := V1
  obtain ⟨D2, A2, -, z2, -, H2, -⟩ := V2
  obtain ⟨C, A, qc, zc, Nn, Hs, Gf⟩ := V
  subst hN
  rw [own_cl _ hcap] at zc
  rw [own_cl 100 (by omega)] at z1 z2
  obtain ⟨cf1, i1, kk1, f1, st1, cell1, a1, a2, a3, a4, a5, a6, a7⟩ := S1
  obtain ⟨cf2, i2, kk2, f2, st2, cell2, b1, b2, b3, b4, b5, b6, b7⟩ := S2
  obtain ⟨c1, y1, j1, g1, e1, ce1, u1, u2, -⟩ := Cond.laysStatic_spec wl1
  obtain ⟨c2, y2, j2, g2, e2, ce2, v1, v2, -⟩ := Cond.laysStatic_spec wl2
  cases u1.symm.trans v1
  cases a1.symm.trans u2
  cases b1.symm.trans v2
  have hk := State.fieldFound?_class a1
  have hk2 := State.fieldFound?_class b1
  cases hk.symm.trans hk2
  cases a4.symm.trans b4
  have T1 : Tbl P.U "DigitOnes" st1 d1 D1 := by
    obtain ⟨k', w1, w2⟩ := State.fieldFound?_setVm (s := Z) al a1
    have w1' : P.U.fieldFound? INT "DigitOnes" "[B" = some (cf1, k', i1, f1) := w1
    refine ⟨cf1, i1, k', f1, cell1, w1', a2, by rw [w2]; exact a3, by rw [w2]; exact a4, by rw [hh]; exact a5, (fun q => by rw [q] at a6; cases a6), a7, by rw [hh]; exact A1.1, State.isArrayOf_alike al A1.2.1, A1.2.2, z1, fun r hr => ?_⟩
    have q := H1 r (by rw [z1]; exact hr)
    rw [own_F_at hr] at q
    rw [q]
    simp [iAt, Array.getD_eq_getD_getElem?, q]
  have T2 : Tbl P.U "DigitTens" st1 d2 D2 := by
    obtain ⟨k', w1, w2⟩ := State.fieldFound?_setVm (s := Z) al b1
    have w1' : P.U.fieldFound? INT "DigitTens" "[B" = some (cf1, k', i2, f2) := w1
    refine ⟨cf1, i2, k', f2, cell2, w1', b2, by rw [w2]; exact b3, by rw [w2]; exact b4, by rw [hh]; exact b5, (fun q => by rw [q] at b6; cases b6), b7, by rw [hh]; exact A2.1, State.isArrayOf_alike al A2.2.1, A2.2.2, z2, fun r hr => ?_⟩
    have q := H2 r (by rw [z2]; exact hr)
    rw [own_F_at hr] at q
    rw [q]
    simp [iAt, Array.getD_eq_getD_getElem?, q]
  have O1 : Ones D1 := fun r hr => by
    have q := H1 r (by rw [z1]; exact hr)
    rw [own_F_at hr] at q
    simp [iAt, Array.getD_eq_getD_getElem?, q]
  have O2 : Tens D2 := fun r hr => by
    have q := H2 r (by rw [z2]; exact hr)
    rw [own_F_at hr] at q
    simp [iAt, Array.getD_eq_getD_getElem?, q]
  have hst : t ≠ st1 := fun q => by
    subst q
    cases A.1.symm.trans a5
    rw [A.plain] at a6; cases a6
  let gg : GetChars.G := ⟨x, nn, idx, t, C, st1, d1, D1, d2, D2⟩
  have htab : GetChars.tab.before args s = true := by
    simp only [GetChars.tab, Cond.before_and, Bool.and_eq_true]
    exact ⟨mv hZ wc, mv hZ wf1, mv hZ wf2⟩
  obtain ⟨v, B, X', ⟨hv, hout, hc, hs, hsz', hkp, L, hL, hLb⟩, st⟩ := GetChars.pays gg W htab (mv hZ wz) hfr hlo m meth c P g ig mk _ X hg hsize hdg hW hnm
    ⟨rfl, by omega, by omega, rfl, by show P.U.heap[t]? = _; rw [hh]; exact A.1, State.isArrayOf_alike al A.2.1, A.2.2, by show C.slots.size < 2 ^ 31; rw [zc]; exact hcap, by show idx ≤ C.slots.size; rw [zc]; exact hidx, hsz, hn, hneg, T1, T2, hst, ht1, ht2⟩
  obtain ⟨o1, o2, o3⟩ := outCell_at gg O1 O2 hn hsz (by show idx ≤ C.slots.size; rw [zc]; exact hidx)
  have osz : (GetChars.outCell gg).slots.size = cap := by
    have q := digLoop_facts D1 D2 5 C nn idx
    show (if x < 0 then put (digLoop D1 D2 5 C nn idx).1 ((digLoop D1 D2 5 C nn idx).2 - 1) 45 else (digLoop D1 D2 5 C nn idx).1).slots.size = cap
    split
    · rw [(put_facts _ _ _).2.2, q.2.2.1, zc]
    · rw [q.2.2.1, zc]
  have ocl : (GetChars.outCell gg).cls = C.cls ∧ (GetChars.outCell gg).vm = C.vm := by
    have q := digLoop_facts D1 D2 5 C nn idx
    show (if x < 0 then put (digLoop D1 D2 5 C nn idx).1 ((digLoop D1 D2 5 C nn idx).2 - 1) 45 else (digLoop D1 D2 5 C nn idx).1).cls = C.cls ∧ (if x < 0 then put (digLoop D1 D2 5 C nn idx).1 ((digLoop D1 D2 5 C nn idx).2 - 1) 45 else (digLoop D1 D2 5 C nn idx).1).vm = C.vm
    split
    · exact ⟨((put_facts _ _ _).1).trans q.1, ((put_facts _ _ _).2.1).trans q.2.1⟩
    · exact ⟨q.1, q.2.1⟩
  have hdp := SBG.digits_pos nn
  have sg : GetChars.sgn x = if x < 0 then 1 else 0 := rfl
  have all : ∀ j, j < cap → (GetChars.outCell gg).slots[j]? = some (.int (if idx - (SBG.digits nn + GetChars.sgn x) ≤ j ∧ j < idx then own_dg nn x (j - (idx - (SBG.digits nn + GetChars.sgn x))) else f j)) := fun j hj => by
    by_cases hin : idx - (SBG.digits nn + GetChars.sgn x) ≤ j ∧ j < idx
    · rw [if_pos hin]
      unfold own_dg
      by_cases hneg0 : j - (idx - (SBG.digits nn + GetChars.sgn x)) = 0 ∧ x < 0
      · rw [if_pos hneg0]
        have q := o2 hneg0.2
        rw [if_pos hneg0.2] at sg
        have e1 : j = idx - SBG.digits nn - 1 := by have := hneg0.1; omega
        rw [e1]; exact q
      · rw [if_neg hneg0]
        by_cases hx : x < 0
        · rw [if_pos hx] at sg
          have hj0 : j - (idx - (SBG.digits nn + GetChars.sgn x)) ≠ 0 := fun q => hneg0 ⟨q, hx⟩
          have q := o1 (idx - 1 - j) (by show idx - 1 - j < SBG.digits nn; omega)
          have e1 : gg.idx - 1 - (idx - 1 - j) = j := by show idx - 1 - (idx - 1 - j) = j; omega
          rw [e1] at q
          rw [q]
          have e2 : SBG.digits nn + GetChars.sgn x - 1 - (j - (idx - (SBG.digits nn + GetChars.sgn x))) = idx - 1 - j := by omega
          rw [e2]
        · rw [if_neg hx] at sg
          have q := o1 (idx - 1 - j) (by show idx - 1 - j < SBG.digits nn; omega)
          have e1 : gg.idx - 1 - (idx - 1 - j) = j := by show idx - 1 - (idx - 1 - j) = j; omega
          rw [e1] at q
          rw [q]
          have e2 : SBG.digits nn + GetChars.sgn x - 1 - (j - (idx - (SBG.digits nn + GetChars.sgn x))) = idx - 1 - j := by omega
          rw [e2]
    · rw [if_neg hin, o3 j (by show j < idx - (SBG.digits nn + GetChars.sgn x) ∨ idx ≤ j; omega)]
      have q := Hs j (by rw [zc]; exact hj)
      rw [own_F_at hj] at q
      exact q
  refine ⟨v, B, X', ⟨L, ⟨⟨_, hv⟩, fun w hw => by rw [hLb w hw]; exact ge, ⟨?_, ?_, ?_⟩, ?_⟩, hL, hc, hs⟩, st⟩
  · rw [hsz', hh]; exact Nat.le_refl _
  · intro y cy hy hne
    exact hkp y cy (fun q => hne (by rw [q]; exact List.mem_singleton.mpr rfl)) (by rw [hh]; exact hy)
  · intro y cy hy
    by_cases q : y = t
    · subst q
      cases A.1.symm.trans hy
      exact ⟨_, hout, ocl.1, ocl.2, by rw [osz, zc]⟩
    · exact ⟨cy, hkp y cy q (by rw [hh]; exact hy), rfl, rfl, rfl⟩
  · refine ⟨GetChars.outCell gg, ⟨hout, ?_, by rw [ocl.2]; exact A.2.2⟩, ocl.1.trans qc, by rw [osz, own_cl _ hcap], Nn, fun j hj => ?_, fun j hj => ?_⟩
    · obtain ⟨w1, w2, w3, w4, w5⟩ := A.2.1
      exact ⟨by rw [ocl.2]; exact w1, w2, by rw [ocl.1]; exact w3, w4, w5⟩
    · rw [osz] at hj
      rw [own_F_at hj]; exact all j hj
    · rw [osz] at hj
      rw [own_F_at hj]
      split
      · exact own_dg_fits _ _ _
      · have q := Gf j (by rw [zc]; exact hj)
        rw [own_F_at hj] at q
        exact q
end OwnJ
end Jvm.RoadKit
namespace Jvm.RoadKit
open Sem ClassFile Op Lib Jvm.Stand Jvm.Free Jvm.LawKit Jvm.Free.SBG
section OwnT
variable {Z : State} {a0 : Array Value}
/-- one of Integer's digit tables, from the sheet's words -/
theorem own_tab {name : String} {rhs : Term} {F : Nat → Nat} (w1 : (Cond.initializedFor INT name "[B").before a0 Z = true) (w2 : (Cond.exactly (Term.static INT name "[B") "[B").before a0 Z = true)
    (w3 : (Cond.eq (.length (.static INT name "[B")) (.int 100)).before a0 Z = true) (wa : (Cond.arrayClass .byte).before a0 Z = true) (w4 : (Cond.all (.static INT name "[B") (.eq (.elem (.static INT name "[B") (.index 0)) rhs)).before a0 Z = true)
    (hrhs : ∀ r, r < 100 → rhs.eval a0 Z none [r] Z = some (.int (Int32.ofNat (F r)))) (hF : ∀ r, r < 100 → fits .byte (.int (Int32.ofNat (F r))) = true) :
    ∃ (d : Addr) (k : ClassId), Sta Z Z.heap INT name "[B" (.ref d) ∧ Arv Z Z.heap d k .byte (Int32.ofNat 100) (own_F 100 fun r => Int32.ofNat (F r)) (.int 0) ∧ d < Z.heap.size := by
  obtain ⟨d, cB, D, kB, hev, hfcB, hcellD, hkB, hstatD, hclsD, -⟩ := Cond.exactly_spec w2
  have hevAll : ∀ idx, (Term.static INT name "[B").eval a0 Z none idx Z = some (.ref d) := fun idx => by
    have : (Term.static INT name "[B").eval a0 Z none idx Z = (Term.static INT name "[B").eval a0 Z none [] Z := by simp only [Term.eval]
    rw [this]; exact hev
  have hl := Cond.eq_int w3 rfl
  obtain ⟨d', D', hev', harrAt, hlen⟩ := Term.length_spec hl
  cases hev.symm.trans hev'
  obtain ⟨hcellD', hknD, -, -⟩ := State.arrayAt?_spec harrAt
  cases hcellD.symm.trans hcellD'
  have h31 := length_lt hev harrAt hl
  have hsz : D.slots.size = 100 := by
    have h2 : Int32.ofNat D.slots.size = Int32.ofNat 100 := (Value.int.inj hlen).symm
    have := congrArg Int32.toInt h2
    rw [Int32.toInt_ofNat_small h31, Int32.toInt_ofNat_small (by omega)] at this; omega
  obtain ⟨cB', kB', comp, hnameB, hkB', hkindB⟩ := Cond.arrayClass_spec wa
  have eBA : ("[" ++ FieldType.toString .byte) = "[B" := by decide
  rw [eBA] at hnameB
  cases hfcB.symm.trans hnameB
  cases hkB.symm.trans hkB'
  have hat : ∀ r, r < 100 → D.slots[r]? = some (.int (Int32.ofNat (F r))) := fun r hr => by
    have q := Cond.all_elim (hevAll []) harrAt (Cond.before_iff.mp w4) r (by omega)
    have eL : (Term.elem (Term.static INT name "[B") (.index 0)).eval a0 Z none [r] Z = D.slots[r]? := elem_at (ix := .index 0) (hevAll [r]) harrAt (by omega) (by omega) rfl
    obtain ⟨x, y, h1, h2, h3, h4⟩ := cmp_v (Or.inl q)
    have e2 : y = .int (Int32.ofNat (F r)) := Option.some.inj (h2.symm.trans (hrhs r hr))
    subst e2
    obtain ⟨w, rfl⟩ := h4
    rw [Cond.eq_ints h1 h2] at q
    have hw : w = Int32.ofNat (F r) := of_decide_eq_true (Option.some.inj q)
    rw [← eL, h1, hw]
  refine ⟨d, D.cls, Sta.start hev (Or.inl w1), ⟨D, ⟨hcellD, ⟨(fun q h => by rw [h] at hstatD; cases hstatD), kB, (by rw [hclsD]; exact hkB), comp, hkindB⟩, hknD⟩, rfl, by rw [hsz]; rfl, by decide, fun j hj => ?_, fun j hj => ?_⟩, (Array.getElem?_eq_some_iff.mp hcellD).1⟩
  · rw [own_F_at (by omega)]; exact hat j (by omega)
  · rw [own_F_at (by omega)]; exact hF j (by omega)
theorem own_onesF : ∀ r, r < 100 → fits .byte (.int (Int32.ofNat (48 + r % 10))) = true := by decide +kernel
theorem own_tensF : ∀ r, r < 100 → fits .byte (.int (Int32.ofNat (48 + r / 10))) = true := by decide +kernel
/-- the two tables -/
theorem own_tabs (w : ∀ d ∈ [Cond.laysStatic INT "DigitOnes" "[B", Cond.initializedFor INT "DigitOnes" "[B", Cond.exactly (Term.static INT "DigitOnes" "[B") "[B", Cond.eq (.length (.static INT "DigitOnes" "[B")) (.int 100),
      Cond.all (.static INT "DigitOnes" "[B") (.eq (.elem (.static INT "DigitOnes" "[B") (.index 0)) (.add (.int 48) (.rem (.index 0) (.int 10)))),
      Cond.laysStatic INT "DigitTens" "[B", Cond.initializedFor INT "DigitTens" "[B", Cond.exactly (Term.static INT "DigitTens" "[B") "[B", Cond.eq (.length (.static INT "DigitTens" "[B")) (.int 100),
      Cond.all (.static INT "DigitTens" "[B") (.eq (.elem (.static INT "DigitTens" "[B") (.index 0)) (.add (.int 48) (.div (.index 0) (.int 10))))], d.before a0 Z = true) (wa : (Cond.arrayClass .byte).before a0 Z = true) :
    ∃ (d1 d2 : Addr) (k1 k2 : ClassId), Sta Z Z.heap INT "DigitOnes" "[B" (.ref d1) ∧ Sta Z Z.heap INT "DigitTens" "[B" (.ref d2) ∧ Arv Z Z.heap d1 k1 .byte (Int32.ofNat 100) (own_F 100 fun r => Int32.ofNat (48 + r % 10)) (.int 0) ∧ Arv Z Z.heap d2 k2 .byte (Int32.ofNat 100) (own_F 100 fun r => Int32.ofNat (48 + r / 10)) (.int 0) ∧
      (Cond.laysStatic INT "DigitOnes" "[B").before a0 Z = true ∧ (Cond.laysStatic INT "DigitTens" "[B").before a0 Z = true ∧ d1 < Z.heap.size ∧ d2 < Z.heap.size := by
  have q := fun i d (hi : _) => w d (List.mem_of_getElem? (i := i) hi)
  obtain ⟨d1, k1, a1, a2, a3⟩ := own_tab (F := fun r => 48 + r % 10) (q 1 _ rfl) (q 2 _ rfl) (q 3 _ rfl) wa (q 4 _ rfl) (fun r hr => by rw [← ones_num r hr]; rfl) own_onesF
  obtain ⟨d2, k2, b1, b2, b3⟩ := own_tab (F := fun r => 48 + r / 10) (q 6 _ rfl) (q 7 _ rfl) (q 8 _ rfl) wa (q 9 _ rfl) (fun r hr => by rw [← tens_num r hr]; rfl) own_tensF
  exact ⟨d1, d2, k1, k2, a1, b1, a2, b2, q 0 _ rfl, q 5 _ rfl, a3, b3⟩
/-- |x| -/
def own_ab (x : Int32) : Nat := x.toInt.natAbs
theorem own_ab_le (x : Int32) : own_ab x ≤ 2 ^ 31 := by
  have h1 := Int32.le_toInt x
  have h2 := Int32.toInt_lt x
  unfold own_ab; omega
theorem own_z32 : (0 : Int32).toInt = 0 := rfl
theorem own_z64 : (0 : Int64).toInt = 0 := rfl
theorem own_ab_neg (x : Int32) : (if x < 0 then x else -x) = negI (own_ab x) := by
  unfold negI own_ab
  by_cases h : x < 0
  · rw [if_pos h]
    rw [Int32.lt_iff_toInt_lt, own_z32] at h
    rw [show (-((x.toInt.natAbs : Nat) : Int)) = x.toInt by omega, Int32.ofInt_toInt]
  · rw [if_neg h]
    rw [Int32.lt_iff_toInt_lt, own_z32] at h
    rw [show (-((x.toInt.natAbs : Nat) : Int)) = -x.toInt by omega, Int32.ofInt_neg, Int32.ofInt_toInt]
theorem own_n64 {n : Nat} (h : n < 9223372036854775808) : (Int64.ofNat n).toInt = n := Int64.toInt_ofNat_of_lt h
theorem own_abJ (x : Int32) : (if x.toInt64 < 0 then -x.toInt64 else x.toInt64) = Int64.ofNat (own_ab x) := by
  have h1 := Int32.le_toInt x
  have h2 := Int32.toInt_lt x
  have e : x.toInt64.toInt = x.toInt := Int32.toInt_toInt64 x
  apply Int64.toInt_inj.mp
  rw [own_n64 (Nat.lt_of_le_of_lt (own_ab_le x) (by decide))]
  unfold own_ab
  by_cases h : x.toInt64 < 0
  · rw [if_pos h]
    rw [Int64.lt_iff_toInt_lt, own_z64, e] at h
    rw [Int64.toInt_neg, e, Int.bmod_eq_of_le (by omega) (by omega)]; omega
  · rw [if_neg h]
    rw [Int64.lt_iff_toInt_lt, own_z64, e] at h
    rw [e]; omega
theorem own_lt64 {n k : Nat} (hn : n < 9223372036854775808) (hk : k < 9223372036854775808) : Int64.ofNat n < Int64.ofNat k ↔ n < k := by
  rw [Int64.lt_iff_toInt_lt, own_n64 hn, own_n64 hk]; omega
theorem own_div64 {n k : Nat} (hn : n < 9223372036854775808) (hk : k < 9223372036854775808) : Int64.ofNat n / Int64.ofNat k = Int64.ofNat (n / k) := by
  have q : n / k ≤ n := Nat.div_le_self n k
  have q0 : (0 : Int) ≤ ((n / k : Nat) : Int) := Int.natCast_nonneg _
  apply Int64.toInt_inj.mp
  rw [Int64.toInt_div, own_n64 hn, own_n64 hk, own_n64 (by omega), ← Int.ofNat_tdiv, Int.bmod_eq_of_le (by omega) (by omega)]
theorem own_mod64 {n k : Nat} (hn : n < 9223372036854775808) (hk : k < 9223372036854775808) : Int64.ofNat n % Int64.ofNat k = Int64.ofNat (n % k) := by
  have q : n % k ≤ n := Nat.mod_le n k
  apply Int64.toInt_inj.mp
  rw [Int64.toInt_mod, own_n64 hn, own_n64 hk, own_n64 (by omega), ← Int.ofNat_tmod]
theorem own_pow_lt : ∀ e, e ≤ 9 → 10 ^ e < 9223372036854775808 := by decide
theorem own_pow_nz : ∀ e, e ≤ 9 → ¬ Int64.ofNat (10 ^ e) = 0 := by decide +kernel
/-- a decimal digit's char, as the law makes it -/
theorem own_digC : ∀ d, d < 10 → nar .char (((48 : Int32) + (Int64.ofNat d).toInt32).toUInt32.toUInt16.toUInt32.toInt32) = Int32.ofNat (48 + d) := by decide +kernel
/-- a Latin-1 char, as String.charAt reads it -/
def own_c8 (v : Int32) : Int32 := nar .char ((v &&& (255 : Int32)).toUInt32.toUInt16.toUInt32.toInt32)
theorem own_c8_dig : ∀ d, d < 10 → own_c8 (Int32.ofNat (48 + d)) = Int32.ofNat (48 + d) := by decide +kernel
theorem own_ch_dig : ∀ d, d < 10 → nar .char (Int32.ofNat (48 + d)) = Int32.ofNat (48 + d) := by decide +kernel
theorem own_c8_dg (n : Nat) (x : Int32) (j : Nat) : own_c8 (own_dg n x j) = own_dg n x j := by
  unfold own_dg
  split
  · decide
  · exact own_c8_dig _ (Nat.mod_lt _ (by omega))
theorem own_ch_dg (n : Nat) (x : Int32) (j : Nat) : nar .char (own_dg n x j) = own_dg n x j := by
  unfold own_dg
  split
  · decide
  · exact own_ch_dig _ (Nat.mod_lt _ (by omega))
/-- the length of the decimal form -/
def own_sz (x : Int32) : Nat := SBG.digits (own_ab x) + GetChars.sgn x
theorem own_sz_le (x : Int32) : own_sz x ≤ 11 := by
  have := SBG.digits_pos (own_ab x)
  unfold own_sz GetChars.sgn
  split <;> omega
theorem own_sz_pos (x : Int32) : 1 ≤ own_sz x := by
  have := SBG.digits_pos (own_ab x)
  unfold own_sz; omega
theorem own_n32 {n : Nat} (h : n < 2147483648) : (Int32.ofNat n).toInt = n := toInt_of rfl h
theorem own_andN (x m : Int32) (b : Nat) (hm : m = Int32.ofNat (2 ^ b - 1)) (hb : b < 32) : ∃ k, k < 2 ^ b ∧ x &&& m = Int32.ofNat k := by
  refine ⟨x.toBitVec.toNat % 2 ^ b, Nat.mod_lt _ (Nat.two_pow_pos b), ?_⟩
  subst hm
  have q1 : 2 ^ b ≤ 2 ^ 31 := Nat.pow_le_pow_right (by decide) (by omega)
  have q2 : x.toBitVec.toNat % 2 ^ b < 2 ^ b := Nat.mod_lt _ (Nat.two_pow_pos b)
  apply Int32.toBitVec_inj.mp
  apply BitVec.eq_of_toNat_eq
  rw [Int32.toBitVec_and, BitVec.toNat_and]
  show x.toBitVec.toNat &&& (BitVec.ofNat 32 (2 ^ b - 1)).toNat = (BitVec.ofNat 32 (x.toBitVec.toNat % 2 ^ b)).toNat
  rw [BitVec.toNat_ofNat, BitVec.toNat_ofNat, Nat.mod_eq_of_lt (by omega), Nat.mod_eq_of_lt (by omega), Nat.and_two_pow_sub_one_eq_mod]
theorem own_mod32 {a n : Nat} (ha : a < 2147483648) (hn : n < 2147483648) : Int32.ofNat a % Int32.ofNat n = Int32.ofNat (a % n) := by
  have q : a % n ≤ a := Nat.mod_le a n
  apply Int32.toInt_inj.mp
  rw [Int32.toInt_mod, own_n32 ha, own_n32 hn, own_n32 (by omega), ← Int.ofNat_tmod]
theorem own_idx (k : Int32) (n : Nat) (h1 : 0 < n) (h2 : n < 2147483648) : ∃ i, i < n ∧ (k &&& (2147483647 : Int32)) % (Int32.ofNat n) = Int32.ofNat i := by
  obtain ⟨a, ha, e⟩ := own_andN k 2147483647 31 rfl (by decide)
  exact ⟨a % n, Nat.mod_lt _ h1, by rw [e, own_mod32 ha h2]⟩
theorem own_nar_char (v : Int32) : nar .char (nar .char v) = nar .char v := by
  apply Int32.toBitVec_inj.mp
  apply BitVec.eq_of_toNat_eq
  simp [nar]
theorem own_c8_idem (v : Int32) : nar .char (own_c8 v) = own_c8 v := own_nar_char _
end OwnT
end Jvm.RoadKit
namespace Jvm.Pilot.@@N@@
open Jvm Jvm.ClassFile Sem Op Lib Jvm.Free Jvm.Stand Jvm.LawKit Jvm.RoadKit Bundle Jvm.Pilot.@@N@@.Jvm.D
theorem d1_0 : decode method_2_code 0 = .ok (.iload_n 0, 1) := by decide +kernel
theorem d1_1 : decode method_2_code 1 = .ok (.iconst 3, 1) := by decide +kernel
theorem d1_2 : decode method_2_code 2 = .ok (.iand, 1) := by decide +kernel
theorem d1_3 : decode method_2_code 3 = .ok (.istore_n 1, 1) := by decide +kernel
theorem d1_4 : decode method_2_code 4 = .ok (.iload_n 1, 1) := by decide +kernel
theorem d1_5 : decode method_2_code 5 = .ok (.ifCond .ne 6, 3) := by decide +kernel
theorem d1_8 : decode method_2_code 8 = .ok (.bipush 32, 2) := by decide +kernel
theorem d1_10 : decode method_2_code 10 = .ok (.ireturn, 1) := by decide +kernel
theorem d1_11 : decode method_2_code 11 = .ok (.iload_n 1, 1) := by decide +kernel
theorem d1_12 : decode method_2_code 12 = .ok (.iconst 1, 1) := by decide +kernel
theorem d1_13 : decode method_2_code 13 = .ok (.if_icmp .ne 6, 3) := by decide +kernel
theorem d1_16 : decode method_2_code 16 = .ok (.bipush 9, 2) := by decide +kernel
theorem d1_18 : decode method_2_code 18 = .ok (.ireturn, 1) := by decide +kernel
theorem d1_19 : decode method_2_code 19 = .ok (.iload_n 0, 1) := by decide +kernel
theorem d1_20 : decode method_2_code 20 = .ok (.iconst 2, 1) := by decide +kernel
theorem d1_21 : decode method_2_code 21 = .ok (.iushr, 1) := by decide +kernel
theorem d1_22 : decode method_2_code 22 = .ok (.sipush 255, 3) := by decide +kernel
theorem d1_25 : decode method_2_code 25 = .ok (.iand, 1) := by decide +kernel
theorem d1_26 : decode method_2_code 26 = .ok (.i2c, 1) := by decide +kernel
theorem d1_27 : decode method_2_code 27 = .ok (.ireturn, 1) := by decide +kernel
theorem d2_0 : decode jdk_42_method_3_code 0 = .ok (.aload_n 0, 1) := by decide +kernel
theorem d2_1 : decode jdk_42_method_3_code 1 = .ok (.aload_n 1, 1) := by decide +kernel
theorem d2_2 : decode jdk_42_method_3_code 2 = .ok (.iconst 0, 1) := by decide +kernel
theorem d2_3 : decode jdk_42_method_3_code 3 = .ok (.aload_n 1, 1) := by decide +kernel
theorem d2_4 : decode jdk_42_method_3_code 4 = .ok (.arraylength, 1) := by decide +kernel
theorem d2_5 : decode jdk_42_method_3_code 5 = .ok (.aconst_null, 1) := by decide +kernel
theorem d2_6 : decode jdk_42_method_3_code 6 = .ok (.invokespecial 27, 3) := by decide +kernel
theorem d2_9 : decode jdk_42_method_3_code 9 = .ok (.return_, 1) := by decide +kernel
theorem d3_0 : decode jdk_42_method_149_code 0 = .ok (.aload_n 0, 1) := by decide +kernel
theorem d3_1 : decode jdk_42_method_149_code 1 = .ok (.invokespecial 1, 3) := by decide +kernel
theorem d3_4 : decode jdk_42_method_149_code 4 = .ok (.iload_n 3, 1) := by decide +kernel
theorem d3_5 : decode jdk_42_method_149_code 5 = .ok (.ifCond .ne 22, 3) := by decide +kernel
theorem d3_8 : decode jdk_42_method_149_code 8 = .ok (.aload_n 0, 1) := by decide +kernel
theorem d3_9 : decode jdk_42_method_149_code 9 = .ok (.ldc 7, 2) := by decide +kernel
theorem d3_11 : decode jdk_42_method_149_code 11 = .ok (.getfield 9, 3) := by decide +kernel
theorem d3_14 : decode jdk_42_method_149_code 14 = .ok (.putfield 9, 3) := by decide +kernel
theorem d3_17 : decode jdk_42_method_149_code 17 = .ok (.aload_n 0, 1) := by decide +kernel
theorem d3_18 : decode jdk_42_method_149_code 18 = .ok (.ldc 7, 2) := by decide +kernel
theorem d3_20 : decode jdk_42_method_149_code 20 = .ok (.getfield 15, 3) := by decide +kernel
theorem d3_23 : decode jdk_42_method_149_code 23 = .ok (.putfield 15, 3) := by decide +kernel
theorem d3_26 : decode jdk_42_method_149_code 26 = .ok (.return_, 1) := by decide +kernel
theorem d3_27 : decode jdk_42_method_149_code 27 = .ok (.getstatic 38, 3) := by decide +kernel
theorem d3_30 : decode jdk_42_method_149_code 30 = .ok (.ifCond .eq 28, 3) := by decide +kernel
theorem d3_33 : decode jdk_42_method_149_code 33 = .ok (.aload_n 1, 1) := by decide +kernel
theorem d3_34 : decode jdk_42_method_149_code 34 = .ok (.iload_n 2, 1) := by decide +kernel
theorem d3_35 : decode jdk_42_method_149_code 35 = .ok (.iload_n 3, 1) := by decide +kernel
theorem d3_36 : decode jdk_42_method_149_code 36 = .ok (.invokestatic 177, 3) := by decide +kernel
theorem d3_39 : decode jdk_42_method_149_code 39 = .ok (.astore 5, 2) := by decide +kernel
theorem d3_41 : decode jdk_42_method_149_code 41 = .ok (.aload_n 0, 1) := by decide +kernel
theorem d3_42 : decode jdk_42_method_149_code 42 = .ok (.aload 5, 2) := by decide +kernel
theorem d3_44 : decode jdk_42_method_149_code 44 = .ok (.iload_n 3, 1) := by decide +kernel
theorem d3_45 : decode jdk_42_method_149_code 45 = .ok (.invokestatic 47, 3) := by decide +kernel
theorem d3_48 : decode jdk_42_method_149_code 48 = .ok (.putfield 15, 3) := by decide +kernel
theorem d3_51 : decode jdk_42_method_149_code 51 = .ok (.aload_n 0, 1) := by decide +kernel
theorem d3_52 : decode jdk_42_method_149_code 52 = .ok (.aload 5, 2) := by decide +kernel
theorem d3_54 : decode jdk_42_method_149_code 54 = .ok (.putfield 9, 3) := by decide +kernel
theorem d3_57 : decode jdk_42_method_149_code 57 = .ok (.return_, 1) := by decide +kernel
theorem d5_0 : decode prog_8_method_2_code 0 = .ok (.iconst 0, 1) := by decide +kernel
theorem d5_1 : decode prog_8_method_2_code 1 = .ok (.istore_n 1, 1) := by decide +kernel
theorem d5_2 : decode prog_8_method_2_code 2 = .ok (.aload_n 0, 1) := by decide +kernel
theorem d5_3 : decode prog_8_method_2_code 3 = .ok (.invokevirtual 7, 3) := by decide +kernel
theorem d5_6 : decode prog_8_method_2_code 6 = .ok (.istore_n 2, 1) := by decide +kernel
theorem d5_7 : decode prog_8_method_2_code 7 = .ok (.iload_n 1, 1) := by decide +kernel
theorem d5_8 : decode prog_8_method_2_code 8 = .ok (.iload_n 2, 1) := by decide +kernel
theorem d5_9 : decode prog_8_method_2_code 9 = .ok (.if_icmp .ge 20, 3) := by decide +kernel
theorem d5_12 : decode prog_8_method_2_code 12 = .ok (.aload_n 0, 1) := by decide +kernel
theorem d5_13 : decode prog_8_method_2_code 13 = .ok (.iload_n 1, 1) := by decide +kernel
theorem d5_14 : decode prog_8_method_2_code 14 = .ok (.invokevirtual 13, 3) := by decide +kernel
theorem d5_17 : decode prog_8_method_2_code 17 = .ok (.invokestatic 17, 3) := by decide +kernel
theorem d5_20 : decode prog_8_method_2_code 20 = .ok (.ifCond .eq 9, 3) := by decide +kernel
theorem d5_23 : decode prog_8_method_2_code 23 = .ok (.iinc 1 1, 3) := by decide +kernel
theorem d5_26 : decode prog_8_method_2_code 26 = .ok (.goto (-19), 3) := by decide +kernel
theorem d5_29 : decode prog_8_method_2_code 29 = .ok (.iload_n 2, 1) := by decide +kernel
theorem d5_30 : decode prog_8_method_2_code 30 = .ok (.iload_n 1, 1) := by decide +kernel
theorem d5_31 : decode prog_8_method_2_code 31 = .ok (.if_icmp .le 22, 3) := by decide +kernel
theorem d5_34 : decode prog_8_method_2_code 34 = .ok (.aload_n 0, 1) := by decide +kernel
theorem d5_35 : decode prog_8_method_2_code 35 = .ok (.iload_n 2, 1) := by decide +kernel
theorem d5_36 : decode prog_8_method_2_code 36 = .ok (.iconst 1, 1) := by decide +kernel
theorem d5_37 : decode prog_8_method_2_code 37 = .ok (.isub, 1) := by decide +kernel
theorem d5_38 : decode prog_8_method_2_code 38 = .ok (.invokevirtual 13, 3) := by decide +kernel
theorem d5_41 : decode prog_8_method_2_code 41 = .ok (.invokestatic 17, 3) := by decide +kernel
theorem d5_44 : decode prog_8_method_2_code 44 = .ok (.ifCond .eq 9, 3) := by decide +kernel
theorem d5_47 : decode prog_8_method_2_code 47 = .ok (.iinc 2 (-1), 3) := by decide +kernel
theorem d5_50 : decode prog_8_method_2_code 50 = .ok (.goto (-21), 3) := by decide +kernel
theorem d5_53 : decode prog_8_method_2_code 53 = .ok (.aload_n 0, 1) := by decide +kernel
theorem d5_54 : decode prog_8_method_2_code 54 = .ok (.iload_n 1, 1) := by decide +kernel
theorem d5_55 : decode prog_8_method_2_code 55 = .ok (.iload_n 2, 1) := by decide +kernel
theorem d5_56 : decode prog_8_method_2_code 56 = .ok (.invokevirtual 23, 3) := by decide +kernel
theorem d5_59 : decode prog_8_method_2_code 59 = .ok (.areturn, 1) := by decide +kernel
theorem d6_0 : decode jdk_42_method_54_code 0 = .ok (.aload_n 0, 1) := by decide +kernel
theorem d6_1 : decode jdk_42_method_54_code 1 = .ok (.getfield 9, 3) := by decide +kernel
theorem d6_4 : decode jdk_42_method_54_code 4 = .ok (.arraylength, 1) := by decide +kernel
theorem d6_5 : decode jdk_42_method_54_code 5 = .ok (.aload_n 0, 1) := by decide +kernel
theorem d6_6 : decode jdk_42_method_54_code 6 = .ok (.invokevirtual 335, 3) := by decide +kernel
theorem d6_9 : decode jdk_42_method_54_code 9 = .ok (.ishr, 1) := by decide +kernel
theorem d6_10 : decode jdk_42_method_54_code 10 = .ok (.ireturn, 1) := by decide +kernel
theorem d7_0 : decode jdk_42_method_152_code 0 = .ok (.getstatic 38, 3) := by decide +kernel
theorem d7_3 : decode jdk_42_method_152_code 3 = .ok (.ifCond .eq 10, 3) := by decide +kernel
theorem d7_6 : decode jdk_42_method_152_code 6 = .ok (.aload_n 0, 1) := by decide +kernel
theorem d7_7 : decode jdk_42_method_152_code 7 = .ok (.getfield 15, 3) := by decide +kernel
theorem d7_10 : decode jdk_42_method_152_code 10 = .ok (.goto 4, 3) := by decide +kernel
theorem d7_14 : decode jdk_42_method_152_code 14 = .ok (.ireturn, 1) := by decide +kernel
theorem d8_0 : decode jdk_42_method_92_code 0 = .ok (.aload_n 0, 1) := by decide +kernel
theorem d8_1 : decode jdk_42_method_92_code 1 = .ok (.invokevirtual 505, 3) := by decide +kernel
theorem d8_4 : decode jdk_42_method_92_code 4 = .ok (.istore_n 3, 1) := by decide +kernel
theorem d8_5 : decode jdk_42_method_92_code 5 = .ok (.iload_n 1, 1) := by decide +kernel
theorem d8_6 : decode jdk_42_method_92_code 6 = .ok (.iload_n 2, 1) := by decide +kernel
theorem d8_7 : decode jdk_42_method_92_code 7 = .ok (.iload_n 3, 1) := by decide +kernel
theorem d8_8 : decode jdk_42_method_92_code 8 = .ok (.invokestatic 521, 3) := by decide +kernel
theorem d8_11 : decode jdk_42_method_92_code 11 = .ok (.iload_n 1, 1) := by decide +kernel
theorem d8_12 : decode jdk_42_method_92_code 12 = .ok (.ifCond .ne 10, 3) := by decide +kernel
theorem d8_15 : decode jdk_42_method_92_code 15 = .ok (.iload_n 2, 1) := by decide +kernel
theorem d8_16 : decode jdk_42_method_92_code 16 = .ok (.iload_n 3, 1) := by decide +kernel
theorem d8_17 : decode jdk_42_method_92_code 17 = .ok (.if_icmp .ne 5, 3) := by decide +kernel
theorem d8_20 : decode jdk_42_method_92_code 20 = .ok (.aload_n 0, 1) := by decide +kernel
theorem d8_21 : decode jdk_42_method_92_code 21 = .ok (.areturn, 1) := by decide +kernel
theorem d8_22 : decode jdk_42_method_92_code 22 = .ok (.iload_n 2, 1) := by decide +kernel
theorem d8_23 : decode jdk_42_method_92_code 23 = .ok (.iload_n 1, 1) := by decide +kernel
theorem d8_24 : decode jdk_42_method_92_code 24 = .ok (.isub, 1) := by decide +kernel
theorem d8_25 : decode jdk_42_method_92_code 25 = .ok (.istore 4, 2) := by decide +kernel
theorem d8_27 : decode jdk_42_method_92_code 27 = .ok (.aload_n 0, 1) := by decide +kernel
theorem d8_28 : decode jdk_42_method_92_code 28 = .ok (.invokevirtual 492, 3) := by decide +kernel
theorem d8_31 : decode jdk_42_method_92_code 31 = .ok (.ifCond .eq 16, 3) := by decide +kernel
theorem d8_34 : decode jdk_42_method_92_code 34 = .ok (.aload_n 0, 1) := by decide +kernel
theorem d8_35 : decode jdk_42_method_92_code 35 = .ok (.getfield 9, 3) := by decide +kernel
theorem d8_38 : decode jdk_42_method_92_code 38 = .ok (.iload_n 1, 1) := by decide +kernel
theorem d8_39 : decode jdk_42_method_92_code 39 = .ok (.iload 4, 2) := by decide +kernel
theorem d8_41 : decode jdk_42_method_92_code 41 = .ok (.invokestatic 685, 3) := by decide +kernel
theorem d8_44 : decode jdk_42_method_92_code 44 = .ok (.goto 13, 3) := by decide +kernel
theorem d8_57 : decode jdk_42_method_92_code 57 = .ok (.areturn, 1) := by decide +kernel
theorem d9_0 : decode jdk_42_method_158_code 0 = .ok (.iload_n 0, 1) := by decide +kernel
theorem d9_1 : decode jdk_42_method_158_code 1 = .ok (.iload_n 1, 1) := by decide +kernel
theorem d9_2 : decode jdk_42_method_158_code 2 = .ok (.iload_n 2, 1) := by decide +kernel
theorem d9_3 : decode jdk_42_method_158_code 3 = .ok (.getstatic 1053, 3) := by decide +kernel
theorem d9_6 : decode jdk_42_method_158_code 6 = .ok (.invokestatic 1062, 3) := by decide +kernel
theorem d9_9 : decode jdk_42_method_158_code 9 = .ok (.pop, 1) := by decide +kernel
theorem d9_10 : decode jdk_42_method_158_code 10 = .ok (.return_, 1) := by decide +kernel
theorem d10_0 : decode jdk_41_method_12_code 0 = .ok (.iload_n 0, 1) := by decide +kernel
theorem d10_1 : decode jdk_41_method_12_code 1 = .ok (.ifCond .lt 13, 3) := by decide +kernel
theorem d10_4 : decode jdk_41_method_12_code 4 = .ok (.iload_n 0, 1) := by decide +kernel
theorem d10_5 : decode jdk_41_method_12_code 5 = .ok (.iload_n 1, 1) := by decide +kernel
theorem d10_6 : decode jdk_41_method_12_code 6 = .ok (.if_icmp .gt 8, 3) := by decide +kernel
theorem d10_9 : decode jdk_41_method_12_code 9 = .ok (.iload_n 1, 1) := by decide +kernel
theorem d10_10 : decode jdk_41_method_12_code 10 = .ok (.iload_n 2, 1) := by decide +kernel
theorem d10_11 : decode jdk_41_method_12_code 11 = .ok (.if_icmp .le 11, 3) := by decide +kernel
theorem d10_22 : decode jdk_41_method_12_code 22 = .ok (.iload_n 0, 1) := by decide +kernel
theorem d10_23 : decode jdk_41_method_12_code 23 = .ok (.ireturn, 1) := by decide +kernel
theorem d11_0 : decode method_4_code 0 = .ok (.iload_n 1, 1) := by decide +kernel
theorem d11_1 : decode method_4_code 1 = .ok (.iload_n 2, 1) := by decide +kernel
theorem d11_2 : decode method_4_code 2 = .ok (.if_icmp .ge 17, 3) := by decide +kernel
theorem d11_5 : decode method_4_code 5 = .ok (.aload_n 0, 1) := by decide +kernel
theorem d11_6 : decode method_4_code 6 = .ok (.iload_n 1, 1) := by decide +kernel
theorem d11_7 : decode method_4_code 7 = .ok (.invokevirtual 7, 3) := by decide +kernel
theorem d11_10 : decode method_4_code 10 = .ok (.aload_n 3, 1) := by decide +kernel
theorem d11_11 : decode method_4_code 11 = .ok (.iload 4, 2) := by decide +kernel
theorem d11_13 : decode method_4_code 13 = .ok (.iload_n 1, 1) := by decide +kernel
theorem d11_14 : decode method_4_code 14 = .ok (.iadd, 1) := by decide +kernel
theorem d11_15 : decode method_4_code 15 = .ok (.caload, 1) := by decide +kernel
theorem d11_16 : decode method_4_code 16 = .ok (.if_icmp .ne 7, 3) := by decide +kernel
theorem d11_19 : decode method_4_code 19 = .ok (.iconst 1, 1) := by decide +kernel
theorem d11_20 : decode method_4_code 20 = .ok (.goto 4, 3) := by decide +kernel
theorem d11_24 : decode method_4_code 24 = .ok (.ireturn, 1) := by decide +kernel
theorem d12_0 : decode jdk_52_method_16_code 0 = .ok (.iload_n 2, 1) := by decide +kernel
theorem d12_1 : decode jdk_52_method_16_code 1 = .ok (.newarray .byte, 2) := by decide +kernel
theorem d12_3 : decode jdk_52_method_16_code 3 = .ok (.astore_n 3, 1) := by decide +kernel
theorem d12_4 : decode jdk_52_method_16_code 4 = .ok (.aload_n 0, 1) := by decide +kernel
theorem d12_5 : decode jdk_52_method_16_code 5 = .ok (.iload_n 1, 1) := by decide +kernel
theorem d12_6 : decode jdk_52_method_16_code 6 = .ok (.aload_n 3, 1) := by decide +kernel
theorem d12_7 : decode jdk_52_method_16_code 7 = .ok (.iconst 0, 1) := by decide +kernel
theorem d12_8 : decode jdk_52_method_16_code 8 = .ok (.iload_n 2, 1) := by decide +kernel
theorem d12_9 : decode jdk_52_method_16_code 9 = .ok (.invokestatic 115, 3) := by decide +kernel
theorem d12_12 : decode jdk_52_method_16_code 12 = .ok (.istore 4, 2) := by decide +kernel
theorem d12_14 : decode jdk_52_method_16_code 14 = .ok (.iload 4, 2) := by decide +kernel
theorem d12_16 : decode jdk_52_method_16_code 16 = .ok (.iload_n 2, 1) := by decide +kernel
theorem d12_17 : decode jdk_52_method_16_code 17 = .ok (.if_icmp .eq 40, 3) := by decide +kernel
theorem d12_57 : decode jdk_52_method_16_code 57 = .ok (.aload_n 3, 1) := by decide +kernel
theorem d12_58 : decode jdk_52_method_16_code 58 = .ok (.areturn, 1) := by decide +kernel
theorem d13_0 : decode jdk_52_method_21_code 0 = .ok (.iconst 0, 1) := by decide +kernel
theorem d13_1 : decode jdk_52_method_21_code 1 = .ok (.istore 5, 2) := by decide +kernel
theorem d13_3 : decode jdk_52_method_21_code 3 = .ok (.iload 5, 2) := by decide +kernel
theorem d13_5 : decode jdk_52_method_21_code 5 = .ok (.iload 4, 2) := by decide +kernel
theorem d13_7 : decode jdk_52_method_21_code 7 = .ok (.if_icmp .ge 37, 3) := by decide +kernel
theorem d13_10 : decode jdk_52_method_21_code 10 = .ok (.aload_n 0, 1) := by decide +kernel
theorem d13_11 : decode jdk_52_method_21_code 11 = .ok (.iload_n 1, 1) := by decide +kernel
theorem d13_12 : decode jdk_52_method_21_code 12 = .ok (.caload, 1) := by decide +kernel
theorem d13_13 : decode jdk_52_method_21_code 13 = .ok (.istore 6, 2) := by decide +kernel
theorem d13_15 : decode jdk_52_method_21_code 15 = .ok (.iload 6, 2) := by decide +kernel
theorem d13_17 : decode jdk_52_method_21_code 17 = .ok (.sipush 255, 3) := by decide +kernel
theorem d13_20 : decode jdk_52_method_21_code 20 = .ok (.if_icmp .le 6, 3) := by decide +kernel
theorem d13_26 : decode jdk_52_method_21_code 26 = .ok (.aload_n 2, 1) := by decide +kernel
theorem d13_27 : decode jdk_52_method_21_code 27 = .ok (.iload_n 3, 1) := by decide +kernel
theorem d13_28 : decode jdk_52_method_21_code 28 = .ok (.iload 6, 2) := by decide +kernel
theorem d13_30 : decode jdk_52_method_21_code 30 = .ok (.i2b, 1) := by decide +kernel
theorem d13_31 : decode jdk_52_method_21_code 31 = .ok (.bastore, 1) := by decide +kernel
theorem d13_32 : decode jdk_52_method_21_code 32 = .ok (.iinc 1 1, 3) := by decide +kernel
theorem d13_35 : decode jdk_52_method_21_code 35 = .ok (.iinc 3 1, 3) := by decide +kernel
theorem d13_38 : decode jdk_52_method_21_code 38 = .ok (.iinc 5 1, 3) := by decide +kernel
theorem d13_41 : decode jdk_52_method_21_code 41 = .ok (.goto (-38), 3) := by decide +kernel
theorem d13_44 : decode jdk_52_method_21_code 44 = .ok (.iload 4, 2) := by decide +kernel
theorem d13_46 : decode jdk_52_method_21_code 46 = .ok (.ireturn, 1) := by decide +kernel
theorem d14_0 : decode jdk_52_method_15_code 0 = .ok (.iload_n 1, 1) := by decide +kernel
theorem d14_1 : decode jdk_52_method_15_code 1 = .ok (.aload_n 0, 1) := by decide +kernel
theorem d14_2 : decode jdk_52_method_15_code 2 = .ok (.arraylength, 1) := by decide +kernel
theorem d14_3 : decode jdk_52_method_15_code 3 = .ok (.isub, 1) := by decide +kernel
theorem d14_4 : decode jdk_52_method_15_code 4 = .ok (.bipush 31, 2) := by decide +kernel
theorem d14_6 : decode jdk_52_method_15_code 6 = .ok (.iushr, 1) := by decide +kernel
theorem d14_7 : decode jdk_52_method_15_code 7 = .ok (.i2b, 1) := by decide +kernel
theorem d14_8 : decode jdk_52_method_15_code 8 = .ok (.ireturn, 1) := by decide +kernel
theorem d15_0 : decode jdk_42_method_56_code 0 = .ok (.aload_n 0, 1) := by decide +kernel
theorem d15_1 : decode jdk_42_method_56_code 1 = .ok (.invokevirtual 492, 3) := by decide +kernel
theorem d15_4 : decode jdk_42_method_56_code 4 = .ok (.ifCond .eq 12, 3) := by decide +kernel
theorem d15_7 : decode jdk_42_method_56_code 7 = .ok (.aload_n 0, 1) := by decide +kernel
theorem d15_8 : decode jdk_42_method_56_code 8 = .ok (.getfield 9, 3) := by decide +kernel
theorem d15_11 : decode jdk_42_method_56_code 11 = .ok (.iload_n 1, 1) := by decide +kernel
theorem d15_12 : decode jdk_42_method_56_code 12 = .ok (.invokestatic 495, 3) := by decide +kernel
theorem d15_15 : decode jdk_42_method_56_code 15 = .ok (.ireturn, 1) := by decide +kernel
theorem d16_0 : decode jdk_42_method_154_code 0 = .ok (.getstatic 38, 3) := by decide +kernel
theorem d16_3 : decode jdk_42_method_154_code 3 = .ok (.ifCond .eq 14, 3) := by decide +kernel
theorem d16_6 : decode jdk_42_method_154_code 6 = .ok (.aload_n 0, 1) := by decide +kernel
theorem d16_7 : decode jdk_42_method_154_code 7 = .ok (.getfield 15, 3) := by decide +kernel
theorem d16_10 : decode jdk_42_method_154_code 10 = .ok (.ifCond .ne 7, 3) := by decide +kernel
theorem d16_13 : decode jdk_42_method_154_code 13 = .ok (.iconst 1, 1) := by decide +kernel
theorem d16_14 : decode jdk_42_method_154_code 14 = .ok (.goto 4, 3) := by decide +kernel
theorem d16_18 : decode jdk_42_method_154_code 18 = .ok (.ireturn, 1) := by decide +kernel
theorem d17_0 : decode jdk_43_method_2_code 0 = .ok (.iload_n 1, 1) := by decide +kernel
theorem d17_1 : decode jdk_43_method_2_code 1 = .ok (.aload_n 0, 1) := by decide +kernel
theorem d17_2 : decode jdk_43_method_2_code 2 = .ok (.arraylength, 1) := by decide +kernel
theorem d17_3 : decode jdk_43_method_2_code 3 = .ok (.invokestatic 9, 3) := by decide +kernel
theorem d17_6 : decode jdk_43_method_2_code 6 = .ok (.aload_n 0, 1) := by decide +kernel
theorem d17_7 : decode jdk_43_method_2_code 7 = .ok (.iload_n 1, 1) := by decide +kernel
theorem d17_8 : decode jdk_43_method_2_code 8 = .ok (.baload, 1) := by decide +kernel
theorem d17_9 : decode jdk_43_method_2_code 9 = .ok (.sipush 255, 3) := by decide +kernel
theorem d17_12 : decode jdk_43_method_2_code 12 = .ok (.iand, 1) := by decide +kernel
theorem d17_13 : decode jdk_43_method_2_code 13 = .ok (.i2c, 1) := by decide +kernel
theorem d17_14 : decode jdk_43_method_2_code 14 = .ok (.ireturn, 1) := by decide +kernel
theorem d18_0 : decode jdk_42_method_155_code 0 = .ok (.iload_n 0, 1) := by decide +kernel
theorem d18_1 : decode jdk_42_method_155_code 1 = .ok (.iload_n 1, 1) := by decide +kernel
theorem d18_2 : decode jdk_42_method_155_code 2 = .ok (.getstatic 1053, 3) := by decide +kernel
theorem d18_5 : decode jdk_42_method_155_code 5 = .ok (.invokestatic 1059, 3) := by decide +kernel
theorem d18_8 : decode jdk_42_method_155_code 8 = .ok (.pop, 1) := by decide +kernel
theorem d18_9 : decode jdk_42_method_155_code 9 = .ok (.return_, 1) := by decide +kernel
theorem d19_0 : decode jdk_41_method_11_code 0 = .ok (.iload_n 0, 1) := by decide +kernel
theorem d19_1 : decode jdk_41_method_11_code 1 = .ok (.ifCond .lt 8, 3) := by decide +kernel
theorem d19_4 : decode jdk_41_method_11_code 4 = .ok (.iload_n 0, 1) := by decide +kernel
theorem d19_5 : decode jdk_41_method_11_code 5 = .ok (.iload_n 1, 1) := by decide +kernel
theorem d19_6 : decode jdk_41_method_11_code 6 = .ok (.if_icmp .lt 10, 3) := by decide +kernel
theorem d19_16 : decode jdk_41_method_11_code 16 = .ok (.iload_n 0, 1) := by decide +kernel
theorem d19_17 : decode jdk_41_method_11_code 17 = .ok (.ireturn, 1) := by decide +kernel
theorem d20_0 : decode prog_8_method_3_code 0 = .ok (.iload_n 0, 1) := by decide +kernel
theorem d20_1 : decode prog_8_method_3_code 1 = .ok (.bipush 32, 2) := by decide +kernel
theorem d20_3 : decode prog_8_method_3_code 3 = .ok (.if_icmp .eq 9, 3) := by decide +kernel
theorem d20_6 : decode prog_8_method_3_code 6 = .ok (.iload_n 0, 1) := by decide +kernel
theorem d20_7 : decode prog_8_method_3_code 7 = .ok (.bipush 9, 2) := by decide +kernel
theorem d20_9 : decode prog_8_method_3_code 9 = .ok (.if_icmp .ne 7, 3) := by decide +kernel
theorem d20_12 : decode prog_8_method_3_code 12 = .ok (.iconst 1, 1) := by decide +kernel
theorem d20_13 : decode prog_8_method_3_code 13 = .ok (.goto 4, 3) := by decide +kernel
theorem d20_16 : decode prog_8_method_3_code 16 = .ok (.iconst 0, 1) := by decide +kernel
theorem d20_17 : decode prog_8_method_3_code 17 = .ok (.ireturn, 1) := by decide +kernel
theorem d21_0 : decode jdk_43_method_47_code 0 = .ok (.iload_n 2, 1) := by decide +kernel
theorem d21_1 : decode jdk_43_method_47_code 1 = .ok (.ifCond .ne 6, 3) := by decide +kernel
theorem d21_4 : decode jdk_43_method_47_code 4 = .ok (.ldc 151, 2) := by decide +kernel
theorem d21_6 : decode jdk_43_method_47_code 6 = .ok (.areturn, 1) := by decide +kernel
theorem d21_7 : decode jdk_43_method_47_code 7 = .ok (.new 1, 3) := by decide +kernel
theorem d21_10 : decode jdk_43_method_47_code 10 = .ok (.dup, 1) := by decide +kernel
theorem d21_11 : decode jdk_43_method_47_code 11 = .ok (.aload_n 0, 1) := by decide +kernel
theorem d21_12 : decode jdk_43_method_47_code 12 = .ok (.iload_n 1, 1) := by decide +kernel
theorem d21_13 : decode jdk_43_method_47_code 13 = .ok (.iload_n 1, 1) := by decide +kernel
theorem d21_14 : decode jdk_43_method_47_code 14 = .ok (.iload_n 2, 1) := by decide +kernel
theorem d21_15 : decode jdk_43_method_47_code 15 = .ok (.iadd, 1) := by decide +kernel
theorem d21_16 : decode jdk_43_method_47_code 16 = .ok (.invokestatic 232, 3) := by decide +kernel
theorem d21_19 : decode jdk_43_method_47_code 19 = .ok (.iconst 0, 1) := by decide +kernel
theorem d21_20 : decode jdk_43_method_47_code 20 = .ok (.invokespecial 112, 3) := by decide +kernel
theorem d21_23 : decode jdk_43_method_47_code 23 = .ok (.areturn, 1) := by decide +kernel
theorem d22_0 : decode jdk_65_method_132_code 0 = .ok (.iload_n 1, 1) := by decide +kernel
theorem d22_1 : decode jdk_65_method_132_code 1 = .ok (.ifCond .ne 9, 3) := by decide +kernel
theorem d22_4 : decode jdk_65_method_132_code 4 = .ok (.iload_n 2, 1) := by decide +kernel
theorem d22_5 : decode jdk_65_method_132_code 5 = .ok (.aload_n 0, 1) := by decide +kernel
theorem d22_6 : decode jdk_65_method_132_code 6 = .ok (.arraylength, 1) := by decide +kernel
theorem d22_7 : decode jdk_65_method_132_code 7 = .ok (.if_icmp .eq 10, 3) := by decide +kernel
theorem d22_10 : decode jdk_65_method_132_code 10 = .ok (.aload_n 0, 1) := by decide +kernel
theorem d22_11 : decode jdk_65_method_132_code 11 = .ok (.iload_n 1, 1) := by decide +kernel
theorem d22_12 : decode jdk_65_method_132_code 12 = .ok (.iload_n 2, 1) := by decide +kernel
theorem d22_13 : decode jdk_65_method_132_code 13 = .ok (.invokestatic 339, 3) := by decide +kernel
theorem d22_16 : decode jdk_65_method_132_code 16 = .ok (.areturn, 1) := by decide +kernel
theorem d23_0 : decode jdk_65_method_133_code 0 = .ok (.iload_n 1, 1) := by decide +kernel
theorem d23_1 : decode jdk_65_method_133_code 1 = .ok (.iload_n 2, 1) := by decide +kernel
theorem d23_2 : decode jdk_65_method_133_code 2 = .ok (.invokestatic 343, 3) := by decide +kernel
theorem d23_5 : decode jdk_65_method_133_code 5 = .ok (.iload_n 2, 1) := by decide +kernel
theorem d23_6 : decode jdk_65_method_133_code 6 = .ok (.iload_n 1, 1) := by decide +kernel
theorem d23_7 : decode jdk_65_method_133_code 7 = .ok (.isub, 1) := by decide +kernel
theorem d23_8 : decode jdk_65_method_133_code 8 = .ok (.istore_n 3, 1) := by decide +kernel
theorem d23_9 : decode jdk_65_method_133_code 9 = .ok (.iload_n 3, 1) := by decide +kernel
theorem d23_10 : decode jdk_65_method_133_code 10 = .ok (.newarray .byte, 2) := by decide +kernel
theorem d23_12 : decode jdk_65_method_133_code 12 = .ok (.astore 4, 2) := by decide +kernel
theorem d23_14 : decode jdk_65_method_133_code 14 = .ok (.aload_n 0, 1) := by decide +kernel
theorem d23_15 : decode jdk_65_method_133_code 15 = .ok (.iload_n 1, 1) := by decide +kernel
theorem d23_16 : decode jdk_65_method_133_code 16 = .ok (.aload 4, 2) := by decide +kernel
theorem d23_18 : decode jdk_65_method_133_code 18 = .ok (.iconst 0, 1) := by decide +kernel
theorem d23_19 : decode jdk_65_method_133_code 19 = .ok (.aload_n 0, 1) := by decide +kernel
theorem d23_20 : decode jdk_65_method_133_code 20 = .ok (.arraylength, 1) := by decide +kernel
theorem d23_21 : decode jdk_65_method_133_code 21 = .ok (.iload_n 1, 1) := by decide +kernel
theorem d23_22 : decode jdk_65_method_133_code 22 = .ok (.isub, 1) := by decide +kernel
theorem d23_23 : decode jdk_65_method_133_code 23 = .ok (.iload_n 3, 1) := by decide +kernel
theorem d23_24 : decode jdk_65_method_133_code 24 = .ok (.invokestatic 304, 3) := by decide +kernel
theorem d23_27 : decode jdk_65_method_133_code 27 = .ok (.invokestatic 150, 3) := by decide +kernel
theorem d23_30 : decode jdk_65_method_133_code 30 = .ok (.aload 4, 2) := by decide +kernel
theorem d23_32 : decode jdk_65_method_133_code 32 = .ok (.areturn, 1) := by decide +kernel
theorem d24_0 : decode jdk_65_method_131_code 0 = .ok (.iload_n 1, 1) := by decide +kernel
theorem d24_1 : decode jdk_65_method_131_code 1 = .ok (.iload_n 0, 1) := by decide +kernel
theorem d24_2 : decode jdk_65_method_131_code 2 = .ok (.if_icmp .ge 35, 3) := by decide +kernel
theorem d24_37 : decode jdk_65_method_131_code 37 = .ok (.return_, 1) := by decide +kernel
theorem d25_0 : decode jdk_29_method_69_code 0 = .ok (.iload_n 0, 1) := by decide +kernel
theorem d25_1 : decode jdk_29_method_69_code 1 = .ok (.iload_n 1, 1) := by decide +kernel
theorem d25_2 : decode jdk_29_method_69_code 2 = .ok (.if_icmp .gt 7, 3) := by decide +kernel
theorem d25_5 : decode jdk_29_method_69_code 5 = .ok (.iload_n 0, 1) := by decide +kernel
theorem d25_6 : decode jdk_29_method_69_code 6 = .ok (.goto 4, 3) := by decide +kernel
theorem d25_9 : decode jdk_29_method_69_code 9 = .ok (.iload_n 1, 1) := by decide +kernel
theorem d25_10 : decode jdk_29_method_69_code 10 = .ok (.ireturn, 1) := by decide +kernel
theorem d26_0 : decode jdk_42_method_151_code 0 = .ok (.aload_n 0, 1) := by decide +kernel
theorem d26_1 : decode jdk_42_method_151_code 1 = .ok (.invokespecial 1, 3) := by decide +kernel
theorem d26_4 : decode jdk_42_method_151_code 4 = .ok (.aload_n 0, 1) := by decide +kernel
theorem d26_5 : decode jdk_42_method_151_code 5 = .ok (.aload_n 1, 1) := by decide +kernel
theorem d26_6 : decode jdk_42_method_151_code 6 = .ok (.putfield 9, 3) := by decide +kernel
theorem d26_9 : decode jdk_42_method_151_code 9 = .ok (.aload_n 0, 1) := by decide +kernel
theorem d26_10 : decode jdk_42_method_151_code 10 = .ok (.iload_n 2, 1) := by decide +kernel
theorem d26_11 : decode jdk_42_method_151_code 11 = .ok (.putfield 15, 3) := by decide +kernel
theorem d26_14 : decode jdk_42_method_151_code 14 = .ok (.return_, 1) := by decide +kernel
theorem d27_0 : decode method_3_code 0 = .ok (.iload_n 0, 1) := by decide +kernel
theorem d27_1 : decode method_3_code 1 = .ok (.bipush 32, 2) := by decide +kernel
theorem d27_3 : decode method_3_code 3 = .ok (.if_icmp .eq 9, 3) := by decide +kernel
theorem d27_6 : decode method_3_code 6 = .ok (.iload_n 0, 1) := by decide +kernel
theorem d27_7 : decode method_3_code 7 = .ok (.bipush 9, 2) := by decide +kernel
theorem d27_9 : decode method_3_code 9 = .ok (.if_icmp .ne 7, 3) := by decide +kernel
theorem d27_12 : decode method_3_code 12 = .ok (.iconst 1, 1) := by decide +kernel
theorem d27_13 : decode method_3_code 13 = .ok (.goto 4, 3) := by decide +kernel
theorem d27_16 : decode method_3_code 16 = .ok (.iconst 0, 1) := by decide +kernel
theorem d27_17 : decode method_3_code 17 = .ok (.ireturn, 1) := by decide +kernel
theorem pd_0 : parseMethodDescriptor "()B" = some ⟨[], some .byte⟩ := by decide +kernel
theorem pd_1 : parseMethodDescriptor "(II)V" = some ⟨[.int, .int], none⟩ := by decide +kernel
theorem pd_2 : parseMethodDescriptor "(II)I" = some ⟨[.int, .int], some .int⟩ := by decide +kernel
theorem pd_3 : parseMethodDescriptor "([BII)[B" = some ⟨[(.array .byte), .int, .int], some (.array .byte)⟩ := by decide +kernel
theorem pd_4 : parseMethodDescriptor "(IILjava/util/function/BiFunction;)I" = some ⟨[.int, .int, (.object "java/util/function/BiFunction")], some .int⟩ := by decide +kernel
theorem pd_5 : parseMethodDescriptor "()Z" = some ⟨[], some .boolean⟩ := by decide +kernel
theorem pd_6 : parseMethodDescriptor "([BI)C" = some ⟨[(.array .byte), .int], some .char⟩ := by decide +kernel
theorem pd_7 : parseMethodDescriptor "([CI[BII)I" = some ⟨[(.array .char), .int, (.array .byte), .int, .int], some .int⟩ := by decide +kernel
theorem pd_8 : parseMethodDescriptor "([CII)[B" = some ⟨[(.array .char), .int, .int], some (.array .byte)⟩ := by decide +kernel
theorem pd_9 : parseMethodDescriptor "([BI)B" = some ⟨[(.array .byte), .int], some .byte⟩ := by decide +kernel
theorem pd_10 : parseMethodDescriptor "([CIILjava/lang/Void;)V" = some ⟨[(.array .char), .int, .int, (.object "java/lang/Void")], none⟩ := by decide +kernel
theorem pd_11 : parseMethodDescriptor "(IIILjava/util/function/BiFunction;)I" = some ⟨[.int, .int, .int, (.object "java/util/function/BiFunction")], some .int⟩ := by decide +kernel
theorem pd_12 : parseMethodDescriptor "([BB)V" = some ⟨[(.array .byte), .byte], none⟩ := by decide +kernel
theorem pd_13 : parseMethodDescriptor "()I" = some ⟨[], some .int⟩ := by decide +kernel
theorem pd_14 : parseMethodDescriptor "(III)V" = some ⟨[.int, .int, .int], none⟩ := by decide +kernel
theorem pd_15 : parseMethodDescriptor "([BII)Ljava/lang/String;" = some ⟨[(.array .byte), .int, .int], some (.object "java/lang/String")⟩ := by decide +kernel
theorem pd_16 : parseMethodDescriptor "(II)Ljava/lang/String;" = some ⟨[.int, .int], some (.object "java/lang/String")⟩ := by decide +kernel
theorem pd_17 : parseMethodDescriptor "(I)C" = some ⟨[.int], some .char⟩ := by decide +kernel
theorem pd_18 : parseMethodDescriptor "(C)Z" = some ⟨[.char], some .boolean⟩ := by decide +kernel
theorem pd_19 : parseMethodDescriptor "(Ljava/lang/String;II[CI)Z" = some ⟨[(.object "java/lang/String"), .int, .int, (.array .char), .int], some .boolean⟩ := by decide +kernel
theorem pd_20 : parseMethodDescriptor "([C)V" = some ⟨[(.array .char)], none⟩ := by decide +kernel
theorem pd_21 : parseMethodDescriptor "(Ljava/lang/String;)Ljava/lang/String;" = some ⟨[(.object "java/lang/String")], some (.object "java/lang/String")⟩ := by decide +kernel
theorem wd_0 {a0 : Array Value} {Z : State} (hw : ∀ d ∈ tables_1, d.before a0 Z = true) : (Jvm.Cond.constant "com/example/strict_replay/strictreplay/rules/FieldValuesTrimPinLaw" (13 : Nat) (2147483647 : Int32)).before a0 Z = true := hw _ (List.mem_of_getElem? (i := 0) rfl)
theorem wd_1 {a0 : Array Value} {Z : State} (hw : ∀ d ∈ tables_1, d.before a0 Z = true) : (Jvm.Cond.arrayClass Jvm.ClassFile.FieldType.char).before a0 Z = true := hw _ (List.mem_of_getElem? (i := 1) rfl)
theorem wd_2 {a0 : Array Value} {Z : State} (hw : ∀ d ∈ tables_1, d.before a0 Z = true) : (Jvm.Cond.methodLink "com/example/strict_replay/strictreplay/rules/FieldValuesTrimPinLaw" (14 : Nat) ({ cls := "com/example/strict_replay/strictreplay/rules/FieldValuesTrimPinLaw", name := "draw", desc := "(I)C" } : Jvm.MethodName)).before a0 Z = true := hw _ (List.mem_of_getElem? (i := 2) rfl)
theorem wd_3 {a0 : Array Value} {Z : State} (hw : ∀ d ∈ tables_1, d.before a0 Z = true) : (Jvm.Cond.static ({ cls := "com/example/strict_replay/strictreplay/rules/FieldValuesTrimPinLaw", name := "draw", desc := "(I)C" } : Jvm.MethodName)).before a0 Z = true := hw _ (List.mem_of_getElem? (i := 3) rfl)
theorem wd_4 {a0 : Array Value} {Z : State} (hw : ∀ d ∈ tables_1, d.before a0 Z = true) : (Jvm.Cond.initialized "com/example/strict_replay/strictreplay/rules/FieldValuesTrimPinLaw").before a0 Z = true := hw _ (List.mem_of_getElem? (i := 4) rfl)
theorem wd_5 {a0 : Array Value} {Z : State} (hw : ∀ d ∈ tables_1, d.before a0 Z = true) : (Jvm.Cond.code ({ cls := "com/example/strict_replay/strictreplay/rules/FieldValuesTrimPinLaw", name := "draw", desc := "(I)C" } : Jvm.MethodName) method_2_code (2 : Nat) (Option.some Jvm.ClassFile.FieldType.char)).before a0 Z = true := hw _ (List.mem_of_getElem? (i := 5) rfl)
theorem wd_6 {a0 : Array Value} {Z : State} (hw : ∀ d ∈ tables_1, d.before a0 Z = true) : (Jvm.Cond.classLink "com/example/strict_replay/strictreplay/rules/FieldValuesTrimPinLaw" (8 : Nat) "java/lang/String").before a0 Z = true := hw _ (List.mem_of_getElem? (i := 6) rfl)
theorem wd_7 {a0 : Array Value} {Z : State} (hw : ∀ d ∈ tables_1, d.before a0 Z = true) : (Jvm.Cond.instantiable "java/lang/String" (4 : Nat)).before a0 Z = true := hw _ (List.mem_of_getElem? (i := 7) rfl)
theorem wd_8 {a0 : Array Value} {Z : State} (hw : ∀ d ∈ tables_1, d.before a0 Z = true) : (Jvm.Cond.initialized "java/lang/String").before a0 Z = true := hw _ (List.mem_of_getElem? (i := 8) rfl)
theorem wd_9 {a0 : Array Value} {Z : State} (hw : ∀ d ∈ tables_1, d.before a0 Z = true) : (Jvm.Cond.methodLink "com/example/strict_replay/strictreplay/rules/FieldValuesTrimPinLaw" (19 : Nat) ({ cls := "java/lang/String", name := "<init>", desc := "([C)V" } : Jvm.MethodName)).before a0 Z = true := hw _ (List.mem_of_getElem? (i := 9) rfl)
theorem wd_10 {a0 : Array Value} {Z : State} (hw : ∀ d ∈ tables_1, d.before a0 Z = true) : (Jvm.Cond.instanceMethod ({ cls := "java/lang/String", name := "<init>", desc := "([C)V" } : Jvm.MethodName)).before a0 Z = true := hw _ (List.mem_of_getElem? (i := 10) rfl)
theorem wd_11 {a0 : Array Value} {Z : State} (hw : ∀ d ∈ tables_1, d.before a0 Z = true) : (Jvm.Cond.code ({ cls := "java/lang/String", name := "<init>", desc := "([C)V" } : Jvm.MethodName) jdk_42_method_3_code (2 : Nat) (Option.none : Option Jvm.ClassFile.FieldType)).before a0 Z = true := hw _ (List.mem_of_getElem? (i := 11) rfl)
theorem wd_12 {a0 : Array Value} {Z : State} (hw : ∀ d ∈ tables_1, d.before a0 Z = true) : (Jvm.Cond.methodLink "java/lang/String" (27 : Nat) ({ cls := "java/lang/String", name := "<init>", desc := "([CIILjava/lang/Void;)V" } : Jvm.MethodName)).before a0 Z = true := hw _ (List.mem_of_getElem? (i := 12) rfl)
theorem wd_13 {a0 : Array Value} {Z : State} (hw : ∀ d ∈ tables_1, d.before a0 Z = true) : (Jvm.Cond.instanceMethod ({ cls := "java/lang/String", name := "<init>", desc := "([CIILjava/lang/Void;)V" } : Jvm.MethodName)).before a0 Z = true := hw _ (List.mem_of_getElem? (i := 13) rfl)
theorem wd_15 {a0 : Array Value} {Z : State} (hw : ∀ d ∈ tables_1, d.before a0 Z = true) : (Jvm.Cond.code ({ cls := "java/lang/String", name := "<init>", desc := "([CIILjava/lang/Void;)V" } : Jvm.MethodName) jdk_42_method_149_code (6 : Nat) (Option.none : Option Jvm.ClassFile.FieldType)).before a0 Z = true := hw _ (List.mem_of_getElem? (i := 15) rfl)
theorem wd_16 {a0 : Array Value} {Z : State} (hw : ∀ d ∈ tables_1, d.before a0 Z = true) : (Jvm.Cond.methodLink "java/lang/String" (1 : Nat) ({ cls := "java/lang/Object", name := "<init>", desc := "()V" } : Jvm.MethodName)).before a0 Z = true := hw _ (List.mem_of_getElem? (i := 16) rfl)
theorem wd_17 {a0 : Array Value} {Z : State} (hw : ∀ d ∈ tables_1, d.before a0 Z = true) : (Jvm.Cond.instanceMethod ({ cls := "java/lang/Object", name := "<init>", desc := "()V" } : Jvm.MethodName)).before a0 Z = true := hw _ (List.mem_of_getElem? (i := 17) rfl)
theorem wd_18 {a0 : Array Value} {Z : State} (hw : ∀ d ∈ tables_1, d.before a0 Z = true) : (Jvm.Cond.code ({ cls := "java/lang/Object", name := "<init>", desc := "()V" } : Jvm.MethodName) object_method_1_code (1 : Nat) (Option.none : Option Jvm.ClassFile.FieldType)).before a0 Z = true := hw _ (List.mem_of_getElem? (i := 18) rfl)
theorem wd_19 {a0 : Array Value} {Z : State} (hw : ∀ d ∈ tables_1, d.before a0 Z = true) : (Jvm.Cond.stringLink "java/lang/String" (7 : Nat) "").before a0 Z = true := hw _ (List.mem_of_getElem? (i := 19) rfl)
theorem wd_20 {a0 : Array Value} {Z : State} (hw : ∀ d ∈ tables_1, d.before a0 Z = true) : (Jvm.Cond.arrayClass Jvm.ClassFile.FieldType.byte).before a0 Z = true := hw _ (List.mem_of_getElem? (i := 20) rfl)
theorem wd_21 {a0 : Array Value} {Z : State} (hw : ∀ d ∈ tables_1, d.before a0 Z = true) : (Jvm.Cond.laysFinal "java/lang/String" "java/lang/String" "value" "[B").before a0 Z = true := hw _ (List.mem_of_getElem? (i := 21) rfl)
theorem wd_22 {a0 : Array Value} {Z : State} (hw : ∀ d ∈ tables_1, d.before a0 Z = true) : (Jvm.Cond.laysFinal "java/lang/String" "java/lang/String" "coder" "B").before a0 Z = true := hw _ (List.mem_of_getElem? (i := 22) rfl)
theorem wd_23 {a0 : Array Value} {Z : State} (hw : ∀ d ∈ tables_1, d.before a0 Z = true) : (Jvm.Cond.soleField "java/lang/String" "value").before a0 Z = true := hw _ (List.mem_of_getElem? (i := 23) rfl)
theorem wd_24 {a0 : Array Value} {Z : State} (hw : ∀ d ∈ tables_1, d.before a0 Z = true) : (Jvm.Cond.soleField "java/lang/String" "coder").before a0 Z = true := hw _ (List.mem_of_getElem? (i := 24) rfl)
theorem wd_25 {a0 : Array Value} {Z : State} (hw : ∀ d ∈ tables_1, d.before a0 Z = true) : (Jvm.Cond.fieldLink "java/lang/String" (9 : Nat) "java/lang/String" "value" "[B").before a0 Z = true := hw _ (List.mem_of_getElem? (i := 25) rfl)
theorem wd_26 {a0 : Array Value} {Z : State} (hw : ∀ d ∈ tables_1, d.before a0 Z = true) : (Jvm.Cond.fieldLink "java/lang/String" (15 : Nat) "java/lang/String" "coder" "B").before a0 Z = true := hw _ (List.mem_of_getElem? (i := 26) rfl)
theorem wd_27 {a0 : Array Value} {Z : State} (hw : ∀ d ∈ tables_1, d.before a0 Z = true) : (Jvm.Cond.methodLink "com/example/strict_replay/strictreplay/rules/FieldValuesTrimPinLaw" (22 : Nat) ({ cls := "com/example/strict_replay/strictreplay/rules/FieldValues", name := "trim", desc := "(Ljava/lang/String;)Ljava/lang/String;" } : Jvm.MethodName)).before a0 Z = true := hw _ (List.mem_of_getElem? (i := 27) rfl)
theorem wd_28 {a0 : Array Value} {Z : State} (hw : ∀ d ∈ tables_1, d.before a0 Z = true) : (Jvm.Cond.static ({ cls := "com/example/strict_replay/strictreplay/rules/FieldValues", name := "trim", desc := "(Ljava/lang/String;)Ljava/lang/String;" } : Jvm.MethodName)).before a0 Z = true := hw _ (List.mem_of_getElem? (i := 28) rfl)
theorem wd_29 {a0 : Array Value} {Z : State} (hw : ∀ d ∈ tables_1, d.before a0 Z = true) : (Jvm.Cond.initialized "com/example/strict_replay/strictreplay/rules/FieldValues").before a0 Z = true := hw _ (List.mem_of_getElem? (i := 29) rfl)
theorem wd_30 {a0 : Array Value} {Z : State} (hw : ∀ d ∈ tables_1, d.before a0 Z = true) : (Jvm.Cond.code ({ cls := "com/example/strict_replay/strictreplay/rules/FieldValues", name := "trim", desc := "(Ljava/lang/String;)Ljava/lang/String;" } : Jvm.MethodName) prog_8_method_2_code (3 : Nat) (Option.some (Jvm.ClassFile.FieldType.object "java/lang/String"))).before a0 Z = true := hw _ (List.mem_of_getElem? (i := 30) rfl)
theorem wd_31 {a0 : Array Value} {Z : State} (hw : ∀ d ∈ tables_1, d.before a0 Z = true) : (Jvm.Cond.methodLink "com/example/strict_replay/strictreplay/rules/FieldValues" (7 : Nat) ({ cls := "java/lang/String", name := "length", desc := "()I" } : Jvm.MethodName)).before a0 Z = true := hw _ (List.mem_of_getElem? (i := 31) rfl)
theorem wd_32 {a0 : Array Value} {Z : State} (hw : ∀ d ∈ tables_1, d.before a0 Z = true) : (Jvm.Cond.declares ({ cls := "java/lang/String", name := "length", desc := "()I" } : Jvm.MethodName)).before a0 Z = true := hw _ (List.mem_of_getElem? (i := 32) rfl)
theorem wd_33 {a0 : Array Value} {Z : State} (hw : ∀ d ∈ tables_1, d.before a0 Z = true) : (Jvm.Cond.instanceMethod ({ cls := "java/lang/String", name := "length", desc := "()I" } : Jvm.MethodName)).before a0 Z = true := hw _ (List.mem_of_getElem? (i := 33) rfl)
theorem wd_34 {a0 : Array Value} {Z : State} (hw : ∀ d ∈ tables_1, d.before a0 Z = true) : (Jvm.Cond.selects "java/lang/String" ({ cls := "java/lang/String", name := "length", desc := "()I" } : Jvm.MethodName) ({ cls := "java/lang/String", name := "length", desc := "()I" } : Jvm.MethodName)).before a0 Z = true := hw _ (List.mem_of_getElem? (i := 34) rfl)
theorem wd_35 {a0 : Array Value} {Z : State} (hw : ∀ d ∈ tables_1, d.before a0 Z = true) : (Jvm.Cond.code ({ cls := "java/lang/String", name := "length", desc := "()I" } : Jvm.MethodName) jdk_42_method_54_code (1 : Nat) (Option.some Jvm.ClassFile.FieldType.int)).before a0 Z = true := hw _ (List.mem_of_getElem? (i := 35) rfl)
theorem wd_36 {a0 : Array Value} {Z : State} (hw : ∀ d ∈ tables_1, d.before a0 Z = true) : (Jvm.Cond.methodLink "java/lang/String" (335 : Nat) ({ cls := "java/lang/String", name := "coder", desc := "()B" } : Jvm.MethodName)).before a0 Z = true := hw _ (List.mem_of_getElem? (i := 36) rfl)
theorem wd_37 {a0 : Array Value} {Z : State} (hw : ∀ d ∈ tables_1, d.before a0 Z = true) : (Jvm.Cond.declares ({ cls := "java/lang/String", name := "coder", desc := "()B" } : Jvm.MethodName)).before a0 Z = true := hw _ (List.mem_of_getElem? (i := 37) rfl)
theorem wd_38 {a0 : Array Value} {Z : State} (hw : ∀ d ∈ tables_1, d.before a0 Z = true) : (Jvm.Cond.instanceMethod ({ cls := "java/lang/String", name := "coder", desc := "()B" } : Jvm.MethodName)).before a0 Z = true := hw _ (List.mem_of_getElem? (i := 38) rfl)
theorem wd_39 {a0 : Array Value} {Z : State} (hw : ∀ d ∈ tables_1, d.before a0 Z = true) : (Jvm.Cond.selects "java/lang/String" ({ cls := "java/lang/String", name := "coder", desc := "()B" } : Jvm.MethodName) ({ cls := "java/lang/String", name := "coder", desc := "()B" } : Jvm.MethodName)).before a0 Z = true := hw _ (List.mem_of_getElem? (i := 39) rfl)
theorem wd_40 {a0 : Array Value} {Z : State} (hw : ∀ d ∈ tables_1, d.before a0 Z = true) : (Jvm.Cond.code ({ cls := "java/lang/String", name := "coder", desc := "()B" } : Jvm.MethodName) jdk_42_method_152_code (1 : Nat) (Option.some Jvm.ClassFile.FieldType.byte)).before a0 Z = true := hw _ (List.mem_of_getElem? (i := 40) rfl)
theorem wd_41 {a0 : Array Value} {Z : State} (hw : ∀ d ∈ tables_1, d.before a0 Z = true) : (Jvm.Cond.fieldLink "java/lang/String" (38 : Nat) "java/lang/String" "COMPACT_STRINGS" "Z").before a0 Z = true := hw _ (List.mem_of_getElem? (i := 41) rfl)
theorem wd_42 {a0 : Array Value} {Z : State} (hw : ∀ d ∈ tables_1, d.before a0 Z = true) : (Jvm.Cond.methodLink "com/example/strict_replay/strictreplay/rules/FieldValues" (23 : Nat) ({ cls := "java/lang/String", name := "substring", desc := "(II)Ljava/lang/String;" } : Jvm.MethodName)).before a0 Z = true := hw _ (List.mem_of_getElem? (i := 42) rfl)
theorem wd_43 {a0 : Array Value} {Z : State} (hw : ∀ d ∈ tables_1, d.before a0 Z = true) : (Jvm.Cond.declares ({ cls := "java/lang/String", name := "substring", desc := "(II)Ljava/lang/String;" } : Jvm.MethodName)).before a0 Z = true := hw _ (List.mem_of_getElem? (i := 43) rfl)
theorem wd_44 {a0 : Array Value} {Z : State} (hw : ∀ d ∈ tables_1, d.before a0 Z = true) : (Jvm.Cond.instanceMethod ({ cls := "java/lang/String", name := "substring", desc := "(II)Ljava/lang/String;" } : Jvm.MethodName)).before a0 Z = true := hw _ (List.mem_of_getElem? (i := 44) rfl)
theorem wd_45 {a0 : Array Value} {Z : State} (hw : ∀ d ∈ tables_1, d.before a0 Z = true) : (Jvm.Cond.selects "java/lang/String" ({ cls := "java/lang/String", name := "substring", desc := "(II)Ljava/lang/String;" } : Jvm.MethodName) ({ cls := "java/lang/String", name := "substring", desc := "(II)Ljava/lang/String;" } : Jvm.MethodName)).before a0 Z = true := hw _ (List.mem_of_getElem? (i := 45) rfl)
theorem wd_46 {a0 : Array Value} {Z : State} (hw : ∀ d ∈ tables_1, d.before a0 Z = true) : (Jvm.Cond.code ({ cls := "java/lang/String", name := "substring", desc := "(II)Ljava/lang/String;" } : Jvm.MethodName) jdk_42_method_92_code (5 : Nat) (Option.some (Jvm.ClassFile.FieldType.object "java/lang/String"))).before a0 Z = true := hw _ (List.mem_of_getElem? (i := 46) rfl)
theorem wd_47 {a0 : Array Value} {Z : State} (hw : ∀ d ∈ tables_1, d.before a0 Z = true) : (Jvm.Cond.methodLink "java/lang/String" (505 : Nat) ({ cls := "java/lang/String", name := "length", desc := "()I" } : Jvm.MethodName)).before a0 Z = true := hw _ (List.mem_of_getElem? (i := 47) rfl)
theorem wd_48 {a0 : Array Value} {Z : State} (hw : ∀ d ∈ tables_1, d.before a0 Z = true) : (Jvm.Cond.methodLink "java/lang/String" (521 : Nat) ({ cls := "java/lang/String", name := "checkBoundsBeginEnd", desc := "(III)V" } : Jvm.MethodName)).before a0 Z = true := hw _ (List.mem_of_getElem? (i := 48) rfl)
theorem wd_49 {a0 : Array Value} {Z : State} (hw : ∀ d ∈ tables_1, d.before a0 Z = true) : (Jvm.Cond.static ({ cls := "java/lang/String", name := "checkBoundsBeginEnd", desc := "(III)V" } : Jvm.MethodName)).before a0 Z = true := hw _ (List.mem_of_getElem? (i := 49) rfl)
theorem wd_50 {a0 : Array Value} {Z : State} (hw : ∀ d ∈ tables_1, d.before a0 Z = true) : (Jvm.Cond.code ({ cls := "java/lang/String", name := "checkBoundsBeginEnd", desc := "(III)V" } : Jvm.MethodName) jdk_42_method_158_code (3 : Nat) (Option.none : Option Jvm.ClassFile.FieldType)).before a0 Z = true := hw _ (List.mem_of_getElem? (i := 50) rfl)
theorem wd_51 {a0 : Array Value} {Z : State} (hw : ∀ d ∈ tables_1, d.before a0 Z = true) : (Jvm.Cond.fieldLink "java/lang/String" (1053 : Nat) "jdk/internal/util/Preconditions" "SIOOBE_FORMATTER" "Ljava/util/function/BiFunction;").before a0 Z = true := hw _ (List.mem_of_getElem? (i := 51) rfl)
theorem wd_52 {a0 : Array Value} {Z : State} (hw : ∀ d ∈ tables_1, d.before a0 Z = true) : (Jvm.Cond.initialized "jdk/internal/util/Preconditions").before a0 Z = true := hw _ (List.mem_of_getElem? (i := 52) rfl)
theorem wd_53 {a0 : Array Value} {Z : State} (hw : ∀ d ∈ tables_1, d.before a0 Z = true) : (Jvm.Cond.methodLink "java/lang/String" (1062 : Nat) ({ cls := "jdk/internal/util/Preconditions", name := "checkFromToIndex", desc := "(IIILjava/util/function/BiFunction;)I" } : Jvm.MethodName)).before a0 Z = true := hw _ (List.mem_of_getElem? (i := 53) rfl)
theorem wd_54 {a0 : Array Value} {Z : State} (hw : ∀ d ∈ tables_1, d.before a0 Z = true) : (Jvm.Cond.static ({ cls := "jdk/internal/util/Preconditions", name := "checkFromToIndex", desc := "(IIILjava/util/function/BiFunction;)I" } : Jvm.MethodName)).before a0 Z = true := hw _ (List.mem_of_getElem? (i := 54) rfl)
theorem wd_55 {a0 : Array Value} {Z : State} (hw : ∀ d ∈ tables_1, d.before a0 Z = true) : (Jvm.Cond.code ({ cls := "jdk/internal/util/Preconditions", name := "checkFromToIndex", desc := "(IIILjava/util/function/BiFunction;)I" } : Jvm.MethodName) jdk_41_method_12_code (4 : Nat) (Option.some Jvm.ClassFile.FieldType.int)).before a0 Z = true := hw _ (List.mem_of_getElem? (i := 55) rfl)
theorem wd_56 {a0 : Array Value} {Z : State} (hw : ∀ d ∈ tables_1, d.before a0 Z = true) : (Jvm.Cond.methodLink "com/example/strict_replay/strictreplay/rules/FieldValuesTrimPinLaw" (32 : Nat) ({ cls := "java/lang/String", name := "length", desc := "()I" } : Jvm.MethodName)).before a0 Z = true := hw _ (List.mem_of_getElem? (i := 56) rfl)
theorem wd_57 {a0 : Array Value} {Z : State} (hw : ∀ d ∈ tables_1, d.before a0 Z = true) : (Jvm.Cond.methodLink "com/example/strict_replay/strictreplay/rules/FieldValuesTrimPinLaw" (36 : Nat) ({ cls := "com/example/strict_replay/strictreplay/rules/FieldValuesTrimPinLaw", name := "at", desc := "(Ljava/lang/String;II[CI)Z" } : Jvm.MethodName)).before a0 Z = true := hw _ (List.mem_of_getElem? (i := 57) rfl)
theorem wd_58 {a0 : Array Value} {Z : State} (hw : ∀ d ∈ tables_1, d.before a0 Z = true) : (Jvm.Cond.static ({ cls := "com/example/strict_replay/strictreplay/rules/FieldValuesTrimPinLaw", name := "at", desc := "(Ljava/lang/String;II[CI)Z" } : Jvm.MethodName)).before a0 Z = true := hw _ (List.mem_of_getElem? (i := 58) rfl)
theorem wd_59 {a0 : Array Value} {Z : State} (hw : ∀ d ∈ tables_1, d.before a0 Z = true) : (Jvm.Cond.code ({ cls := "com/example/strict_replay/strictreplay/rules/FieldValuesTrimPinLaw", name := "at", desc := "(Ljava/lang/String;II[CI)Z" } : Jvm.MethodName) method_4_code (5 : Nat) (Option.some Jvm.ClassFile.FieldType.boolean)).before a0 Z = true := hw _ (List.mem_of_getElem? (i := 59) rfl)
theorem wd_60 {a0 : Array Value} {Z : State} (hw : ∀ d ∈ tables_1, d.before a0 Z = true) : (Jvm.Cond.methodLink "java/lang/String" (177 : Nat) ({ cls := "java/lang/StringUTF16", name := "compress", desc := "([CII)[B" } : Jvm.MethodName)).before a0 Z = true := hw _ (List.mem_of_getElem? (i := 60) rfl)
theorem wd_61 {a0 : Array Value} {Z : State} (hw : ∀ d ∈ tables_1, d.before a0 Z = true) : (Jvm.Cond.static ({ cls := "java/lang/StringUTF16", name := "compress", desc := "([CII)[B" } : Jvm.MethodName)).before a0 Z = true := hw _ (List.mem_of_getElem? (i := 61) rfl)
theorem wd_62 {a0 : Array Value} {Z : State} (hw : ∀ d ∈ tables_1, d.before a0 Z = true) : (Jvm.Cond.initialized "java/lang/StringUTF16").before a0 Z = true := hw _ (List.mem_of_getElem? (i := 62) rfl)
theorem wd_63 {a0 : Array Value} {Z : State} (hw : ∀ d ∈ tables_1, d.before a0 Z = true) : (Jvm.Cond.code ({ cls := "java/lang/StringUTF16", name := "compress", desc := "([CII)[B" } : Jvm.MethodName) jdk_52_method_16_code (6 : Nat) (Option.some (Jvm.ClassFile.FieldType.array Jvm.ClassFile.FieldType.byte))).before a0 Z = true := hw _ (List.mem_of_getElem? (i := 63) rfl)
theorem wd_64 {a0 : Array Value} {Z : State} (hw : ∀ d ∈ tables_1, d.before a0 Z = true) : (Jvm.Cond.methodLink "java/lang/StringUTF16" (115 : Nat) ({ cls := "java/lang/StringUTF16", name := "compress", desc := "([CI[BII)I" } : Jvm.MethodName)).before a0 Z = true := hw _ (List.mem_of_getElem? (i := 64) rfl)
theorem wd_65 {a0 : Array Value} {Z : State} (hw : ∀ d ∈ tables_1, d.before a0 Z = true) : (Jvm.Cond.static ({ cls := "java/lang/StringUTF16", name := "compress", desc := "([CI[BII)I" } : Jvm.MethodName)).before a0 Z = true := hw _ (List.mem_of_getElem? (i := 65) rfl)
theorem wd_66 {a0 : Array Value} {Z : State} (hw : ∀ d ∈ tables_1, d.before a0 Z = true) : (Jvm.Cond.code ({ cls := "java/lang/StringUTF16", name := "compress", desc := "([CI[BII)I" } : Jvm.MethodName) jdk_52_method_21_code (7 : Nat) (Option.some Jvm.ClassFile.FieldType.int)).before a0 Z = true := hw _ (List.mem_of_getElem? (i := 66) rfl)
theorem wd_67 {a0 : Array Value} {Z : State} (hw : ∀ d ∈ tables_1, d.before a0 Z = true) : (Jvm.Cond.methodLink "java/lang/String" (47 : Nat) ({ cls := "java/lang/StringUTF16", name := "coderFromArrayLen", desc := "([BI)B" } : Jvm.MethodName)).before a0 Z = true := hw _ (List.mem_of_getElem? (i := 67) rfl)
theorem wd_68 {a0 : Array Value} {Z : State} (hw : ∀ d ∈ tables_1, d.before a0 Z = true) : (Jvm.Cond.static ({ cls := "java/lang/StringUTF16", name := "coderFromArrayLen", desc := "([BI)B" } : Jvm.MethodName)).before a0 Z = true := hw _ (List.mem_of_getElem? (i := 68) rfl)
theorem wd_69 {a0 : Array Value} {Z : State} (hw : ∀ d ∈ tables_1, d.before a0 Z = true) : (Jvm.Cond.code ({ cls := "java/lang/StringUTF16", name := "coderFromArrayLen", desc := "([BI)B" } : Jvm.MethodName) jdk_52_method_15_code (2 : Nat) (Option.some Jvm.ClassFile.FieldType.byte)).before a0 Z = true := hw _ (List.mem_of_getElem? (i := 69) rfl)
theorem wd_70 {a0 : Array Value} {Z : State} (hw : ∀ d ∈ tables_1, d.before a0 Z = true) : (Jvm.Cond.methodLink "com/example/strict_replay/strictreplay/rules/FieldValues" (13 : Nat) ({ cls := "java/lang/String", name := "charAt", desc := "(I)C" } : Jvm.MethodName)).before a0 Z = true := hw _ (List.mem_of_getElem? (i := 70) rfl)
theorem wd_71 {a0 : Array Value} {Z : State} (hw : ∀ d ∈ tables_1, d.before a0 Z = true) : (Jvm.Cond.declares ({ cls := "java/lang/String", name := "charAt", desc := "(I)C" } : Jvm.MethodName)).before a0 Z = true := hw _ (List.mem_of_getElem? (i := 71) rfl)
theorem wd_72 {a0 : Array Value} {Z : State} (hw : ∀ d ∈ tables_1, d.before a0 Z = true) : (Jvm.Cond.instanceMethod ({ cls := "java/lang/String", name := "charAt", desc := "(I)C" } : Jvm.MethodName)).before a0 Z = true := hw _ (List.mem_of_getElem? (i := 72) rfl)
theorem wd_73 {a0 : Array Value} {Z : State} (hw : ∀ d ∈ tables_1, d.before a0 Z = true) : (Jvm.Cond.selects "java/lang/String" ({ cls := "java/lang/String", name := "charAt", desc := "(I)C" } : Jvm.MethodName) ({ cls := "java/lang/String", name := "charAt", desc := "(I)C" } : Jvm.MethodName)).before a0 Z = true := hw _ (List.mem_of_getElem? (i := 73) rfl)
theorem wd_74 {a0 : Array Value} {Z : State} (hw : ∀ d ∈ tables_1, d.before a0 Z = true) : (Jvm.Cond.code ({ cls := "java/lang/String", name := "charAt", desc := "(I)C" } : Jvm.MethodName) jdk_42_method_56_code (2 : Nat) (Option.some Jvm.ClassFile.FieldType.char)).before a0 Z = true := hw _ (List.mem_of_getElem? (i := 74) rfl)
theorem wd_75 {a0 : Array Value} {Z : State} (hw : ∀ d ∈ tables_1, d.before a0 Z = true) : (Jvm.Cond.methodLink "java/lang/String" (492 : Nat) ({ cls := "java/lang/String", name := "isLatin1", desc := "()Z" } : Jvm.MethodName)).before a0 Z = true := hw _ (List.mem_of_getElem? (i := 75) rfl)
theorem wd_76 {a0 : Array Value} {Z : State} (hw : ∀ d ∈ tables_1, d.before a0 Z = true) : (Jvm.Cond.declares ({ cls := "java/lang/String", name := "isLatin1", desc := "()Z" } : Jvm.MethodName)).before a0 Z = true := hw _ (List.mem_of_getElem? (i := 76) rfl)
theorem wd_77 {a0 : Array Value} {Z : State} (hw : ∀ d ∈ tables_1, d.before a0 Z = true) : (Jvm.Cond.instanceMethod ({ cls := "java/lang/String", name := "isLatin1", desc := "()Z" } : Jvm.MethodName)).before a0 Z = true := hw _ (List.mem_of_getElem? (i := 77) rfl)
theorem wd_78 {a0 : Array Value} {Z : State} (hw : ∀ d ∈ tables_1, d.before a0 Z = true) : (Jvm.Cond.selects "java/lang/String" ({ cls := "java/lang/String", name := "isLatin1", desc := "()Z" } : Jvm.MethodName) ({ cls := "java/lang/String", name := "isLatin1", desc := "()Z" } : Jvm.MethodName)).before a0 Z = true := hw _ (List.mem_of_getElem? (i := 78) rfl)
theorem wd_79 {a0 : Array Value} {Z : State} (hw : ∀ d ∈ tables_1, d.before a0 Z = true) : (Jvm.Cond.code ({ cls := "java/lang/String", name := "isLatin1", desc := "()Z" } : Jvm.MethodName) jdk_42_method_154_code (1 : Nat) (Option.some Jvm.ClassFile.FieldType.boolean)).before a0 Z = true := hw _ (List.mem_of_getElem? (i := 79) rfl)
theorem wd_80 {a0 : Array Value} {Z : State} (hw : ∀ d ∈ tables_1, d.before a0 Z = true) : (Jvm.Cond.methodLink "java/lang/String" (495 : Nat) ({ cls := "java/lang/StringLatin1", name := "charAt", desc := "([BI)C" } : Jvm.MethodName)).before a0 Z = true := hw _ (List.mem_of_getElem? (i := 80) rfl)
theorem wd_81 {a0 : Array Value} {Z : State} (hw : ∀ d ∈ tables_1, d.before a0 Z = true) : (Jvm.Cond.static ({ cls := "java/lang/StringLatin1", name := "charAt", desc := "([BI)C" } : Jvm.MethodName)).before a0 Z = true := hw _ (List.mem_of_getElem? (i := 81) rfl)
theorem wd_82 {a0 : Array Value} {Z : State} (hw : ∀ d ∈ tables_1, d.before a0 Z = true) : (Jvm.Cond.initialized "java/lang/StringLatin1").before a0 Z = true := hw _ (List.mem_of_getElem? (i := 82) rfl)
theorem wd_83 {a0 : Array Value} {Z : State} (hw : ∀ d ∈ tables_1, d.before a0 Z = true) : (Jvm.Cond.code ({ cls := "java/lang/StringLatin1", name := "charAt", desc := "([BI)C" } : Jvm.MethodName) jdk_43_method_2_code (2 : Nat) (Option.some Jvm.ClassFile.FieldType.char)).before a0 Z = true := hw _ (List.mem_of_getElem? (i := 83) rfl)
theorem wd_84 {a0 : Array Value} {Z : State} (hw : ∀ d ∈ tables_1, d.before a0 Z = true) : (Jvm.Cond.methodLink "java/lang/StringLatin1" (9 : Nat) ({ cls := "java/lang/String", name := "checkIndex", desc := "(II)V" } : Jvm.MethodName)).before a0 Z = true := hw _ (List.mem_of_getElem? (i := 84) rfl)
theorem wd_85 {a0 : Array Value} {Z : State} (hw : ∀ d ∈ tables_1, d.before a0 Z = true) : (Jvm.Cond.static ({ cls := "java/lang/String", name := "checkIndex", desc := "(II)V" } : Jvm.MethodName)).before a0 Z = true := hw _ (List.mem_of_getElem? (i := 85) rfl)
theorem wd_86 {a0 : Array Value} {Z : State} (hw : ∀ d ∈ tables_1, d.before a0 Z = true) : (Jvm.Cond.code ({ cls := "java/lang/String", name := "checkIndex", desc := "(II)V" } : Jvm.MethodName) jdk_42_method_155_code (2 : Nat) (Option.none : Option Jvm.ClassFile.FieldType)).before a0 Z = true := hw _ (List.mem_of_getElem? (i := 86) rfl)
theorem wd_87 {a0 : Array Value} {Z : State} (hw : ∀ d ∈ tables_1, d.before a0 Z = true) : (Jvm.Cond.methodLink "java/lang/String" (1059 : Nat) ({ cls := "jdk/internal/util/Preconditions", name := "checkIndex", desc := "(IILjava/util/function/BiFunction;)I" } : Jvm.MethodName)).before a0 Z = true := hw _ (List.mem_of_getElem? (i := 87) rfl)
theorem wd_88 {a0 : Array Value} {Z : State} (hw : ∀ d ∈ tables_1, d.before a0 Z = true) : (Jvm.Cond.static ({ cls := "jdk/internal/util/Preconditions", name := "checkIndex", desc := "(IILjava/util/function/BiFunction;)I" } : Jvm.MethodName)).before a0 Z = true := hw _ (List.mem_of_getElem? (i := 88) rfl)
theorem wd_89 {a0 : Array Value} {Z : State} (hw : ∀ d ∈ tables_1, d.before a0 Z = true) : (Jvm.Cond.code ({ cls := "jdk/internal/util/Preconditions", name := "checkIndex", desc := "(IILjava/util/function/BiFunction;)I" } : Jvm.MethodName) jdk_41_method_11_code (3 : Nat) (Option.some Jvm.ClassFile.FieldType.int)).before a0 Z = true := hw _ (List.mem_of_getElem? (i := 89) rfl)
theorem wd_90 {a0 : Array Value} {Z : State} (hw : ∀ d ∈ tables_1, d.before a0 Z = true) : (Jvm.Cond.methodLink "com/example/strict_replay/strictreplay/rules/FieldValues" (17 : Nat) ({ cls := "com/example/strict_replay/strictreplay/rules/FieldValues", name := "isSpaceOrTab", desc := "(C)Z" } : Jvm.MethodName)).before a0 Z = true := hw _ (List.mem_of_getElem? (i := 90) rfl)
theorem wd_91 {a0 : Array Value} {Z : State} (hw : ∀ d ∈ tables_1, d.before a0 Z = true) : (Jvm.Cond.static ({ cls := "com/example/strict_replay/strictreplay/rules/FieldValues", name := "isSpaceOrTab", desc := "(C)Z" } : Jvm.MethodName)).before a0 Z = true := hw _ (List.mem_of_getElem? (i := 91) rfl)
theorem wd_92 {a0 : Array Value} {Z : State} (hw : ∀ d ∈ tables_1, d.before a0 Z = true) : (Jvm.Cond.code ({ cls := "com/example/strict_replay/strictreplay/rules/FieldValues", name := "isSpaceOrTab", desc := "(C)Z" } : Jvm.MethodName) prog_8_method_3_code (1 : Nat) (Option.some Jvm.ClassFile.FieldType.boolean)).before a0 Z = true := hw _ (List.mem_of_getElem? (i := 92) rfl)
theorem wd_93 {a0 : Array Value} {Z : State} (hw : ∀ d ∈ tables_1, d.before a0 Z = true) : (Jvm.Cond.methodLink "java/lang/String" (685 : Nat) ({ cls := "java/lang/StringLatin1", name := "newString", desc := "([BII)Ljava/lang/String;" } : Jvm.MethodName)).before a0 Z = true := hw _ (List.mem_of_getElem? (i := 93) rfl)
theorem wd_94 {a0 : Array Value} {Z : State} (hw : ∀ d ∈ tables_1, d.before a0 Z = true) : (Jvm.Cond.static ({ cls := "java/lang/StringLatin1", name := "newString", desc := "([BII)Ljava/lang/String;" } : Jvm.MethodName)).before a0 Z = true := hw _ (List.mem_of_getElem? (i := 94) rfl)
theorem wd_95 {a0 : Array Value} {Z : State} (hw : ∀ d ∈ tables_1, d.before a0 Z = true) : (Jvm.Cond.code ({ cls := "java/lang/StringLatin1", name := "newString", desc := "([BII)Ljava/lang/String;" } : Jvm.MethodName) jdk_43_method_47_code (3 : Nat) (Option.some (Jvm.ClassFile.FieldType.object "java/lang/String"))).before a0 Z = true := hw _ (List.mem_of_getElem? (i := 95) rfl)
theorem wd_96 {a0 : Array Value} {Z : State} (hw : ∀ d ∈ tables_1, d.before a0 Z = true) : (Jvm.Cond.classLink "java/lang/StringLatin1" (1 : Nat) "java/lang/String").before a0 Z = true := hw _ (List.mem_of_getElem? (i := 96) rfl)
theorem wd_97 {a0 : Array Value} {Z : State} (hw : ∀ d ∈ tables_1, d.before a0 Z = true) : (Jvm.Cond.methodLink "java/lang/StringLatin1" (232 : Nat) ({ cls := "java/util/Arrays", name := "copyOfRange", desc := "([BII)[B" } : Jvm.MethodName)).before a0 Z = true := hw _ (List.mem_of_getElem? (i := 97) rfl)
theorem wd_98 {a0 : Array Value} {Z : State} (hw : ∀ d ∈ tables_1, d.before a0 Z = true) : (Jvm.Cond.static ({ cls := "java/util/Arrays", name := "copyOfRange", desc := "([BII)[B" } : Jvm.MethodName)).before a0 Z = true := hw _ (List.mem_of_getElem? (i := 98) rfl)
theorem wd_99 {a0 : Array Value} {Z : State} (hw : ∀ d ∈ tables_1, d.before a0 Z = true) : (Jvm.Cond.initialized "java/util/Arrays").before a0 Z = true := hw _ (List.mem_of_getElem? (i := 99) rfl)
theorem wd_100 {a0 : Array Value} {Z : State} (hw : ∀ d ∈ tables_1, d.before a0 Z = true) : (Jvm.Cond.code ({ cls := "java/util/Arrays", name := "copyOfRange", desc := "([BII)[B" } : Jvm.MethodName) jdk_65_method_132_code (3 : Nat) (Option.some (Jvm.ClassFile.FieldType.array Jvm.ClassFile.FieldType.byte))).before a0 Z = true := hw _ (List.mem_of_getElem? (i := 100) rfl)
theorem wd_101 {a0 : Array Value} {Z : State} (hw : ∀ d ∈ tables_1, d.before a0 Z = true) : (Jvm.Cond.methodLink "java/util/Arrays" (339 : Nat) ({ cls := "java/util/Arrays", name := "copyOfRangeByte", desc := "([BII)[B" } : Jvm.MethodName)).before a0 Z = true := hw _ (List.mem_of_getElem? (i := 101) rfl)
theorem wd_102 {a0 : Array Value} {Z : State} (hw : ∀ d ∈ tables_1, d.before a0 Z = true) : (Jvm.Cond.static ({ cls := "java/util/Arrays", name := "copyOfRangeByte", desc := "([BII)[B" } : Jvm.MethodName)).before a0 Z = true := hw _ (List.mem_of_getElem? (i := 102) rfl)
theorem wd_103 {a0 : Array Value} {Z : State} (hw : ∀ d ∈ tables_1, d.before a0 Z = true) : (Jvm.Cond.code ({ cls := "java/util/Arrays", name := "copyOfRangeByte", desc := "([BII)[B" } : Jvm.MethodName) jdk_65_method_133_code (5 : Nat) (Option.some (Jvm.ClassFile.FieldType.array Jvm.ClassFile.FieldType.byte))).before a0 Z = true := hw _ (List.mem_of_getElem? (i := 103) rfl)
theorem wd_104 {a0 : Array Value} {Z : State} (hw : ∀ d ∈ tables_1, d.before a0 Z = true) : (Jvm.Cond.methodLink "java/util/Arrays" (343 : Nat) ({ cls := "java/util/Arrays", name := "checkLength", desc := "(II)V" } : Jvm.MethodName)).before a0 Z = true := hw _ (List.mem_of_getElem? (i := 104) rfl)
theorem wd_105 {a0 : Array Value} {Z : State} (hw : ∀ d ∈ tables_1, d.before a0 Z = true) : (Jvm.Cond.static ({ cls := "java/util/Arrays", name := "checkLength", desc := "(II)V" } : Jvm.MethodName)).before a0 Z = true := hw _ (List.mem_of_getElem? (i := 105) rfl)
theorem wd_106 {a0 : Array Value} {Z : State} (hw : ∀ d ∈ tables_1, d.before a0 Z = true) : (Jvm.Cond.code ({ cls := "java/util/Arrays", name := "checkLength", desc := "(II)V" } : Jvm.MethodName) jdk_65_method_131_code (2 : Nat) (Option.none : Option Jvm.ClassFile.FieldType)).before a0 Z = true := hw _ (List.mem_of_getElem? (i := 106) rfl)
theorem wd_107 {a0 : Array Value} {Z : State} (hw : ∀ d ∈ tables_1, d.before a0 Z = true) : (Jvm.Cond.methodLink "java/util/Arrays" (304 : Nat) ({ cls := "java/lang/Math", name := "min", desc := "(II)I" } : Jvm.MethodName)).before a0 Z = true := hw _ (List.mem_of_getElem? (i := 107) rfl)
theorem wd_108 {a0 : Array Value} {Z : State} (hw : ∀ d ∈ tables_1, d.before a0 Z = true) : (Jvm.Cond.static ({ cls := "java/lang/Math", name := "min", desc := "(II)I" } : Jvm.MethodName)).before a0 Z = true := hw _ (List.mem_of_getElem? (i := 108) rfl)
theorem wd_109 {a0 : Array Value} {Z : State} (hw : ∀ d ∈ tables_1, d.before a0 Z = true) : (Jvm.Cond.initialized "java/lang/Math").before a0 Z = true := hw _ (List.mem_of_getElem? (i := 109) rfl)
theorem wd_110 {a0 : Array Value} {Z : State} (hw : ∀ d ∈ tables_1, d.before a0 Z = true) : (Jvm.Cond.code ({ cls := "java/lang/Math", name := "min", desc := "(II)I" } : Jvm.MethodName) jdk_29_method_69_code (2 : Nat) (Option.some Jvm.ClassFile.FieldType.int)).before a0 Z = true := hw _ (List.mem_of_getElem? (i := 110) rfl)
theorem wd_111 {a0 : Array Value} {Z : State} (hw : ∀ d ∈ tables_1, d.before a0 Z = true) : (Jvm.Cond.methodLink "java/util/Arrays" (150 : Nat) ({ cls := "java/lang/System", name := "arraycopy", desc := "(Ljava/lang/Object;ILjava/lang/Object;II)V" } : Jvm.MethodName)).before a0 Z = true := hw _ (List.mem_of_getElem? (i := 111) rfl)
theorem wd_112 {a0 : Array Value} {Z : State} (hw : ∀ d ∈ tables_1, d.before a0 Z = true) : (Jvm.Cond.static ({ cls := "java/lang/System", name := "arraycopy", desc := "(Ljava/lang/Object;ILjava/lang/Object;II)V" } : Jvm.MethodName)).before a0 Z = true := hw _ (List.mem_of_getElem? (i := 112) rfl)
theorem wd_113 {a0 : Array Value} {Z : State} (hw : ∀ d ∈ tables_1, d.before a0 Z = true) : (Jvm.Cond.initialized "java/lang/System").before a0 Z = true := hw _ (List.mem_of_getElem? (i := 113) rfl)
theorem wd_114 {a0 : Array Value} {Z : State} (hw : ∀ d ∈ tables_1, d.before a0 Z = true) : (Jvm.Cond.native ({ cls := "java/lang/System", name := "arraycopy", desc := "(Ljava/lang/Object;ILjava/lang/Object;II)V" } : Jvm.MethodName)).before a0 Z = true := hw _ (List.mem_of_getElem? (i := 114) rfl)
theorem wd_115 {a0 : Array Value} {Z : State} (hw : ∀ d ∈ tables_1, d.before a0 Z = true) : (Jvm.Cond.methodLink "java/lang/StringLatin1" (112 : Nat) ({ cls := "java/lang/String", name := "<init>", desc := "([BB)V" } : Jvm.MethodName)).before a0 Z = true := hw _ (List.mem_of_getElem? (i := 115) rfl)
theorem wd_116 {a0 : Array Value} {Z : State} (hw : ∀ d ∈ tables_1, d.before a0 Z = true) : (Jvm.Cond.instanceMethod ({ cls := "java/lang/String", name := "<init>", desc := "([BB)V" } : Jvm.MethodName)).before a0 Z = true := hw _ (List.mem_of_getElem? (i := 116) rfl)
theorem wd_117 {a0 : Array Value} {Z : State} (hw : ∀ d ∈ tables_1, d.before a0 Z = true) : (Jvm.Cond.code ({ cls := "java/lang/String", name := "<init>", desc := "([BB)V" } : Jvm.MethodName) jdk_42_method_151_code (3 : Nat) (Option.none : Option Jvm.ClassFile.FieldType)).before a0 Z = true := hw _ (List.mem_of_getElem? (i := 117) rfl)
theorem wd_118 {a0 : Array Value} {Z : State} (hw : ∀ d ∈ tables_1, d.before a0 Z = true) : (Jvm.Cond.methodLink "com/example/strict_replay/strictreplay/rules/FieldValuesTrimPinLaw" (28 : Nat) ({ cls := "com/example/strict_replay/strictreplay/rules/FieldValuesTrimPinLaw", name := "ws", desc := "(C)Z" } : Jvm.MethodName)).before a0 Z = true := hw _ (List.mem_of_getElem? (i := 118) rfl)
theorem wd_119 {a0 : Array Value} {Z : State} (hw : ∀ d ∈ tables_1, d.before a0 Z = true) : (Jvm.Cond.static ({ cls := "com/example/strict_replay/strictreplay/rules/FieldValuesTrimPinLaw", name := "ws", desc := "(C)Z" } : Jvm.MethodName)).before a0 Z = true := hw _ (List.mem_of_getElem? (i := 119) rfl)
theorem wd_120 {a0 : Array Value} {Z : State} (hw : ∀ d ∈ tables_1, d.before a0 Z = true) : (Jvm.Cond.code ({ cls := "com/example/strict_replay/strictreplay/rules/FieldValuesTrimPinLaw", name := "ws", desc := "(C)Z" } : Jvm.MethodName) method_3_code (1 : Nat) (Option.some Jvm.ClassFile.FieldType.boolean)).before a0 Z = true := hw _ (List.mem_of_getElem? (i := 120) rfl)
theorem wd_121 {a0 : Array Value} {Z : State} (hw : ∀ d ∈ tables_1, d.before a0 Z = true) : (Jvm.Cond.methodLink "com/example/strict_replay/strictreplay/rules/FieldValuesTrimPinLaw" (7 : Nat) ({ cls := "java/lang/String", name := "charAt", desc := "(I)C" } : Jvm.MethodName)).before a0 Z = true := hw _ (List.mem_of_getElem? (i := 121) rfl)
theorem wd_122 {a0 : Array Value} {Z : State} (hw : ∀ d ∈ tables_1, d.before a0 Z = true) : (Jvm.Cond.stringLink "java/lang/StringLatin1" (151 : Nat) "").before a0 Z = true := hw _ (List.mem_of_getElem? (i := 122) rfl)
theorem own_wS {a0 : Array Value} {Z : State} (hw : ∀ d ∈ tables_1, d.before a0 Z = true) : ∀ d ∈ Bundle.stringAtoms, d.before a0 Z = true := fun d hd => by
  simp only [Bundle.stringAtoms, List.mem_cons, List.not_mem_nil, or_false] at hd
  rcases hd with rfl | rfl | rfl | rfl | rfl | rfl | rfl
  · exact (wd_8 hw)
  · exact (wd_7 hw)
  · exact (wd_20 hw)
  · exact (wd_21 hw)
  · exact (wd_22 hw)
  · exact (wd_23 hw)
  · exact (wd_24 hw)
def own_EL : List (String × Nat) := consts_1
theorem own_ew {a0 : Array Value} {Z : State} (hw : ∀ d ∈ tables_1, d.before a0 Z = true) : EW Z a0 own_EL := (EW.cons (wd_19 hw) (by decide) (EW.cons (wd_122 hw) (by decide) EW.nil))
def Q_j_min (x y : Int32) (h0 : Heap) (n0 : Nat) (v : Option Value) (h : Heap) (L : List Loc) : Prop := v = some (.int (if y < x then y else x)) ∧ Fr n0 L ∧ h = h0
set_option maxRecDepth 65536 in
set_option maxHeartbeats 40000000 in
theorem j_min (l : Launch) (Z : State) (a0 : Array Value) (hw : ∀ d ∈ tables_1, d.before a0 Z = true) (x y : Int32) (h0 : Heap) (n0 : Nat) (OL : Old Z n0 h0)  :
    own_Met l Z (⟨"java/lang/Math", "min", "(II)I"⟩ : MethodName) jdk_29_method_69_code 2 (some .int) ({ frames := 0, cells := 0, slots := 0, locals := 0 } : Room) #[(.int x), (.int y)] h0 (Q_j_min x y h0 n0) := by
  refine own_body (L0 := #[.val (.int x), .val (.int y)]) (by decide +kernel) (fun m => by first | (simp [entryFrame, mkF, argsToLocals, Value.category]; done) | rfl) ?_
  intro p e s m below meth c s₁ hx hby hml hZ hown hnm hret hlk X0 e0
  have N0 := Fr.nil n0
  have Z0 : n0 ≤ h0.size := OL.1 ▸ OL.2.1
  show OwnOk p e below _ (s₁.setTop (mkF m 0 #[.val (.int x), .val (.int y)] []))
  refine own_up (fun tx kx => XS.iloadN X0.here hx rfl (hb hby d25_0) rfl kx) ?_
  show OwnOk p e below _ (s₁.setTop (mkF m 1 #[.val (.int x), .val (.int y)] [(.int x)]))
  refine own_up (fun tx kx => XS.iloadN X0.here hx rfl (hb hby d25_1) rfl kx) ?_
  show OwnOk p e below _ (s₁.setTop (mkF m 2 #[.val (.int x), .val (.int y)] [(.int y), (.int x)]))
  by_cases hk : y < x
  · refine own_up (fun tx kx => XS.icmpYes X0.here hx rfl (pc0 := 2) (pc' := 9) rfl (hb hby d25_2) rfl (tlt hk).2.2.1 (by decide) (by decide) kx) ?_
    show OwnOk p e below _ (s₁.setTop (mkF m 9 #[.val (.int x), .val (.int y)] []))
    refine own_up (fun tx kx => XS.iloadN X0.here hx rfl (hb hby d25_9) rfl kx) ?_
    show OwnOk p e below _ (s₁.setTop (mkF m 10 #[.val (.int x), .val (.int y)] [(.int y)]))
    refine own_retI X0 hx (show meth.sig.returnType = some .int from hret) hlk (hb hby d25_10) e0 (Nat.le_of_ble_eq_true rfl) (Nat.le_of_ble_eq_true rfl) ?_
    exact ⟨by rw [if_pos hk], N0, rfl⟩
  · refine own_up (fun tx kx => XS.icmpNo X0.here hx rfl (hb hby d25_2) rfl (flt hk).2.2.1 kx) ?_
    show OwnOk p e below _ (s₁.setTop (mkF m 5 #[.val (.int x), .val (.int y)] []))
    refine own_up (fun tx kx => XS.iloadN X0.here hx rfl (hb hby d25_5) rfl kx) ?_
    show OwnOk p e below _ (s₁.setTop (mkF m 6 #[.val (.int x), .val (.int y)] [(.int x)]))
    refine own_up (fun tx kx => XS.goto X0.here hx rfl (pc0 := 6) (pc' := 10) rfl (hb hby d25_6) (by decide) (by decide) kx) ?_
    show OwnOk p e below _ (s₁.setTop (mkF m 10 #[.val (.int x), .val (.int y)] [(.int x)]))
    refine own_retI X0 hx (show meth.sig.returnType = some .int from hret) hlk (hb hby d25_10) e0 (Nat.le_of_ble_eq_true rfl) (Nat.le_of_ble_eq_true rfl) ?_
    exact ⟨by rw [if_neg hk], N0, rfl⟩
def Q_j_coder (h0 : Heap) (n0 : Nat) (v : Option Value) (h : Heap) (L : List Loc) : Prop := v = some (.int 0) ∧ Fr n0 L ∧ h = h0
set_option maxRecDepth 65536 in
set_option maxHeartbeats 40000000 in
theorem j_coder (l : Launch) (Z : State) (a0 : Array Value) (hw : ∀ d ∈ tables_1, d.before a0 Z = true) (a : Addr) (cz : Int32) (h0 : Heap) (n0 : Nat) (OL : Old Z n0 h0) (SC : Sta Z Z.heap "java/lang/String" "COMPACT_STRINGS" "Z" (.int cz)) (hcz : ¬ cz = 0) (F_coder_a : Fld Z h0 a "java/lang/String" "coder" "B" (.int (0 : Int32))) :
    own_Met l Z (⟨"java/lang/String", "coder", "()B"⟩ : MethodName) jdk_42_method_152_code 1 (some .byte) ({ frames := 0, cells := 0, slots := 0, locals := 0 } : Room) #[(.ref a)] h0 (Q_j_coder h0 n0) := by
  refine own_body (L0 := #[.val (.ref a)]) (plainFor_of_name (by first | (simp [plainName, overriddenIn]; done) | decide +kernel)) (fun m => by first | (simp [entryFrame, mkF, argsToLocals, Value.category]; done) | rfl) ?_
  intro p e s m below meth c s₁ hx hby hml hZ hown hnm hret hlk X0 e0
  have N0 := Fr.nil n0
  have Z0 : n0 ≤ h0.size := OL.1 ▸ OL.2.1
  show OwnOk p e below _ (s₁.setTop (mkF m 0 #[.val (.ref a)] []))
  obtain ⟨T11, X11, e11, st11⟩ := getS2 X0 hx hZ hown (host := "") (Or.inl (wd_41 hw)) Via.refl e0 (SC.ext OL.2) (g := (mkF m 0 #[.val (.ref a)] [])) rfl (hb hby d7_0)
  refine own_up st11 ?_
  show OwnOk p e below _ (T11.setTop (mkF m 3 #[.val (.ref a)] [(.int cz)]))
  refine own_up (fun tx kx => XS.ifNo X11.here hx rfl (hb hby d7_3) rfl ((if0 _ _).trans (feq hcz).1) kx) ?_
  show OwnOk p e below _ (T11.setTop (mkF m 6 #[.val (.ref a)] []))
  refine own_up (fun tx kx => XS.aloadN X11.here hx rfl (hb hby d7_6) rfl rfl kx) ?_
  show OwnOk p e below _ (T11.setTop (mkF m 7 #[.val (.ref a)] [(.ref a)]))
  obtain ⟨T12, X12, e12, st12⟩ := getF X11 hx hZ hown (host := "") (Or.inl (wd_26 hw)) Via.refl e11 F_coder_a (g := (mkF m 7 #[.val (.ref a)] [(.ref a)])) rfl rfl (hb hby d7_7)
  refine own_up st12 ?_
  show OwnOk p e below _ (T12.setTop (mkF m 10 #[.val (.ref a)] [(.int (0 : Int32))]))
  refine own_up (fun tx kx => XS.goto X12.here hx rfl (pc0 := 10) (pc' := 14) rfl (hb hby d7_10) (by decide) (by decide) kx) ?_
  show OwnOk p e below _ (T12.setTop (mkF m 14 #[.val (.ref a)] [(.int (0 : Int32))]))
  refine own_retN X12 hx (t := .byte) (show meth.sig.returnType = some .byte from hret) (by simp) hlk (hb hby d7_14) (z' := (0 : Int32)) rfl e12 (Nat.le_of_ble_eq_true rfl) (Nat.le_of_ble_eq_true rfl) ?_
  exact ⟨rfl, N0, rfl⟩
def Q_j_length (ln : Nat) (h0 : Heap) (n0 : Nat) (v : Option Value) (h : Heap) (L : List Loc) : Prop := v = some (.int (Int32.ofNat ln)) ∧ Fr n0 L ∧ h = h0
set_option maxRecDepth 65536 in
set_option maxHeartbeats 40000000 in
theorem j_length (l : Launch) (Z : State) (a0 : Array Value) (hw : ∀ d ∈ tables_1, d.before a0 Z = true) (a u : Addr) (ku : ClassId) (ln : Nat) (g : Nat → Int32) (cz : Int32) (h0 : Heap) (n0 : Nat) (OL : Old Z n0 h0) (SC : Sta Z Z.heap "java/lang/String" "COMPACT_STRINGS" "Z" (.int cz)) (hcz : ¬ cz = 0) (E_a : Exa Z h0 a "java/lang/String") (F_value_a : Fld Z h0 a "java/lang/String" "value" "[B" (.ref u)) (F_coder_a : Fld Z h0 a "java/lang/String" "coder" "B" (.int (0 : Int32))) (V_u : Arv Z h0 u ku .byte (Int32.ofNat ln) (own_F ln g) (.int (0 : Int32))) :
    own_Met l Z (⟨"java/lang/String", "length", "()I"⟩ : MethodName) jdk_42_method_54_code 1 (some .int) ({ frames := 1, cells := 0, slots := 0, locals := 13 } : Room) #[(.ref a)] h0 (Q_j_length ln h0 n0) := by
  refine own_body (L0 := #[.val (.ref a)]) (plainFor_of_name (by first | (simp [plainName, overriddenIn]; done) | decide +kernel)) (fun m => by first | (simp [entryFrame, mkF, argsToLocals, Value.category]; done) | rfl) ?_
  intro p e s m below meth c s₁ hx hby hml hZ hown hnm hret hlk X0 e0
  have N0 := Fr.nil n0
  have Z0 : n0 ≤ h0.size := OL.1 ▸ OL.2.1
  show OwnOk p e below _ (s₁.setTop (mkF m 0 #[.val (.ref a)] []))
  refine own_up (fun tx kx => XS.aloadN X0.here hx rfl (hb hby d6_0) rfl rfl kx) ?_
  show OwnOk p e below _ (s₁.setTop (mkF m 1 #[.val (.ref a)] [(.ref a)]))
  obtain ⟨T11, X11, e11, st11⟩ := getF X0 hx hZ hown (host := "") (Or.inl (wd_25 hw)) Via.refl e0 F_value_a (g := (mkF m 1 #[.val (.ref a)] [(.ref a)])) rfl rfl (hb hby d6_1)
  refine own_up st11 ?_
  show OwnOk p e below _ (T11.setTop (mkF m 4 #[.val (.ref a)] [(.ref u)]))
  obtain ⟨cl12, Ar12, qc12, Sz12, Nn12, Hs12, Gf12⟩ := id V_u
  have hlen12 : cl12.slots.size.toInt32 = (Int32.ofNat ln) := len_of Sz12 Nn12
  refine own_up (fun tx kx => X11.arraylength hx (own_ar e11 Ar12.1) (State.isArrayOf_alike hZ.alike Ar12.2.1) (g := (mkF m 4 #[.val (.ref a)] [(.ref u)])) rfl rfl (hb hby d6_4) _ kx) ?_
  rw [hlen12]
  show OwnOk p e below _ (T11.setTop (mkF m 5 #[.val (.ref a)] [(.int (Int32.ofNat ln))]))
  refine own_up (fun tx kx => XS.aloadN X11.here hx rfl (hb hby d6_5) rfl rfl kx) ?_
  show OwnOk p e below _ (T11.setTop (mkF m 6 #[.val (.ref a)] [(.ref a), (.int (Int32.ofNat ln))]))
  refine own_callV X11 hx hZ (y := (⟨"java/lang/String", "coder", "()B"⟩ : MethodName)) (z := (⟨"java/lang/String", "coder", "()B"⟩ : MethodName)) hown (wd_36 hw) (wd_37 hw) (notFace_of_selects (args := #[]) (mvT hZ (wd_39 hw))) (wd_39 hw) (wd_38 hw) (wd_8 hw) (wd_40 hw) (by decide) (j_coder l Z a0 hw a cz h0 n0 OL SC hcz F_coder_a) e11 (argsL := []) (rest := [(.int (Int32.ofNat ln))]) E_a (by rw [hml]; rfl) (lenOf pd_0 rfl) rfl rfl (W := 1) rfl (hb hby d6_6) (by decide) (by decide) (by decide) (by decide) (fun T13 v13 L13 X13 hQ13 => ?_)
  obtain ⟨rfl, Nq13, hh13⟩ := hQ13
  have N13 := Fr.app N0 Nq13
  show OwnOk p e below _ (T13.setTop (mkF m 9 #[.val (.ref a)] [(.int (0 : Int32)), (.int (Int32.ofNat ln))]))
  refine own_up (fun tx kx => XS.ishr X13.here hx rfl (hb hby d6_9) rfl kx) ?_
  show OwnOk p e below _ (T13.setTop (mkF m 10 #[.val (.ref a)] [(.int ((Int32.ofNat ln) >>> ((0 : Int32) &&& 31)))]))
  rw [show ((Int32.ofNat ln) >>> ((0 : Int32) &&& 31)) = (Int32.ofNat ln) from own_shr0 (Int32.ofNat ln)]
  show OwnOk p e below _ (T13.setTop (mkF m 10 #[.val (.ref a)] [(.int (Int32.ofNat ln))]))
  refine own_retI X13 hx (show meth.sig.returnType = some .int from hret) hlk (hb hby d6_10) hh13 (Nat.le_of_ble_eq_true rfl) (Nat.le_of_ble_eq_true rfl) ?_
  exact ⟨rfl, N13, rfl⟩
def Q_j_chkLen (h0 : Heap) (n0 : Nat) (v : Option Value) (h : Heap) (L : List Loc) : Prop := v = none ∧ Fr n0 L ∧ h = h0
set_option maxRecDepth 65536 in
set_option maxHeartbeats 40000000 in
theorem j_chkLen (l : Launch) (Z : State) (a0 : Array Value) (hw : ∀ d ∈ tables_1, d.before a0 Z = true) (x y : Int32) (h0 : Heap) (n0 : Nat) (OL : Old Z n0 h0) (hle : ¬ y < x) :
    own_Met l Z (⟨"java/util/Arrays", "checkLength", "(II)V"⟩ : MethodName) jdk_65_method_131_code 2 none ({ frames := 0, cells := 0, slots := 0, locals := 0 } : Room) #[(.int x), (.int y)] h0 (Q_j_chkLen h0 n0) := by
  refine own_body (L0 := #[.val (.int x), .val (.int y)]) (plainFor_of_name (by first | (simp [plainName, overriddenIn]; done) | decide +kernel)) (fun m => by first | (simp [entryFrame, mkF, argsToLocals, Value.category]; done) | rfl) ?_
  intro p e s m below meth c s₁ hx hby hml hZ hown hnm hret hlk X0 e0
  have N0 := Fr.nil n0
  have Z0 : n0 ≤ h0.size := OL.1 ▸ OL.2.1
  show OwnOk p e below _ (s₁.setTop (mkF m 0 #[.val (.int x), .val (.int y)] []))
  refine own_up (fun tx kx => XS.iloadN X0.here hx rfl (hb hby d24_0) rfl kx) ?_
  show OwnOk p e below _ (s₁.setTop (mkF m 1 #[.val (.int x), .val (.int y)] [(.int y)]))
  refine own_up (fun tx kx => XS.iloadN X0.here hx rfl (hb hby d24_1) rfl kx) ?_
  show OwnOk p e below _ (s₁.setTop (mkF m 2 #[.val (.int x), .val (.int y)] [(.int x), (.int y)]))
  refine own_up (fun tx kx => XS.icmpYes X0.here hx rfl (pc0 := 2) (pc' := 37) rfl (hb hby d24_2) rfl (flt hle).2.1 (by decide) (by decide) kx) ?_
  show OwnOk p e below _ (s₁.setTop (mkF m 37 #[.val (.int x), .val (.int y)] []))
  refine own_retV X0 hx (show meth.sig.returnType = none from hret) hlk (hb hby d24_37) e0 (Nat.le_of_ble_eq_true rfl) (Nat.le_of_ble_eq_true rfl) ?_
  exact ⟨rfl, N0, rfl⟩
def Q_j_copyB (Z : State) (f : Nat → Int32) (fr to : Nat) (h0 : Heap) (n0 : Nat) (v : Option Value) (h : Heap) (L : List Loc) : Prop := ∃ (r : Addr) (kr : ClassId), v = some (.ref r) ∧ Fr n0 L ∧ Keep h0 h [] ∧ h0.size ≤ r ∧ (Exa Z h r "[B") ∧ (Arv Z h r kr .byte (Int32.ofNat (to - fr)) (own_F (to - fr) (fun j => f (fr + j))) (.int (0 : Int32)))
set_option maxRecDepth 65536 in
set_option maxHeartbeats 40000000 in
theorem j_copyB (l : Launch) (Z : State) (a0 : Array Value) (hw : ∀ d ∈ tables_1, d.before a0 Z = true) (t : Addr) (kt : ClassId) (cap : Nat) (f : Nat → Int32) (fr to : Nat) (h0 : Heap) (n0 : Nat) (OL : Old Z n0 h0) (V_t : Arv Z h0 t kt .byte (Int32.ofNat cap) (own_F cap f) (.int (0 : Int32))) (h1 : fr ≤ to) (h2 : to ≤ cap) (hcap : cap ≤ 4) :
    own_Met l Z (⟨"java/util/Arrays", "copyOfRangeByte", "([BII)[B"⟩ : MethodName) jdk_65_method_133_code 5 (some (.array .byte)) ({ frames := 1, cells := 1, slots := 4, locals := 32 } : Room) #[(.ref t), (.int (Int32.ofNat fr)), (.int (Int32.ofNat to))] h0 (Q_j_copyB Z f fr to h0 n0) := by
  refine own_body (L0 := #[.val (.ref t), .val (.int (Int32.ofNat fr)), .val (.int (Int32.ofNat to)), .unset, .unset]) (plainFor_of_name (by first | (simp [plainName, overriddenIn]; done) | decide +kernel)) (fun m => by first | (simp [entryFrame, mkF, argsToLocals, Value.category]; done) | rfl) ?_
  intro p e s m below meth c s₁ hx hby hml hZ hown hnm hret hlk X0 e0
  have N0 := Fr.nil n0
  have Z0 : n0 ≤ h0.size := OL.1 ▸ OL.2.1
  show OwnOk p e below _ (s₁.setTop (mkF m 0 #[.val (.ref t), .val (.int (Int32.ofNat fr)), .val (.int (Int32.ofNat to)), .unset, .unset] []))
  have KP0 : Keep h0 h0 [] := Keep.refl h0 _
  refine own_up (fun tx kx => XS.iloadN X0.here hx rfl (hb hby d23_0) rfl kx) ?_
  show OwnOk p e below _ (s₁.setTop (mkF m 1 #[.val (.ref t), .val (.int (Int32.ofNat fr)), .val (.int (Int32.ofNat to)), .unset, .unset] [(.int (Int32.ofNat fr))]))
  refine own_up (fun tx kx => XS.iloadN X0.here hx rfl (hb hby d23_1) rfl kx) ?_
  show OwnOk p e below _ (s₁.setTop (mkF m 2 #[.val (.ref t), .val (.int (Int32.ofNat fr)), .val (.int (Int32.ofNat to)), .unset, .unset] [(.int (Int32.ofNat to)), (.int (Int32.ofNat fr))]))
  refine own_callS X0 hx hZ (y := (⟨"java/util/Arrays", "checkLength", "(II)V"⟩ : MethodName)) hown (wd_104 hw) (wd_105 hw) (wd_99 hw) (wd_106 hw) (by decide) (j_chkLen l Z a0 hw (Int32.ofNat fr) (Int32.ofNat to) h0 n0 OL (own_nlt h1 (by omega))) e0 (argsL := [(.int (Int32.ofNat fr)), (.int (Int32.ofNat to))]) (rest := []) (by rw [hml]; rfl) (lenOf pd_1 rfl) rfl rfl (W := 0) rfl (hb hby d23_2) (by decide) (by decide) (by decide) (by decide) (fun T11 v11 L11 X11 hQ11 => ?_)
  obtain ⟨rfl, Nq11, hh11⟩ := hQ11
  have N11 := Fr.app N0 Nq11
  show OwnOk p e below _ (T11.setTop (mkF m 5 #[.val (.ref t), .val (.int (Int32.ofNat fr)), .val (.int (Int32.ofNat to)), .unset, .unset] []))
  refine own_up (fun tx kx => XS.iloadN X11.here hx rfl (hb hby d23_5) rfl kx) ?_
  show OwnOk p e below _ (T11.setTop (mkF m 6 #[.val (.ref t), .val (.int (Int32.ofNat fr)), .val (.int (Int32.ofNat to)), .unset, .unset] [(.int (Int32.ofNat to))]))
  refine own_up (fun tx kx => XS.iloadN X11.here hx rfl (hb hby d23_6) rfl kx) ?_
  show OwnOk p e below _ (T11.setTop (mkF m 7 #[.val (.ref t), .val (.int (Int32.ofNat fr)), .val (.int (Int32.ofNat to)), .unset, .unset] [(.int (Int32.ofNat fr)), (.int (Int32.ofNat to))]))
  refine own_up (fun tx kx => XS.isub X11.here hx rfl (hb hby d23_7) rfl kx) ?_
  show OwnOk p e below _ (T11.setTop (mkF m 8 #[.val (.ref t), .val (.int (Int32.ofNat fr)), .val (.int (Int32.ofNat to)), .unset, .unset] [(.int ((Int32.ofNat to) - (Int32.ofNat fr)))]))
  rw [show ((Int32.ofNat to) - (Int32.ofNat fr)) = (Int32.ofNat (to - fr)) from (Int32.ofNat_sub to fr h1).symm]
  show OwnOk p e below _ (T11.setTop (mkF m 8 #[.val (.ref t), .val (.int (Int32.ofNat fr)), .val (.int (Int32.ofNat to)), .unset, .unset] [(.int (Int32.ofNat (to - fr)))]))
  refine own_up (fun tx kx => XS.istoreN X11.here hx rfl (hb hby d23_8) rfl (l' := #[.val (.ref t), .val (.int (Int32.ofNat fr)), .val (.int (Int32.ofNat to)), .val (.int (Int32.ofNat (to - fr))), .unset]) rfl kx) ?_
  show OwnOk p e below _ (T11.setTop (mkF m 9 #[.val (.ref t), .val (.int (Int32.ofNat fr)), .val (.int (Int32.ofNat to)), .val (.int (Int32.ofNat (to - fr))), .unset] []))
  refine own_up (fun tx kx => XS.iloadN X11.here hx rfl (hb hby d23_9) rfl kx) ?_
  show OwnOk p e below _ (T11.setTop (mkF m 10 #[.val (.ref t), .val (.int (Int32.ofNat fr)), .val (.int (Int32.ofNat to)), .val (.int (Int32.ofNat (to - fr))), .unset] [(.int (Int32.ofNat (to - fr)))]))
  obtain ⟨T12, h12, k12, X12, e12, E12, A12, P12, st12⟩ := newPE (aty := .byte) X11 hx hZ (wd_20 hw) hh11 (g := (mkF m 10 #[.val (.ref t), .val (.int (Int32.ofNat fr)), .val (.int (Int32.ofNat to)), .val (.int (Int32.ofNat (to - fr))), .unset] [(.int (Int32.ofNat (to - fr)))])) rfl (hb hby d23_10) rfl (own_nn (to - fr) (by omega)) (cap := 4) (by rw [own_cl _ (by omega)]; omega) (by decide) (by decide) (by decide) (ad := "[B") (by decide)
  obtain ⟨b12, g12⟩ : ∃ z, z = h0.size := ⟨_, rfl⟩
  rw [← g12] at A12 P12 st12
  have sz_b12 : h0.size ≤ b12 := Nat.le_of_eq g12.symm
  have lt_t_b12 : t < b12 := Nat.lt_of_lt_of_le V_t.lt sz_b12
  have n0_b12 : n0 ≤ b12 := Nat.le_trans (own_n0 OL) sz_b12
  have ws_b12 : h0.size ≤ b12 := Nat.le_trans KP0.1 sz_b12
  have V_b12 : Arv Z h12 b12 k12 .byte (Int32.ofNat (to - fr)) (own_F (to - fr) fun _ => 0) (.int (0 : Int32)) := own_newF (Arv.new A12 (own_nn (to - fr) (by omega))) (to - fr)
  have OL14 := OL.ext E12
  have KP14 := KP0.ext E12
  refine own_up st12 ?_
  show OwnOk p e below _ (T12.setTop (mkF m 12 #[.val (.ref t), .val (.int (Int32.ofNat fr)), .val (.int (Int32.ofNat to)), .val (.int (Int32.ofNat (to - fr))), .unset] [(.ref b12)]))
  refine own_up (fun tx kx => XS.astore X12.here hx rfl (hb hby d23_12) rfl rfl (l' := #[.val (.ref t), .val (.int (Int32.ofNat fr)), .val (.int (Int32.ofNat to)), .val (.int (Int32.ofNat (to - fr))), .val (.ref b12)]) rfl kx) ?_
  show OwnOk p e below _ (T12.setTop (mkF m 14 #[.val (.ref t), .val (.int (Int32.ofNat fr)), .val (.int (Int32.ofNat to)), .val (.int (Int32.ofNat (to - fr))), .val (.ref b12)] []))
  refine own_up (fun tx kx => XS.aloadN X12.here hx rfl (hb hby d23_14) rfl rfl kx) ?_
  show OwnOk p e below _ (T12.setTop (mkF m 15 #[.val (.ref t), .val (.int (Int32.ofNat fr)), .val (.int (Int32.ofNat to)), .val (.int (Int32.ofNat (to - fr))), .val (.ref b12)] [(.ref t)]))
  refine own_up (fun tx kx => XS.iloadN X12.here hx rfl (hb hby d23_15) rfl kx) ?_
  show OwnOk p e below _ (T12.setTop (mkF m 16 #[.val (.ref t), .val (.int (Int32.ofNat fr)), .val (.int (Int32.ofNat to)), .val (.int (Int32.ofNat (to - fr))), .val (.ref b12)] [(.int (Int32.ofNat fr)), (.ref t)]))
  refine own_up (fun tx kx => XS.aload X12.here hx rfl (hb hby d23_16) rfl rfl kx) ?_
  show OwnOk p e below _ (T12.setTop (mkF m 18 #[.val (.ref t), .val (.int (Int32.ofNat fr)), .val (.int (Int32.ofNat to)), .val (.int (Int32.ofNat (to - fr))), .val (.ref b12)] [(.ref b12), (.int (Int32.ofNat fr)), (.ref t)]))
  refine own_up (fun tx kx => XS.iconst X12.here hx rfl (hb hby d23_18) kx) ?_
  show OwnOk p e below _ (T12.setTop (mkF m 19 #[.val (.ref t), .val (.int (Int32.ofNat fr)), .val (.int (Int32.ofNat to)), .val (.int (Int32.ofNat (to - fr))), .val (.ref b12)] [(.int (0 : Int32)), (.ref b12), (.int (Int32.ofNat fr)), (.ref t)]))
  refine own_up (fun tx kx => XS.aloadN X12.here hx rfl (hb hby d23_19) rfl rfl kx) ?_
  show OwnOk p e below _ (T12.setTop (mkF m 20 #[.val (.ref t), .val (.int (Int32.ofNat fr)), .val (.int (Int32.ofNat to)), .val (.int (Int32.ofNat (to - fr))), .val (.ref b12)] [(.ref t), (.int (0 : Int32)), (.ref b12), (.int (Int32.ofNat fr)), (.ref t)]))
  have V_t_15 := (V_t.ext E12)
  obtain ⟨cl16, Ar16, qc16, Sz16, Nn16, Hs16, Gf16⟩ := id V_t_15
  have hlen16 : cl16.slots.size.toInt32 = (Int32.ofNat cap) := len_of Sz16 Nn16
  refine own_up (fun tx kx => X12.arraylength hx (own_ar e12 Ar16.1) (State.isArrayOf_alike hZ.alike Ar16.2.1) (g := (mkF m 20 #[.val (.ref t), .val (.int (Int32.ofNat fr)), .val (.int (Int32.ofNat to)), .val (.int (Int32.ofNat (to - fr))), .val (.ref b12)] [(.ref t), (.int (0 : Int32)), (.ref b12), (.int (Int32.ofNat fr)), (.ref t)])) rfl rfl (hb hby d23_20) _ kx) ?_
  rw [hlen16]
  show OwnOk p e below _ (T12.setTop (mkF m 21 #[.val (.ref t), .val (.int (Int32.ofNat fr)), .val (.int (Int32.ofNat to)), .val (.int (Int32.ofNat (to - fr))), .val (.ref b12)] [(.int (Int32.ofNat cap)), (.int (0 : Int32)), (.ref b12), (.int (Int32.ofNat fr)), (.ref t)]))
  refine own_up (fun tx kx => XS.iloadN X12.here hx rfl (hb hby d23_21) rfl kx) ?_
  show OwnOk p e below _ (T12.setTop (mkF m 22 #[.val (.ref t), .val (.int (Int32.ofNat fr)), .val (.int (Int32.ofNat to)), .val (.int (Int32.ofNat (to - fr))), .val (.ref b12)] [(.int (Int32.ofNat fr)), (.int (Int32.ofNat cap)), (.int (0 : Int32)), (.ref b12), (.int (Int32.ofNat fr)), (.ref t)]))
  refine own_up (fun tx kx => XS.isub X12.here hx rfl (hb hby d23_22) rfl kx) ?_
  show OwnOk p e below _ (T12.setTop (mkF m 23 #[.val (.ref t), .val (.int (Int32.ofNat fr)), .val (.int (Int32.ofNat to)), .val (.int (Int32.ofNat (to - fr))), .val (.ref b12)] [(.int ((Int32.ofNat cap) - (Int32.ofNat fr))), (.int (0 : Int32)), (.ref b12), (.int (Int32.ofNat fr)), (.ref t)]))
  rw [show ((Int32.ofNat cap) - (Int32.ofNat fr)) = (Int32.ofNat (cap - fr)) from (Int32.ofNat_sub cap fr (by omega)).symm]
  show OwnOk p e below _ (T12.setTop (mkF m 23 #[.val (.ref t), .val (.int (Int32.ofNat fr)), .val (.int (Int32.ofNat to)), .val (.int (Int32.ofNat (to - fr))), .val (.ref b12)] [(.int (Int32.ofNat (cap - fr))), (.int (0 : Int32)), (.ref b12), (.int (Int32.ofNat fr)), (.ref t)]))
  refine own_up (fun tx kx => XS.iloadN X12.here hx rfl (hb hby d23_23) rfl kx) ?_
  show OwnOk p e below _ (T12.setTop (mkF m 24 #[.val (.ref t), .val (.int (Int32.ofNat fr)), .val (.int (Int32.ofNat to)), .val (.int (Int32.ofNat (to - fr))), .val (.ref b12)] [(.int (Int32.ofNat (to - fr))), (.int (Int32.ofNat (cap - fr))), (.int (0 : Int32)), (.ref b12), (.int (Int32.ofNat fr)), (.ref t)]))
  refine own_callS X12 hx hZ (y := (⟨"java/lang/Math", "min", "(II)I"⟩ : MethodName)) hown (wd_107 hw) (wd_108 hw) (wd_109 hw) (wd_110 hw) (by decide) (j_min l Z a0 hw (Int32.ofNat (cap - fr)) (Int32.ofNat (to - fr)) h12 n0 OL14) e12 (argsL := [(.int (Int32.ofNat (cap - fr))), (.int (Int32.ofNat (to - fr)))]) (rest := [(.int (0 : Int32)), (.ref b12), (.int (Int32.ofNat fr)), (.ref t)]) (by rw [hml]; rfl) (lenOf pd_2 rfl) rfl rfl (W := 4) rfl (hb hby d23_24) (by decide) (by decide) (by decide) (by decide) (fun T17 v17 L17 X17 hQ17 => ?_)
  obtain ⟨rfl, Nq17, hh17⟩ := hQ17
  have N17 := Fr.app N11 Nq17
  show OwnOk p e below _ (T17.setTop (mkF m 27 #[.val (.ref t), .val (.int (Int32.ofNat fr)), .val (.int (Int32.ofNat to)), .val (.int (Int32.ofNat (to - fr))), .val (.ref b12)] [(.int (if (Int32.ofNat (to - fr)) < (Int32.ofNat (cap - fr)) then (Int32.ofNat (to - fr)) else (Int32.ofNat (cap - fr)))), (.int (0 : Int32)), (.ref b12), (.int (Int32.ofNat fr)), (.ref t)]))
  rw [show (if (Int32.ofNat (to - fr)) < (Int32.ofNat (cap - fr)) then (Int32.ofNat (to - fr)) else (Int32.ofNat (cap - fr))) = (Int32.ofNat (to - fr)) from own_min (by omega : to - fr ≤ cap - fr) (by omega)]
  show OwnOk p e below _ (T17.setTop (mkF m 27 #[.val (.ref t), .val (.int (Int32.ofNat fr)), .val (.int (Int32.ofNat to)), .val (.int (Int32.ofNat (to - fr))), .val (.ref b12)] [(.int (Int32.ofNat (to - fr))), (.int (0 : Int32)), (.ref b12), (.int (Int32.ofNat fr)), (.ref t)]))
  show OwnOk p e below _ (T17.setTop (mkF m 27 #[.val (.ref t), .val (.int (Int32.ofNat fr)), .val (.int (Int32.ofNat to)), .val (.int (Int32.ofNat (to - fr))), .val (.ref b12)] [(.int (Int32.ofNat (to - fr))), (.int (Int32.ofNat 0)), (.ref b12), (.int (Int32.ofNat fr)), (.ref t)]))
  obtain ⟨T18, h18, L18, X18, e18, N18, K18, V18, st18⟩ := cpA X17 hx hZ hown (wd_111 hw) (wd_114 hw) (wd_112 hw) (wd_113 hw) hh17 V_t_15 V_b12 (Or.inl ⟨rfl, rfl⟩) (own_nn fr (by omega)) (own_nn 0 (by omega)) (own_nn (to - fr) (by omega)) (own_cl3 (a := fr) (b := (to - fr)) (c := cap) (by omega) (by omega) (by omega) (by omega)) (own_cl3 (a := 0) (b := (to - fr)) (c := (to - fr)) (by omega) (by omega) (by omega) (by omega)) rfl (own_clF (a := 0) (b := (to - fr)) (by omega) (by omega) (by omega)) N17 n0_b12 (g := (mkF m 27 #[.val (.ref t), .val (.int (Int32.ofNat fr)), .val (.int (Int32.ofNat to)), .val (.int (Int32.ofNat (to - fr))), .val (.ref b12)] [(.int (Int32.ofNat (to - fr))), (.int (Int32.ofNat 0)), (.ref b12), (.int (Int32.ofNat fr)), (.ref t)])) rfl (by rw [hml]; rfl) rfl (hb hby d23_27) (by decide) (W := 0) (by show 2 * 0 + _ ≤ _; exact Nat.le_of_eq rfl) (by decide)
  rw [own_F_copyI (n := (to - fr)) (dp := 0) (nn := (to - fr)) (sp := fr) (ns := cap) (by omega) (by omega) (by omega) (by omega) (by omega)] at V18
  have OL19 := OL14.keep K18 (allS n0_b12 all0)
  have KP19 := KP14.trans K18 (allS (Or.inr ws_b12) all0)
  refine own_up st18 ?_
  show OwnOk p e below _ (T18.setTop (mkF m 30 #[.val (.ref t), .val (.int (Int32.ofNat fr)), .val (.int (Int32.ofNat to)), .val (.int (Int32.ofNat (to - fr))), .val (.ref b12)] []))
  refine own_up (fun tx kx => XS.aload X18.here hx rfl (hb hby d23_30) rfl rfl kx) ?_
  show OwnOk p e below _ (T18.setTop (mkF m 32 #[.val (.ref t), .val (.int (Int32.ofNat fr)), .val (.int (Int32.ofNat to)), .val (.int (Int32.ofNat (to - fr))), .val (.ref b12)] [(.ref b12)]))
  have Vf : Arv Z h18 b12 k12 .byte (Int32.ofNat (to - fr)) (own_F (to - fr) (fun j => f (fr + j))) (.int (0 : Int32)) := (own_F_congr (n := to - fr) (f := fun j => if 0 ≤ j ∧ j < 0 + (to - fr) then f (fr + (j - 0)) else (fun _ => 0) j) (g := fun j => f (fr + j)) (fun j hj => by dsimp only; rw [if_pos ⟨Nat.zero_le _, by omega⟩, Nat.sub_zero])) ▸ V18
  have E_b12_20 := (P12.keep K18)
  refine own_retR X18 hx (t := (.array .byte)) (show meth.sig.returnType = some (.array .byte) from hret) rfl hlk rfl (hb hby d23_32) e18 (Nat.le_of_ble_eq_true rfl) (Nat.le_of_ble_eq_true rfl) ?_
  exact ⟨b12, _, rfl, N18, KP19, ws_b12, E_b12_20, Vf⟩
def Q_j_copyR (Z : State) (f : Nat → Int32) (fr to : Nat) (h0 : Heap) (n0 : Nat) (v : Option Value) (h : Heap) (L : List Loc) : Prop := ∃ (r : Addr) (kr : ClassId), v = some (.ref r) ∧ Fr n0 L ∧ Keep h0 h [] ∧ h0.size ≤ r ∧ (Exa Z h r "[B") ∧ (Arv Z h r kr .byte (Int32.ofNat (to - fr)) (own_F (to - fr) (fun j => f (fr + j))) (.int (0 : Int32)))
set_option maxRecDepth 65536 in
set_option maxHeartbeats 40000000 in
theorem j_copyR (l : Launch) (Z : State) (a0 : Array Value) (hw : ∀ d ∈ tables_1, d.before a0 Z = true) (t : Addr) (kt : ClassId) (cap : Nat) (f : Nat → Int32) (fr to : Nat) (h0 : Heap) (n0 : Nat) (OL : Old Z n0 h0) (V_t : Arv Z h0 t kt .byte (Int32.ofNat cap) (own_F cap f) (.int (0 : Int32))) (h1 : fr ≤ to) (h2 : to ≤ cap) (hcap : cap ≤ 4) (hnc : ¬ (fr = 0 ∧ to = cap)) :
    own_Met l Z (⟨"java/util/Arrays", "copyOfRange", "([BII)[B"⟩ : MethodName) jdk_65_method_132_code 3 (some (.array .byte)) ({ frames := 2, cells := 1, slots := 4, locals := 48 } : Room) #[(.ref t), (.int (Int32.ofNat fr)), (.int (Int32.ofNat to))] h0 (Q_j_copyR Z f fr to h0 n0) := by
  refine own_body (L0 := #[.val (.ref t), .val (.int (Int32.ofNat fr)), .val (.int (Int32.ofNat to))]) (plainFor_of_name (by first | (simp [plainName, overriddenIn]; done) | decide +kernel)) (fun m => by first | (simp [entryFrame, mkF, argsToLocals, Value.category]; done) | rfl) ?_
  intro p e s m below meth c s₁ hx hby hml hZ hown hnm hret hlk X0 e0
  have N0 := Fr.nil n0
  have Z0 : n0 ≤ h0.size := OL.1 ▸ OL.2.1
  show OwnOk p e below _ (s₁.setTop (mkF m 0 #[.val (.ref t), .val (.int (Int32.ofNat fr)), .val (.int (Int32.ofNat to))] []))
  have KP0 : Keep h0 h0 [] := Keep.refl h0 _
  refine own_up (fun tx kx => XS.iloadN X0.here hx rfl (hb hby d22_0) rfl kx) ?_
  show OwnOk p e below _ (s₁.setTop (mkF m 1 #[.val (.ref t), .val (.int (Int32.ofNat fr)), .val (.int (Int32.ofNat to))] [(.int (Int32.ofNat fr))]))
  by_cases hz : (Int32.ofNat fr) = (0 : Int32)
  · refine own_up (fun tx kx => XS.ifNo X0.here hx rfl (hb hby d22_1) rfl ((if0 _ _).trans (teq hz).2) kx) ?_
    show OwnOk p e below _ (s₁.setTop (mkF m 4 #[.val (.ref t), .val (.int (Int32.ofNat fr)), .val (.int (Int32.ofNat to))] []))
    refine own_up (fun tx kx => XS.iloadN X0.here hx rfl (hb hby d22_4) rfl kx) ?_
    show OwnOk p e below _ (s₁.setTop (mkF m 5 #[.val (.ref t), .val (.int (Int32.ofNat fr)), .val (.int (Int32.ofNat to))] [(.int (Int32.ofNat to))]))
    refine own_up (fun tx kx => XS.aloadN X0.here hx rfl (hb hby d22_5) rfl rfl kx) ?_
    show OwnOk p e below _ (s₁.setTop (mkF m 6 #[.val (.ref t), .val (.int (Int32.ofNat fr)), .val (.int (Int32.ofNat to))] [(.ref t), (.int (Int32.ofNat to))]))
    obtain ⟨cl11, Ar11, qc11, Sz11, Nn11, Hs11, Gf11⟩ := id V_t
    have hlen11 : cl11.slots.size.toInt32 = (Int32.ofNat cap) := len_of Sz11 Nn11
    refine own_up (fun tx kx => X0.arraylength hx (own_ar e0 Ar11.1) (State.isArrayOf_alike hZ.alike Ar11.2.1) (g := (mkF m 6 #[.val (.ref t), .val (.int (Int32.ofNat fr)), .val (.int (Int32.ofNat to))] [(.ref t), (.int (Int32.ofNat to))])) rfl rfl (hb hby d22_6) _ kx) ?_
    rw [hlen11]
    show OwnOk p e below _ (s₁.setTop (mkF m 7 #[.val (.ref t), .val (.int (Int32.ofNat fr)), .val (.int (Int32.ofNat to))] [(.int (Int32.ofNat cap)), (.int (Int32.ofNat to))]))
    by_cases hq : (Int32.ofNat to) = (Int32.ofNat cap)
    · refine own_up (fun tx kx => XS.icmpYes X0.here hx rfl (pc0 := 7) (pc' := 17) rfl (hb hby d22_7) rfl (teq hq).1 (by decide) (by decide) kx) ?_
      show OwnOk p e below _ (s₁.setTop (mkF m 17 #[.val (.ref t), .val (.int (Int32.ofNat fr)), .val (.int (Int32.ofNat to))] []))
      exact absurd ⟨own_ofNat0 hz (by omega), own_ofNatEq hq (by omega) (by omega)⟩ hnc
    · refine own_up (fun tx kx => XS.icmpNo X0.here hx rfl (hb hby d22_7) rfl (feq hq).1 kx) ?_
      show OwnOk p e below _ (s₁.setTop (mkF m 10 #[.val (.ref t), .val (.int (Int32.ofNat fr)), .val (.int (Int32.ofNat to))] []))
      refine own_up (fun tx kx => XS.aloadN X0.here hx rfl (hb hby d22_10) rfl rfl kx) ?_
      show OwnOk p e below _ (s₁.setTop (mkF m 11 #[.val (.ref t), .val (.int (Int32.ofNat fr)), .val (.int (Int32.ofNat to))] [(.ref t)]))
      refine own_up (fun tx kx => XS.iloadN X0.here hx rfl (hb hby d22_11) rfl kx) ?_
      show OwnOk p e below _ (s₁.setTop (mkF m 12 #[.val (.ref t), .val (.int (Int32.ofNat fr)), .val (.int (Int32.ofNat to))] [(.int (Int32.ofNat fr)), (.ref t)]))
      refine own_up (fun tx kx => XS.iloadN X0.here hx rfl (hb hby d22_12) rfl kx) ?_
      show OwnOk p e below _ (s₁.setTop (mkF m 13 #[.val (.ref t), .val (.int (Int32.ofNat fr)), .val (.int (Int32.ofNat to))] [(.int (Int32.ofNat to)), (.int (Int32.ofNat fr)), (.ref t)]))
      refine own_callS X0 hx hZ (y := (⟨"java/util/Arrays", "copyOfRangeByte", "([BII)[B"⟩ : MethodName)) hown (wd_101 hw) (wd_102 hw) (wd_99 hw) (wd_103 hw) (by decide) (j_copyB l Z a0 hw t kt cap f fr to h0 n0 OL  V_t h1 h2 hcap) e0 (argsL := [(.ref t), (.int (Int32.ofNat fr)), (.int (Int32.ofNat to))]) (rest := []) (by rw [hml]; rfl) (lenOf pd_3 rfl) rfl rfl (W := 0) rfl (hb hby d22_13) (by decide) (by decide) (by decide) (by decide) (fun T12 v12 L12 X12 hQ12 => ?_)
      obtain ⟨rr12, kr12, rfl, Nq12, Kq12, gr12, er12, vr12⟩ := hQ12
      have N12 := Fr.app N0 Nq12
      have OL12 := OL.keep Kq12 all0
      have KP12 := KP0.trans Kq12 all0
      show OwnOk p e below _ (T12.setTop (mkF m 16 #[.val (.ref t), .val (.int (Int32.ofNat fr)), .val (.int (Int32.ofNat to))] [(.ref rr12)]))
      refine own_retR X12 hx (t := (.array .byte)) (show meth.sig.returnType = some (.array .byte) from hret) rfl hlk rfl (hb hby d22_16) rfl (Nat.le_of_ble_eq_true rfl) (Nat.le_of_ble_eq_true rfl) ?_
      exact ⟨rr12, kr12, rfl, N12, KP12, gr12, er12, vr12⟩
  · refine own_up (fun tx kx => XS.ifYes X0.here hx rfl (pc0 := 1) (pc' := 10) rfl (hb hby d22_1) rfl ((if0 _ _).trans (feq hz).2) (by decide) (by decide) kx) ?_
    show OwnOk p e below _ (s₁.setTop (mkF m 10 #[.val (.ref t), .val (.int (Int32.ofNat fr)), .val (.int (Int32.ofNat to))] []))
    refine own_up (fun tx kx => XS.aloadN X0.here hx rfl (hb hby d22_10) rfl rfl kx) ?_
    show OwnOk p e below _ (s₁.setTop (mkF m 11 #[.val (.ref t), .val (.int (Int32.ofNat fr)), .val (.int (Int32.ofNat to))] [(.ref t)]))
    refine own_up (fun tx kx => XS.iloadN X0.here hx rfl (hb hby d22_11) rfl kx) ?_
    show OwnOk p e below _ (s₁.setTop (mkF m 12 #[.val (.ref t), .val (.int (Int32.ofNat fr)), .val (.int (Int32.ofNat to))] [(.int (Int32.ofNat fr)), (.ref t)]))
    refine own_up (fun tx kx => XS.iloadN X0.here hx rfl (hb hby d22_12) rfl kx) ?_
    show OwnOk p e below _ (s₁.setTop (mkF m 13 #[.val (.ref t), .val (.int (Int32.ofNat fr)), .val (.int (Int32.ofNat to))] [(.int (Int32.ofNat to)), (.int (Int32.ofNat fr)), (.ref t)]))
    refine own_callS X0 hx hZ (y := (⟨"java/util/Arrays", "copyOfRangeByte", "([BII)[B"⟩ : MethodName)) hown (wd_101 hw) (wd_102 hw) (wd_99 hw) (wd_103 hw) (by decide) (j_copyB l Z a0 hw t kt cap f fr to h0 n0 OL  V_t h1 h2 hcap) e0 (argsL := [(.ref t), (.int (Int32.ofNat fr)), (.int (Int32.ofNat to))]) (rest := []) (by rw [hml]; rfl) (lenOf pd_3 rfl) rfl rfl (W := 0) rfl (hb hby d22_13) (by decide) (by decide) (by decide) (by decide) (fun T13 v13 L13 X13 hQ13 => ?_)
    obtain ⟨rr13, kr13, rfl, Nq13, Kq13, gr13, er13, vr13⟩ := hQ13
    have N13 := Fr.app N0 Nq13
    have OL13 := OL.keep Kq13 all0
    have KP13 := KP0.trans Kq13 all0
    show OwnOk p e below _ (T13.setTop (mkF m 16 #[.val (.ref t), .val (.int (Int32.ofNat fr)), .val (.int (Int32.ofNat to))] [(.ref rr13)]))
    refine own_retR X13 hx (t := (.array .byte)) (show meth.sig.returnType = some (.array .byte) from hret) rfl hlk rfl (hb hby d22_16) rfl (Nat.le_of_ble_eq_true rfl) (Nat.le_of_ble_eq_true rfl) ?_
    exact ⟨rr13, kr13, rfl, N13, KP13, gr13, er13, vr13⟩
def Q_j_pchk (j : Nat) (h0 : Heap) (n0 : Nat) (v : Option Value) (h : Heap) (L : List Loc) : Prop := v = some (.int (Int32.ofNat j)) ∧ Fr n0 L ∧ h = h0
set_option maxRecDepth 65536 in
set_option maxHeartbeats 40000000 in
theorem j_pchk (l : Launch) (Z : State) (a0 : Array Value) (hw : ∀ d ∈ tables_1, d.before a0 Z = true) (j n : Nat) (fm : Value) (hfm : fm.isRef = true) (h0 : Heap) (n0 : Nat) (OL : Old Z n0 h0) (hj : j < n) (hn : n < 2147483648) :
    own_Met l Z (⟨"jdk/internal/util/Preconditions", "checkIndex", "(IILjava/util/function/BiFunction;)I"⟩ : MethodName) jdk_41_method_11_code 3 (some .int) ({ frames := 0, cells := 0, slots := 0, locals := 0 } : Room) #[(.int (Int32.ofNat j)), (.int (Int32.ofNat n)), fm] h0 (Q_j_pchk j h0 n0) := by
  refine own_body (L0 := #[.val (.int (Int32.ofNat j)), .val (.int (Int32.ofNat n)), .val fm]) (plainFor_of_name (by first | (simp [plainName, overriddenIn]; done) | decide +kernel)) (fun m => by first | (simp [entryFrame, mkF, argsToLocals, Value.category]; done) | rfl | (rcases ref_cases hfm with rfl | ⟨_, rfl⟩ <;> rfl)) ?_
  intro p e s m below meth c s₁ hx hby hml hZ hown hnm hret hlk X0 e0
  have N0 := Fr.nil n0
  have Z0 : n0 ≤ h0.size := OL.1 ▸ OL.2.1
  show OwnOk p e below _ (s₁.setTop (mkF m 0 #[.val (.int (Int32.ofNat j)), .val (.int (Int32.ofNat n)), .val fm] []))
  refine own_up (fun tx kx => XS.iloadN X0.here hx rfl (hb hby d19_0) rfl kx) ?_
  show OwnOk p e below _ (s₁.setTop (mkF m 1 #[.val (.int (Int32.ofNat j)), .val (.int (Int32.ofNat n)), .val fm] [(.int (Int32.ofNat j))]))
  refine own_up (fun tx kx => XS.ifNo X0.here hx rfl (hb hby d19_1) rfl ((if0 _ _).trans (flt (own_nn j (by omega))).1) kx) ?_
  show OwnOk p e below _ (s₁.setTop (mkF m 4 #[.val (.int (Int32.ofNat j)), .val (.int (Int32.ofNat n)), .val fm] []))
  refine own_up (fun tx kx => XS.iloadN X0.here hx rfl (hb hby d19_4) rfl kx) ?_
  show OwnOk p e below _ (s₁.setTop (mkF m 5 #[.val (.int (Int32.ofNat j)), .val (.int (Int32.ofNat n)), .val fm] [(.int (Int32.ofNat j))]))
  refine own_up (fun tx kx => XS.iloadN X0.here hx rfl (hb hby d19_5) rfl kx) ?_
  show OwnOk p e below _ (s₁.setTop (mkF m 6 #[.val (.int (Int32.ofNat j)), .val (.int (Int32.ofNat n)), .val fm] [(.int (Int32.ofNat n)), (.int (Int32.ofNat j))]))
  refine own_up (fun tx kx => XS.icmpYes X0.here hx rfl (pc0 := 6) (pc' := 16) rfl (hb hby d19_6) rfl (tlt (own_lt hj hn)).1 (by decide) (by decide) kx) ?_
  show OwnOk p e below _ (s₁.setTop (mkF m 16 #[.val (.int (Int32.ofNat j)), .val (.int (Int32.ofNat n)), .val fm] []))
  refine own_up (fun tx kx => XS.iloadN X0.here hx rfl (hb hby d19_16) rfl kx) ?_
  show OwnOk p e below _ (s₁.setTop (mkF m 17 #[.val (.int (Int32.ofNat j)), .val (.int (Int32.ofNat n)), .val fm] [(.int (Int32.ofNat j))]))
  refine own_retI X0 hx (show meth.sig.returnType = some .int from hret) hlk (hb hby d19_17) e0 (Nat.le_of_ble_eq_true rfl) (Nat.le_of_ble_eq_true rfl) ?_
  exact ⟨rfl, N0, rfl⟩
def Q_j_chk (h0 : Heap) (n0 : Nat) (v : Option Value) (h : Heap) (L : List Loc) : Prop := v = none ∧ Fr n0 L ∧ h = h0
set_option maxRecDepth 65536 in
set_option maxHeartbeats 40000000 in
theorem j_chk (l : Launch) (Z : State) (a0 : Array Value) (hw : ∀ d ∈ tables_1, d.before a0 Z = true) (j n : Nat) (fm : Value) (hfm : fm.isRef = true) (h0 : Heap) (n0 : Nat) (OL : Old Z n0 h0) (SF : Sta Z Z.heap "jdk/internal/util/Preconditions" "SIOOBE_FORMATTER" "Ljava/util/function/BiFunction;" fm) (hj : j < n) (hn : n < 2147483648) :
    own_Met l Z (⟨"java/lang/String", "checkIndex", "(II)V"⟩ : MethodName) jdk_42_method_155_code 2 none ({ frames := 1, cells := 0, slots := 0, locals := 14 } : Room) #[(.int (Int32.ofNat j)), (.int (Int32.ofNat n))] h0 (Q_j_chk h0 n0) := by
  refine own_body (L0 := #[.val (.int (Int32.ofNat j)), .val (.int (Int32.ofNat n))]) (plainFor_of_name (by first | (simp [plainName, overriddenIn]; done) | decide +kernel)) (fun m => by first | (simp [entryFrame, mkF, argsToLocals, Value.category]; done) | rfl) ?_
  intro p e s m below meth c s₁ hx hby hml hZ hown hnm hret hlk X0 e0
  have N0 := Fr.nil n0
  have Z0 : n0 ≤ h0.size := OL.1 ▸ OL.2.1
  show OwnOk p e below _ (s₁.setTop (mkF m 0 #[.val (.int (Int32.ofNat j)), .val (.int (Int32.ofNat n))] []))
  refine own_up (fun tx kx => XS.iloadN X0.here hx rfl (hb hby d18_0) rfl kx) ?_
  show OwnOk p e below _ (s₁.setTop (mkF m 1 #[.val (.int (Int32.ofNat j)), .val (.int (Int32.ofNat n))] [(.int (Int32.ofNat j))]))
  refine own_up (fun tx kx => XS.iloadN X0.here hx rfl (hb hby d18_1) rfl kx) ?_
  show OwnOk p e below _ (s₁.setTop (mkF m 2 #[.val (.int (Int32.ofNat j)), .val (.int (Int32.ofNat n))] [(.int (Int32.ofNat n)), (.int (Int32.ofNat j))]))
  obtain ⟨T11, X11, e11, st11⟩ := getS2 X0 hx hZ hown (host := "") (Or.inl (wd_51 hw)) Via.refl e0 (SF.ext OL.2) (g := (mkF m 2 #[.val (.int (Int32.ofNat j)), .val (.int (Int32.ofNat n))] [(.int (Int32.ofNat n)), (.int (Int32.ofNat j))])) rfl (hb hby d18_2)
  refine own_up st11 ?_
  show OwnOk p e below _ (T11.setTop (mkF m 5 #[.val (.int (Int32.ofNat j)), .val (.int (Int32.ofNat n))] [fm, (.int (Int32.ofNat n)), (.int (Int32.ofNat j))]))
  refine own_callS X11 hx hZ (y := (⟨"jdk/internal/util/Preconditions", "checkIndex", "(IILjava/util/function/BiFunction;)I"⟩ : MethodName)) hown (wd_87 hw) (wd_88 hw) (wd_52 hw) (wd_89 hw) (by decide) (j_pchk l Z a0 hw j n fm hfm h0 n0 OL hj hn) e11 (argsL := [(.int (Int32.ofNat j)), (.int (Int32.ofNat n)), fm]) (rest := []) (by rw [hml]; rfl) (lenOf pd_4 rfl) rfl rfl (W := 0) rfl (hb hby d18_5) (by decide) (by decide) (by decide) (by decide) (fun T12 v12 L12 X12 hQ12 => ?_)
  obtain ⟨rfl, Nq12, hh12⟩ := hQ12
  have N12 := Fr.app N0 Nq12
  show OwnOk p e below _ (T12.setTop (mkF m 8 #[.val (.int (Int32.ofNat j)), .val (.int (Int32.ofNat n))] [(.int (Int32.ofNat j))]))
  refine own_up (fun tx kx => XS.pop X12.here hx rfl (hb hby d18_8) rfl rfl kx) ?_
  show OwnOk p e below _ (T12.setTop (mkF m 9 #[.val (.int (Int32.ofNat j)), .val (.int (Int32.ofNat n))] []))
  refine own_retV X12 hx (show meth.sig.returnType = none from hret) hlk (hb hby d18_9) hh12 (Nat.le_of_ble_eq_true rfl) (Nat.le_of_ble_eq_true rfl) ?_
  exact ⟨rfl, N12, rfl⟩
def Q_j_sLat (h0 : Heap) (n0 : Nat) (v : Option Value) (h : Heap) (L : List Loc) : Prop := v = some (.int 1) ∧ Fr n0 L ∧ h = h0
set_option maxRecDepth 65536 in
set_option maxHeartbeats 40000000 in
theorem j_sLat (l : Launch) (Z : State) (a0 : Array Value) (hw : ∀ d ∈ tables_1, d.before a0 Z = true) (a : Addr) (cz : Int32) (h0 : Heap) (n0 : Nat) (OL : Old Z n0 h0) (SC : Sta Z Z.heap "java/lang/String" "COMPACT_STRINGS" "Z" (.int cz)) (hcz : ¬ cz = 0) (F_coder_a : Fld Z h0 a "java/lang/String" "coder" "B" (.int (0 : Int32))) :
    own_Met l Z (⟨"java/lang/String", "isLatin1", "()Z"⟩ : MethodName) jdk_42_method_154_code 1 (some .boolean) ({ frames := 0, cells := 0, slots := 0, locals := 0 } : Room) #[(.ref a)] h0 (Q_j_sLat h0 n0) := by
  refine own_body (L0 := #[.val (.ref a)]) (plainFor_of_name (by first | (simp [plainName, overriddenIn]; done) | decide +kernel)) (fun m => by first | (simp [entryFrame, mkF, argsToLocals, Value.category]; done) | rfl) ?_
  intro p e s m below meth c s₁ hx hby hml hZ hown hnm hret hlk X0 e0
  have N0 := Fr.nil n0
  have Z0 : n0 ≤ h0.size := OL.1 ▸ OL.2.1
  show OwnOk p e below _ (s₁.setTop (mkF m 0 #[.val (.ref a)] []))
  obtain ⟨T11, X11, e11, st11⟩ := getS2 X0 hx hZ hown (host := "") (Or.inl (wd_41 hw)) Via.refl e0 (SC.ext OL.2) (g := (mkF m 0 #[.val (.ref a)] [])) rfl (hb hby d16_0)
  refine own_up st11 ?_
  show OwnOk p e below _ (T11.setTop (mkF m 3 #[.val (.ref a)] [(.int cz)]))
  refine own_up (fun tx kx => XS.ifNo X11.here hx rfl (hb hby d16_3) rfl ((if0 _ _).trans (feq hcz).1) kx) ?_
  show OwnOk p e below _ (T11.setTop (mkF m 6 #[.val (.ref a)] []))
  refine own_up (fun tx kx => XS.aloadN X11.here hx rfl (hb hby d16_6) rfl rfl kx) ?_
  show OwnOk p e below _ (T11.setTop (mkF m 7 #[.val (.ref a)] [(.ref a)]))
  obtain ⟨T12, X12, e12, st12⟩ := getF X11 hx hZ hown (host := "") (Or.inl (wd_26 hw)) Via.refl e11 F_coder_a (g := (mkF m 7 #[.val (.ref a)] [(.ref a)])) rfl rfl (hb hby d16_7)
  refine own_up st12 ?_
  show OwnOk p e below _ (T12.setTop (mkF m 10 #[.val (.ref a)] [(.int (0 : Int32))]))
  refine own_up (fun tx kx => XS.ifNo X12.here hx rfl (hb hby d16_10) rfl ((if0 _ _).trans (teq rfl).2) kx) ?_
  show OwnOk p e below _ (T12.setTop (mkF m 13 #[.val (.ref a)] []))
  refine own_up (fun tx kx => XS.iconst X12.here hx rfl (hb hby d16_13) kx) ?_
  show OwnOk p e below _ (T12.setTop (mkF m 14 #[.val (.ref a)] [(.int (1 : Int32))]))
  refine own_up (fun tx kx => XS.goto X12.here hx rfl (pc0 := 14) (pc' := 18) rfl (hb hby d16_14) (by decide) (by decide) kx) ?_
  show OwnOk p e below _ (T12.setTop (mkF m 18 #[.val (.ref a)] [(.int (1 : Int32))]))
  refine own_retN X12 hx (t := .boolean) (show meth.sig.returnType = some .boolean from hret) (by simp) hlk (hb hby d16_18) (z' := (1 : Int32)) rfl e12 (Nat.le_of_ble_eq_true rfl) (Nat.le_of_ble_eq_true rfl) ?_
  exact ⟨rfl, N0, rfl⟩
def Q_j_lch (g : Nat → Int32) (j : Nat) (h0 : Heap) (n0 : Nat) (v : Option Value) (h : Heap) (L : List Loc) : Prop := v = some (.int (own_c8 (g j))) ∧ Fr n0 L ∧ h = h0
set_option maxRecDepth 65536 in
set_option maxHeartbeats 40000000 in
theorem j_lch (l : Launch) (Z : State) (a0 : Array Value) (hw : ∀ d ∈ tables_1, d.before a0 Z = true) (u : Addr) (ku : ClassId) (ln : Nat) (g : Nat → Int32) (j : Nat) (fm : Value) (hfm : fm.isRef = true) (h0 : Heap) (n0 : Nat) (OL : Old Z n0 h0) (SF : Sta Z Z.heap "jdk/internal/util/Preconditions" "SIOOBE_FORMATTER" "Ljava/util/function/BiFunction;" fm) (V_u : Arv Z h0 u ku .byte (Int32.ofNat ln) (own_F ln g) (.int (0 : Int32))) (hj : j < ln) (hn : ln < 2147483648) :
    own_Met l Z (⟨"java/lang/StringLatin1", "charAt", "([BI)C"⟩ : MethodName) jdk_43_method_2_code 2 (some .char) ({ frames := 2, cells := 0, slots := 0, locals := 30 } : Room) #[(.ref u), (.int (Int32.ofNat j))] h0 (Q_j_lch g j h0 n0) := by
  refine own_body (L0 := #[.val (.ref u), .val (.int (Int32.ofNat j))]) (plainFor_of_name (by first | (simp [plainName, overriddenIn]; done) | decide +kernel)) (fun m => by first | (simp [entryFrame, mkF, argsToLocals, Value.category]; done) | rfl) ?_
  intro p e s m below meth c s₁ hx hby hml hZ hown hnm hret hlk X0 e0
  have N0 := Fr.nil n0
  have Z0 : n0 ≤ h0.size := OL.1 ▸ OL.2.1
  show OwnOk p e below _ (s₁.setTop (mkF m 0 #[.val (.ref u), .val (.int (Int32.ofNat j))] []))
  refine own_up (fun tx kx => XS.iloadN X0.here hx rfl (hb hby d17_0) rfl kx) ?_
  show OwnOk p e below _ (s₁.setTop (mkF m 1 #[.val (.ref u), .val (.int (Int32.ofNat j))] [(.int (Int32.ofNat j))]))
  refine own_up (fun tx kx => XS.aloadN X0.here hx rfl (hb hby d17_1) rfl rfl kx) ?_
  show OwnOk p e below _ (s₁.setTop (mkF m 2 #[.val (.ref u), .val (.int (Int32.ofNat j))] [(.ref u), (.int (Int32.ofNat j))]))
  obtain ⟨cl11, Ar11, qc11, Sz11, Nn11, Hs11, Gf11⟩ := id V_u
  have hlen11 : cl11.slots.size.toInt32 = (Int32.ofNat ln) := len_of Sz11 Nn11
  refine own_up (fun tx kx => X0.arraylength hx (own_ar e0 Ar11.1) (State.isArrayOf_alike hZ.alike Ar11.2.1) (g := (mkF m 2 #[.val (.ref u), .val (.int (Int32.ofNat j))] [(.ref u), (.int (Int32.ofNat j))])) rfl rfl (hb hby d17_2) _ kx) ?_
  rw [hlen11]
  show OwnOk p e below _ (s₁.setTop (mkF m 3 #[.val (.ref u), .val (.int (Int32.ofNat j))] [(.int (Int32.ofNat ln)), (.int (Int32.ofNat j))]))
  refine own_callS X0 hx hZ (y := (⟨"java/lang/String", "checkIndex", "(II)V"⟩ : MethodName)) hown (wd_84 hw) (wd_85 hw) (wd_8 hw) (wd_86 hw) (by decide) (j_chk l Z a0 hw j ln fm hfm h0 n0 OL SF hj hn) e0 (argsL := [(.int (Int32.ofNat j)), (.int (Int32.ofNat ln))]) (rest := []) (by rw [hml]; rfl) (lenOf pd_1 rfl) rfl rfl (W := 0) rfl (hb hby d17_3) (by decide) (by decide) (by decide) (by decide) (fun T12 v12 L12 X12 hQ12 => ?_)
  obtain ⟨rfl, Nq12, hh12⟩ := hQ12
  have N12 := Fr.app N0 Nq12
  show OwnOk p e below _ (T12.setTop (mkF m 6 #[.val (.ref u), .val (.int (Int32.ofNat j))] []))
  refine own_up (fun tx kx => XS.aloadN X12.here hx rfl (hb hby d17_6) rfl rfl kx) ?_
  show OwnOk p e below _ (T12.setTop (mkF m 7 #[.val (.ref u), .val (.int (Int32.ofNat j))] [(.ref u)]))
  refine own_up (fun tx kx => XS.iloadN X12.here hx rfl (hb hby d17_7) rfl kx) ?_
  show OwnOk p e below _ (T12.setTop (mkF m 8 #[.val (.ref u), .val (.int (Int32.ofNat j))] [(.int (Int32.ofNat j)), (.ref u)]))
  obtain ⟨cl13, Ar13, qc13, Sz13, Nn13, Hs13, Gf13⟩ := id V_u
  have hin13 : ¬ ((Int32.ofNat j) < 0 ∨ cl13.slots.size ≤ ((Int32.ofNat j)).toNatClampNeg) := inb_of Sz13 (own_in hj hn)
  have hat13 : cl13.slots[((Int32.ofNat j)).toNatClampNeg]? = some (.int (g j)) := Hs13.at hin13 (by rw [own_cl j (by omega)]; exact own_F_at hj)
  refine own_up (fun tx kx => X12.baloadBytes hx (j := (Int32.ofNat j)) (v := (.int (g j))) (own_ar hh12 Ar13.1) (State.isArrayOf_alike hZ.alike Ar13.2.1) Ar13.2.2 hin13 hat13 (g := (mkF m 8 #[.val (.ref u), .val (.int (Int32.ofNat j))] [(.int (Int32.ofNat j)), (.ref u)])) rfl rfl (hb hby d17_8) _ kx) ?_
  show OwnOk p e below _ (T12.setTop (mkF m 9 #[.val (.ref u), .val (.int (Int32.ofNat j))] [(.int (g j))]))
  refine own_up (fun tx kx => XS.sipush X12.here hx rfl (hb hby d17_9) kx) ?_
  show OwnOk p e below _ (T12.setTop (mkF m 12 #[.val (.ref u), .val (.int (Int32.ofNat j))] [(.int (255 : Int32)), (.int (g j))]))
  refine own_up (fun tx kx => XS.iand X12.here hx rfl (hb hby d17_12) rfl kx) ?_
  show OwnOk p e below _ (T12.setTop (mkF m 13 #[.val (.ref u), .val (.int (Int32.ofNat j))] [(.int ((g j) &&& (255 : Int32)))]))
  refine own_up (fun tx kx => XS.i2c X12.here hx rfl (hb hby d17_13) rfl kx) ?_
  show OwnOk p e below _ (T12.setTop (mkF m 14 #[.val (.ref u), .val (.int (Int32.ofNat j))] [(.int (((g j) &&& (255 : Int32)).toUInt32.toUInt16.toUInt32.toInt32))]))
  refine own_retN X12 hx (t := .char) (show meth.sig.returnType = some .char from hret) (by simp) hlk (hb hby d17_14) (z' := own_c8 (g j)) rfl hh12 (Nat.le_of_ble_eq_true rfl) (Nat.le_of_ble_eq_true rfl) ?_
  exact ⟨rfl, N12, rfl⟩
def Q_j_charAt (g : Nat → Int32) (j : Nat) (h0 : Heap) (n0 : Nat) (v : Option Value) (h : Heap) (L : List Loc) : Prop := v = some (.int (own_c8 (g j))) ∧ Fr n0 L ∧ h = h0
set_option maxRecDepth 65536 in
set_option maxHeartbeats 40000000 in
theorem j_charAt (l : Launch) (Z : State) (a0 : Array Value) (hw : ∀ d ∈ tables_1, d.before a0 Z = true) (a u : Addr) (ku : ClassId) (ln : Nat) (g : Nat → Int32) (cz : Int32) (j : Nat) (fm : Value) (hfm : fm.isRef = true) (h0 : Heap) (n0 : Nat) (OL : Old Z n0 h0) (SC : Sta Z Z.heap "java/lang/String" "COMPACT_STRINGS" "Z" (.int cz)) (hcz : ¬ cz = 0) (SF : Sta Z Z.heap "jdk/internal/util/Preconditions" "SIOOBE_FORMATTER" "Ljava/util/function/BiFunction;" fm) (E_a : Exa Z h0 a "java/lang/String") (F_value_a : Fld Z h0 a "java/lang/String" "value" "[B" (.ref u)) (F_coder_a : Fld Z h0 a "java/lang/String" "coder" "B" (.int (0 : Int32))) (V_u : Arv Z h0 u ku .byte (Int32.ofNat ln) (own_F ln g) (.int (0 : Int32))) (hj : j < ln) (hn : ln < 2147483648) :
    own_Met l Z (⟨"java/lang/String", "charAt", "(I)C"⟩ : MethodName) jdk_42_method_56_code 2 (some .char) ({ frames := 3, cells := 0, slots := 0, locals := 45 } : Room) #[(.ref a), (.int (Int32.ofNat j))] h0 (Q_j_charAt g j h0 n0) := by
  refine own_body (L0 := #[.val (.ref a), .val (.int (Int32.ofNat j))]) (plainFor_of_name (by first | (simp [plainName, overriddenIn]; done) | decide +kernel)) (fun m => by first | (simp [entryFrame, mkF, argsToLocals, Value.category]; done) | rfl) ?_
  intro p e s m below meth c s₁ hx hby hml hZ hown hnm hret hlk X0 e0
  have N0 := Fr.nil n0
  have Z0 : n0 ≤ h0.size := OL.1 ▸ OL.2.1
  show OwnOk p e below _ (s₁.setTop (mkF m 0 #[.val (.ref a), .val (.int (Int32.ofNat j))] []))
  refine own_up (fun tx kx => XS.aloadN X0.here hx rfl (hb hby d15_0) rfl rfl kx) ?_
  show OwnOk p e below _ (s₁.setTop (mkF m 1 #[.val (.ref a), .val (.int (Int32.ofNat j))] [(.ref a)]))
  refine own_callV X0 hx hZ (y := (⟨"java/lang/String", "isLatin1", "()Z"⟩ : MethodName)) (z := (⟨"java/lang/String", "isLatin1", "()Z"⟩ : MethodName)) hown (wd_75 hw) (wd_76 hw) (notFace_of_selects (args := #[]) (mvT hZ (wd_78 hw))) (wd_78 hw) (wd_77 hw) (wd_8 hw) (wd_79 hw) (by decide) (j_sLat l Z a0 hw a cz h0 n0 OL SC hcz F_coder_a) e0 (argsL := []) (rest := []) E_a (by rw [hml]; rfl) (lenOf pd_5 rfl) rfl rfl (W := 0) rfl (hb hby d15_1) (by decide) (by decide) (by decide) (by decide) (fun T11 v11 L11 X11 hQ11 => ?_)
  obtain ⟨rfl, Nq11, hh11⟩ := hQ11
  have N11 := Fr.app N0 Nq11
  show OwnOk p e below _ (T11.setTop (mkF m 4 #[.val (.ref a), .val (.int (Int32.ofNat j))] [(.int (1 : Int32))]))
  refine own_up (fun tx kx => XS.ifNo X11.here hx rfl (hb hby d15_4) rfl ((if0 _ _).trans (feq (by decide)).1) kx) ?_
  show OwnOk p e below _ (T11.setTop (mkF m 7 #[.val (.ref a), .val (.int (Int32.ofNat j))] []))
  refine own_up (fun tx kx => XS.aloadN X11.here hx rfl (hb hby d15_7) rfl rfl kx) ?_
  show OwnOk p e below _ (T11.setTop (mkF m 8 #[.val (.ref a), .val (.int (Int32.ofNat j))] [(.ref a)]))
  obtain ⟨T12, X12, e12, st12⟩ := getF X11 hx hZ hown (host := "") (Or.inl (wd_25 hw)) Via.refl hh11 F_value_a (g := (mkF m 8 #[.val (.ref a), .val (.int (Int32.ofNat j))] [(.ref a)])) rfl rfl (hb hby d15_8)
  refine own_up st12 ?_
  show OwnOk p e below _ (T12.setTop (mkF m 11 #[.val (.ref a), .val (.int (Int32.ofNat j))] [(.ref u)]))
  refine own_up (fun tx kx => XS.iloadN X12.here hx rfl (hb hby d15_11) rfl kx) ?_
  show OwnOk p e below _ (T12.setTop (mkF m 12 #[.val (.ref a), .val (.int (Int32.ofNat j))] [(.int (Int32.ofNat j)), (.ref u)]))
  refine own_callS X12 hx hZ (y := (⟨"java/lang/StringLatin1", "charAt", "([BI)C"⟩ : MethodName)) hown (wd_80 hw) (wd_81 hw) (wd_82 hw) (wd_83 hw) (by decide) (j_lch l Z a0 hw u ku ln g j fm hfm h0 n0 OL SF V_u hj hn) e12 (argsL := [(.ref u), (.int (Int32.ofNat j))]) (rest := []) (by rw [hml]; rfl) (lenOf pd_6 rfl) rfl rfl (W := 0) rfl (hb hby d15_12) (by decide) (by decide) (by decide) (by decide) (fun T13 v13 L13 X13 hQ13 => ?_)
  obtain ⟨rfl, Nq13, hh13⟩ := hQ13
  have N13 := Fr.app N11 Nq13
  show OwnOk p e below _ (T13.setTop (mkF m 15 #[.val (.ref a), .val (.int (Int32.ofNat j))] [(.int (own_c8 (g j)))]))
  refine own_retN X13 hx (t := .char) (show meth.sig.returnType = some .char from hret) (by simp) hlk (hb hby d15_15) (z' := own_c8 (g j)) (own_c8_idem _) hh13 (Nat.le_of_ble_eq_true rfl) (Nat.le_of_ble_eq_true rfl) ?_
  exact ⟨rfl, N13, rfl⟩
def Q_c_cmp5_1 (Z : State) (t : Addr) (kt : ClassId) (x0 : Int32) (h0 : Heap) (n0 : Nat) (v : Option Value) (h : Heap) (L : List Loc) : Prop := v = some (.int (1 : Int32)) ∧ Fr n0 L ∧ Keep h0 h [t] ∧ Arv Z h t kt .byte (1 : Int32) [(.int (nar .byte (x0.toInt8.toInt32)))] (.int (0 : Int32))
set_option maxRecDepth 65536 in
set_option maxHeartbeats 40000000 in
theorem c_cmp5_1 (l : Launch) (Z : State) (a0 : Array Value) (hw : ∀ d ∈ tables_1, d.before a0 Z = true) (ca t : Addr) (kc kt : ClassId) (x0 : Int32) (h0 : Heap) (n0 : Nat) (OL : Old Z n0 h0) (V_ca : Arv Z h0 ca kc .char (1 : Int32) [(.int x0)] (.int (0 : Int32))) (V_t : Arv Z h0 t kt .byte (1 : Int32) [(.int (0 : Int32))] (.int (0 : Int32))) (n0_t : n0 ≤ t) (ne_ca_t : ca ≠ t) (c0 : ¬ (255 : Int32) < x0) :
    own_Met l Z (⟨"java/lang/StringUTF16", "compress", "([CI[BII)I"⟩ : MethodName) jdk_52_method_21_code 7 (some .int) ({ frames := 0, cells := 0, slots := 0, locals := 0 } : Room) #[(.ref ca), (.int (0 : Int32)), (.ref t), (.int (0 : Int32)), (.int (1 : Int32))] h0 (Q_c_cmp5_1 Z t kt x0 h0 n0) := by
  refine own_body (L0 := #[.val (.ref ca), .val (.int (0 : Int32)), .val (.ref t), .val (.int (0 : Int32)), .val (.int (1 : Int32)), .unset, .unset]) (plainFor_of_name (by first | (simp [plainName, overriddenIn]; done) | decide +kernel)) (fun m => by first | (simp [entryFrame, mkF, argsToLocals, Value.category]; done) | rfl) ?_
  intro p e s m below meth c s₁ hx hby hml hZ hown hnm hret hlk X0 e0
  have N0 := Fr.nil n0
  have Z0 : n0 ≤ h0.size := OL.1 ▸ OL.2.1
  show OwnOk p e below _ (s₁.setTop (mkF m 0 #[.val (.ref ca), .val (.int (0 : Int32)), .val (.ref t), .val (.int (0 : Int32)), .val (.int (1 : Int32)), .unset, .unset] []))
  have KP0 : Keep h0 h0 [t] := Keep.refl h0 _
  refine own_up (fun tx kx => XS.iconst X0.here hx rfl (hb hby d13_0) kx) ?_
  show OwnOk p e below _ (s₁.setTop (mkF m 1 #[.val (.ref ca), .val (.int (0 : Int32)), .val (.ref t), .val (.int (0 : Int32)), .val (.int (1 : Int32)), .unset, .unset] [(.int (0 : Int32))]))
  refine own_up (fun tx kx => XS.istore X0.here hx rfl (hb hby d13_1) rfl (l' := #[.val (.ref ca), .val (.int (0 : Int32)), .val (.ref t), .val (.int (0 : Int32)), .val (.int (1 : Int32)), .val (.int (0 : Int32)), .unset]) rfl kx) ?_
  show OwnOk p e below _ (s₁.setTop (mkF m 3 #[.val (.ref ca), .val (.int (0 : Int32)), .val (.ref t), .val (.int (0 : Int32)), .val (.int (1 : Int32)), .val (.int (0 : Int32)), .unset] []))
  refine own_up (fun tx kx => XS.iload X0.here hx rfl (hb hby d13_3) rfl kx) ?_
  show OwnOk p e below _ (s₁.setTop (mkF m 5 #[.val (.ref ca), .val (.int (0 : Int32)), .val (.ref t), .val (.int (0 : Int32)), .val (.int (1 : Int32)), .val (.int (0 : Int32)), .unset] [(.int (0 : Int32))]))
  refine own_up (fun tx kx => XS.iload X0.here hx rfl (hb hby d13_5) rfl kx) ?_
  show OwnOk p e below _ (s₁.setTop (mkF m 7 #[.val (.ref ca), .val (.int (0 : Int32)), .val (.ref t), .val (.int (0 : Int32)), .val (.int (1 : Int32)), .val (.int (0 : Int32)), .unset] [(.int (1 : Int32)), (.int (0 : Int32))]))
  refine own_up (fun tx kx => XS.icmpNo X0.here hx rfl (hb hby d13_7) rfl (tlt (by decide)).2.1 kx) ?_
  show OwnOk p e below _ (s₁.setTop (mkF m 10 #[.val (.ref ca), .val (.int (0 : Int32)), .val (.ref t), .val (.int (0 : Int32)), .val (.int (1 : Int32)), .val (.int (0 : Int32)), .unset] []))
  refine own_up (fun tx kx => XS.aloadN X0.here hx rfl (hb hby d13_10) rfl rfl kx) ?_
  show OwnOk p e below _ (s₁.setTop (mkF m 11 #[.val (.ref ca), .val (.int (0 : Int32)), .val (.ref t), .val (.int (0 : Int32)), .val (.int (1 : Int32)), .val (.int (0 : Int32)), .unset] [(.ref ca)]))
  refine own_up (fun tx kx => XS.iloadN X0.here hx rfl (hb hby d13_11) rfl kx) ?_
  show OwnOk p e below _ (s₁.setTop (mkF m 12 #[.val (.ref ca), .val (.int (0 : Int32)), .val (.ref t), .val (.int (0 : Int32)), .val (.int (1 : Int32)), .val (.int (0 : Int32)), .unset] [(.int (0 : Int32)), (.ref ca)]))
  obtain ⟨cl11, Ar11, qc11, Sz11, Nn11, Hs11, Gf11⟩ := id V_ca
  have hin11 : ¬ ((0 : Int32) < 0 ∨ cl11.slots.size ≤ ((0 : Int32)).toNatClampNeg) := inb_of Sz11 ⟨by decide, by decide⟩
  have hat11 : cl11.slots[((0 : Int32)).toNatClampNeg]? = some (.int x0) := Hs11.at hin11 rfl
  refine own_up (fun tx kx => X0.caload hx (j := (0 : Int32)) (v := (.int x0)) (own_ar e0 Ar11.1) (State.isArrayOf_alike hZ.alike Ar11.2.1) Ar11.2.2 hin11 hat11 (g := (mkF m 12 #[.val (.ref ca), .val (.int (0 : Int32)), .val (.ref t), .val (.int (0 : Int32)), .val (.int (1 : Int32)), .val (.int (0 : Int32)), .unset] [(.int (0 : Int32)), (.ref ca)])) rfl rfl (hb hby d13_12) _ kx) ?_
  show OwnOk p e below _ (s₁.setTop (mkF m 13 #[.val (.ref ca), .val (.int (0 : Int32)), .val (.ref t), .val (.int (0 : Int32)), .val (.int (1 : Int32)), .val (.int (0 : Int32)), .unset] [(.int x0)]))
  refine own_up (fun tx kx => XS.istore X0.here hx rfl (hb hby d13_13) rfl (l' := #[.val (.ref ca), .val (.int (0 : Int32)), .val (.ref t), .val (.int (0 : Int32)), .val (.int (1 : Int32)), .val (.int (0 : Int32)), .val (.int x0)]) rfl kx) ?_
  show OwnOk p e below _ (s₁.setTop (mkF m 15 #[.val (.ref ca), .val (.int (0 : Int32)), .val (.ref t), .val (.int (0 : Int32)), .val (.int (1 : Int32)), .val (.int (0 : Int32)), .val (.int x0)] []))
  refine own_up (fun tx kx => XS.iload X0.here hx rfl (hb hby d13_15) rfl kx) ?_
  show OwnOk p e below _ (s₁.setTop (mkF m 17 #[.val (.ref ca), .val (.int (0 : Int32)), .val (.ref t), .val (.int (0 : Int32)), .val (.int (1 : Int32)), .val (.int (0 : Int32)), .val (.int x0)] [(.int x0)]))
  refine own_up (fun tx kx => XS.sipush X0.here hx rfl (hb hby d13_17) kx) ?_
  show OwnOk p e below _ (s₁.setTop (mkF m 20 #[.val (.ref ca), .val (.int (0 : Int32)), .val (.ref t), .val (.int (0 : Int32)), .val (.int (1 : Int32)), .val (.int (0 : Int32)), .val (.int x0)] [(.int (255 : Int32)), (.int x0)]))
  refine own_up (fun tx kx => XS.icmpYes X0.here hx rfl (pc0 := 20) (pc' := 26) rfl (hb hby d13_20) rfl (flt c0).2.2.2 (by decide) (by decide) kx) ?_
  show OwnOk p e below _ (s₁.setTop (mkF m 26 #[.val (.ref ca), .val (.int (0 : Int32)), .val (.ref t), .val (.int (0 : Int32)), .val (.int (1 : Int32)), .val (.int (0 : Int32)), .val (.int x0)] []))
  refine own_up (fun tx kx => XS.aloadN X0.here hx rfl (hb hby d13_26) rfl rfl kx) ?_
  show OwnOk p e below _ (s₁.setTop (mkF m 27 #[.val (.ref ca), .val (.int (0 : Int32)), .val (.ref t), .val (.int (0 : Int32)), .val (.int (1 : Int32)), .val (.int (0 : Int32)), .val (.int x0)] [(.ref t)]))
  refine own_up (fun tx kx => XS.iloadN X0.here hx rfl (hb hby d13_27) rfl kx) ?_
  show OwnOk p e below _ (s₁.setTop (mkF m 28 #[.val (.ref ca), .val (.int (0 : Int32)), .val (.ref t), .val (.int (0 : Int32)), .val (.int (1 : Int32)), .val (.int (0 : Int32)), .val (.int x0)] [(.int (0 : Int32)), (.ref t)]))
  refine own_up (fun tx kx => XS.iload X0.here hx rfl (hb hby d13_28) rfl kx) ?_
  show OwnOk p e below _ (s₁.setTop (mkF m 30 #[.val (.ref ca), .val (.int (0 : Int32)), .val (.ref t), .val (.int (0 : Int32)), .val (.int (1 : Int32)), .val (.int (0 : Int32)), .val (.int x0)] [(.int x0), (.int (0 : Int32)), (.ref t)]))
  refine own_up (fun tx kx => XS.i2b X0.here hx rfl (hb hby d13_30) rfl kx) ?_
  show OwnOk p e below _ (s₁.setTop (mkF m 31 #[.val (.ref ca), .val (.int (0 : Int32)), .val (.ref t), .val (.int (0 : Int32)), .val (.int (1 : Int32)), .val (.int (0 : Int32)), .val (.int x0)] [(.int (x0.toInt8.toInt32)), (.int (0 : Int32)), (.ref t)]))
  obtain ⟨cl12, Ar12, qc12, Sz12, Nn12, Hs12, Gf12⟩ := id V_t
  have hin12 : ¬ ((0 : Int32) < 0 ∨ cl12.slots.size ≤ ((0 : Int32)).toNatClampNeg) := inb_of Sz12 ⟨by decide, by decide⟩
  obtain ⟨T13, h13, X13, e13, W13, st13⟩ := stB X0 hx hZ e0 Ar12 (j := (0 : Int32)) hin12 (g := (mkF m 31 #[.val (.ref ca), .val (.int (0 : Int32)), .val (.ref t), .val (.int (0 : Int32)), .val (.int (1 : Int32)), .val (.int (0 : Int32)), .val (.int x0)] [(.int (x0.toInt8.toInt32)), (.int (0 : Int32)), (.ref t)])) rfl rfl (hb hby d13_31)
  have V_t_13 : Arv Z h13 t kt .byte (1 : Int32) [(.int (nar .byte (x0.toInt8.toInt32)))] (.int (0 : Int32)) := Arv.set Ar12 qc12 Sz12 Nn12 Hs12 Gf12 (fits_nar_byte _) W13 0 rfl (Nat.le_of_ble_eq_true rfl)
  have N13 := Fr.snoc X13 N0 n0_t
  have OL14 := OL.wr W13 n0_t
  have KP14 := KP0.wr W13 (Or.inl (List.mem_of_getElem? (i := 0) rfl))
  refine own_up st13 ?_
  show OwnOk p e below _ (T13.setTop (mkF m 32 #[.val (.ref ca), .val (.int (0 : Int32)), .val (.ref t), .val (.int (0 : Int32)), .val (.int (1 : Int32)), .val (.int (0 : Int32)), .val (.int x0)] []))
  have hi32_15 : ((0 : Int32) + (1 : Int32)) = (1 : Int32) := by decide
  refine own_up (fun tx kx => XS.iinc X13.here hx rfl (hb hby d13_32) rfl (l' := #[.val (.ref ca), .val (.int ((0 : Int32) + (1 : Int32))), .val (.ref t), .val (.int (0 : Int32)), .val (.int (1 : Int32)), .val (.int (0 : Int32)), .val (.int x0)]) rfl kx) ?_
  rw [hi32_15]
  show OwnOk p e below _ (T13.setTop (mkF m 35 #[.val (.ref ca), .val (.int (1 : Int32)), .val (.ref t), .val (.int (0 : Int32)), .val (.int (1 : Int32)), .val (.int (0 : Int32)), .val (.int x0)] []))
  have hi35_16 : ((0 : Int32) + (1 : Int32)) = (1 : Int32) := by decide
  refine own_up (fun tx kx => XS.iinc X13.here hx rfl (hb hby d13_35) rfl (l' := #[.val (.ref ca), .val (.int (1 : Int32)), .val (.ref t), .val (.int ((0 : Int32) + (1 : Int32))), .val (.int (1 : Int32)), .val (.int (0 : Int32)), .val (.int x0)]) rfl kx) ?_
  rw [hi35_16]
  show OwnOk p e below _ (T13.setTop (mkF m 38 #[.val (.ref ca), .val (.int (1 : Int32)), .val (.ref t), .val (.int (1 : Int32)), .val (.int (1 : Int32)), .val (.int (0 : Int32)), .val (.int x0)] []))
  have hi38_17 : ((0 : Int32) + (1 : Int32)) = (1 : Int32) := by decide
  refine own_up (fun tx kx => XS.iinc X13.here hx rfl (hb hby d13_38) rfl (l' := #[.val (.ref ca), .val (.int (1 : Int32)), .val (.ref t), .val (.int (1 : Int32)), .val (.int (1 : Int32)), .val (.int ((0 : Int32) + (1 : Int32))), .val (.int x0)]) rfl kx) ?_
  rw [hi38_17]
  show OwnOk p e below _ (T13.setTop (mkF m 41 #[.val (.ref ca), .val (.int (1 : Int32)), .val (.ref t), .val (.int (1 : Int32)), .val (.int (1 : Int32)), .val (.int (1 : Int32)), .val (.int x0)] []))
  refine own_up (fun tx kx => XS.goto X13.here hx rfl (pc0 := 41) (pc' := 3) rfl (hb hby d13_41) (by decide) (by decide) kx) ?_
  show OwnOk p e below _ (T13.setTop (mkF m 3 #[.val (.ref ca), .val (.int (1 : Int32)), .val (.ref t), .val (.int (1 : Int32)), .val (.int (1 : Int32)), .val (.int (1 : Int32)), .val (.int x0)] []))
  refine own_up (fun tx kx => XS.iload X13.here hx rfl (hb hby d13_3) rfl kx) ?_
  show OwnOk p e below _ (T13.setTop (mkF m 5 #[.val (.ref ca), .val (.int (1 : Int32)), .val (.ref t), .val (.int (1 : Int32)), .val (.int (1 : Int32)), .val (.int (1 : Int32)), .val (.int x0)] [(.int (1 : Int32))]))
  refine own_up (fun tx kx => XS.iload X13.here hx rfl (hb hby d13_5) rfl kx) ?_
  show OwnOk p e below _ (T13.setTop (mkF m 7 #[.val (.ref ca), .val (.int (1 : Int32)), .val (.ref t), .val (.int (1 : Int32)), .val (.int (1 : Int32)), .val (.int (1 : Int32)), .val (.int x0)] [(.int (1 : Int32)), (.int (1 : Int32))]))
  refine own_up (fun tx kx => XS.icmpYes X13.here hx rfl (pc0 := 7) (pc' := 44) rfl (hb hby d13_7) rfl (flt (by decide)).2.1 (by decide) (by decide) kx) ?_
  show OwnOk p e below _ (T13.setTop (mkF m 44 #[.val (.ref ca), .val (.int (1 : Int32)), .val (.ref t), .val (.int (1 : Int32)), .val (.int (1 : Int32)), .val (.int (1 : Int32)), .val (.int x0)] []))
  refine own_up (fun tx kx => XS.iload X13.here hx rfl (hb hby d13_44) rfl kx) ?_
  show OwnOk p e below _ (T13.setTop (mkF m 46 #[.val (.ref ca), .val (.int (1 : Int32)), .val (.ref t), .val (.int (1 : Int32)), .val (.int (1 : Int32)), .val (.int (1 : Int32)), .val (.int x0)] [(.int (1 : Int32))]))
  refine own_retI X13 hx (show meth.sig.returnType = some .int from hret) hlk (hb hby d13_46) e13 (Nat.le_of_ble_eq_true rfl) (Nat.le_of_ble_eq_true rfl) ?_
  exact ⟨rfl, N13, KP14, V_t_13⟩
def Q_c_cmp4_1 (Z : State) (x0 : Int32) (h0 : Heap) (n0 : Nat) (v : Option Value) (h : Heap) (L : List Loc) : Prop := ∃ (t : Addr) (kt : ClassId), v = some (.ref t) ∧ Fr n0 L ∧ Keep h0 h [] ∧ h0.size ≤ t ∧ Arv Z h t kt .byte (1 : Int32) [(.int (nar .byte (x0.toInt8.toInt32)))] (.int (0 : Int32))
set_option maxRecDepth 65536 in
set_option maxHeartbeats 40000000 in
theorem c_cmp4_1 (l : Launch) (Z : State) (a0 : Array Value) (hw : ∀ d ∈ tables_1, d.before a0 Z = true) (ca : Addr) (kc : ClassId) (x0 : Int32) (h0 : Heap) (n0 : Nat) (OL : Old Z n0 h0) (V_ca : Arv Z h0 ca kc .char (1 : Int32) [(.int x0)] (.int (0 : Int32))) (c0 : ¬ (255 : Int32) < x0) :
    own_Met l Z (⟨"java/lang/StringUTF16", "compress", "([CII)[B"⟩ : MethodName) jdk_52_method_16_code 6 (some (.array .byte)) ({ frames := 1, cells := 1, slots := 1, locals := 20 } : Room) #[(.ref ca), (.int (0 : Int32)), (.int (1 : Int32))] h0 (Q_c_cmp4_1 Z x0 h0 n0) := by
  refine own_body (L0 := #[.val (.ref ca), .val (.int (0 : Int32)), .val (.int (1 : Int32)), .unset, .unset, .unset]) (plainFor_of_name (by first | (simp [plainName, overriddenIn]; done) | decide +kernel)) (fun m => by first | (simp [entryFrame, mkF, argsToLocals, Value.category]; done) | rfl) ?_
  intro p e s m below meth c s₁ hx hby hml hZ hown hnm hret hlk X0 e0
  have N0 := Fr.nil n0
  have Z0 : n0 ≤ h0.size := OL.1 ▸ OL.2.1
  show OwnOk p e below _ (s₁.setTop (mkF m 0 #[.val (.ref ca), .val (.int (0 : Int32)), .val (.int (1 : Int32)), .unset, .unset, .unset] []))
  have KP0 : Keep h0 h0 [] := Keep.refl h0 _
  refine own_up (fun tx kx => XS.iloadN X0.here hx rfl (hb hby d12_0) rfl kx) ?_
  show OwnOk p e below _ (s₁.setTop (mkF m 1 #[.val (.ref ca), .val (.int (0 : Int32)), .val (.int (1 : Int32)), .unset, .unset, .unset] [(.int (1 : Int32))]))
  obtain ⟨T11, h11, k11, X11, e11, E11, A11, st11⟩ := newP (aty := .byte) X0 hx hZ (wd_20 hw) e0 (g := (mkF m 1 #[.val (.ref ca), .val (.int (0 : Int32)), .val (.int (1 : Int32)), .unset, .unset, .unset] [(.int (1 : Int32))])) rfl (hb hby d12_1) rfl (by decide) (cap := 1) (by decide) (by decide) (by decide) (by decide)
  obtain ⟨b11, g11⟩ : ∃ z, z = h0.size := ⟨_, rfl⟩
  rw [← g11] at A11 st11
  have sz_b11 : h0.size ≤ b11 := Nat.le_of_eq g11.symm
  have lt_ca_b11 : ca < b11 := Nat.lt_of_lt_of_le V_ca.lt sz_b11
  have n0_b11 : n0 ≤ b11 := Nat.le_trans (own_n0 OL) sz_b11
  have ws_b11 : h0.size ≤ b11 := Nat.le_trans KP0.1 sz_b11
  have V_b11 : Arv Z h11 b11 k11 .byte (1 : Int32) [(.int (0 : Int32))] (.int (0 : Int32)) := (Arv.new A11 (by decide)).pad (pad_rep [] (.int (0 : Int32)) 1)
  have OL13 := OL.ext E11
  have KP13 := KP0.ext E11
  refine own_up st11 ?_
  show OwnOk p e below _ (T11.setTop (mkF m 3 #[.val (.ref ca), .val (.int (0 : Int32)), .val (.int (1 : Int32)), .unset, .unset, .unset] [(.ref b11)]))
  refine own_up (fun tx kx => XS.astoreN X11.here hx rfl (hb hby d12_3) rfl rfl (l' := #[.val (.ref ca), .val (.int (0 : Int32)), .val (.int (1 : Int32)), .val (.ref b11), .unset, .unset]) rfl kx) ?_
  show OwnOk p e below _ (T11.setTop (mkF m 4 #[.val (.ref ca), .val (.int (0 : Int32)), .val (.int (1 : Int32)), .val (.ref b11), .unset, .unset] []))
  refine own_up (fun tx kx => XS.aloadN X11.here hx rfl (hb hby d12_4) rfl rfl kx) ?_
  show OwnOk p e below _ (T11.setTop (mkF m 5 #[.val (.ref ca), .val (.int (0 : Int32)), .val (.int (1 : Int32)), .val (.ref b11), .unset, .unset] [(.ref ca)]))
  refine own_up (fun tx kx => XS.iloadN X11.here hx rfl (hb hby d12_5) rfl kx) ?_
  show OwnOk p e below _ (T11.setTop (mkF m 6 #[.val (.ref ca), .val (.int (0 : Int32)), .val (.int (1 : Int32)), .val (.ref b11), .unset, .unset] [(.int (0 : Int32)), (.ref ca)]))
  refine own_up (fun tx kx => XS.aloadN X11.here hx rfl (hb hby d12_6) rfl rfl kx) ?_
  show OwnOk p e below _ (T11.setTop (mkF m 7 #[.val (.ref ca), .val (.int (0 : Int32)), .val (.int (1 : Int32)), .val (.ref b11), .unset, .unset] [(.ref b11), (.int (0 : Int32)), (.ref ca)]))
  refine own_up (fun tx kx => XS.iconst X11.here hx rfl (hb hby d12_7) kx) ?_
  show OwnOk p e below _ (T11.setTop (mkF m 8 #[.val (.ref ca), .val (.int (0 : Int32)), .val (.int (1 : Int32)), .val (.ref b11), .unset, .unset] [(.int (0 : Int32)), (.ref b11), (.int (0 : Int32)), (.ref ca)]))
  refine own_up (fun tx kx => XS.iloadN X11.here hx rfl (hb hby d12_8) rfl kx) ?_
  show OwnOk p e below _ (T11.setTop (mkF m 9 #[.val (.ref ca), .val (.int (0 : Int32)), .val (.int (1 : Int32)), .val (.ref b11), .unset, .unset] [(.int (1 : Int32)), (.int (0 : Int32)), (.ref b11), (.int (0 : Int32)), (.ref ca)]))
  have V_ca_14 := (V_ca.ext E11)
  refine own_callS X11 hx hZ (y := (⟨"java/lang/StringUTF16", "compress", "([CI[BII)I"⟩ : MethodName)) hown (wd_64 hw) (wd_65 hw) (wd_62 hw) (wd_66 hw) (by decide) (c_cmp5_1 l Z a0 hw ca b11 kc k11 x0 h11 n0 OL13 V_ca_14 V_b11 n0_b11 (Nat.ne_of_lt lt_ca_b11) c0) e11 (argsL := [(.ref ca), (.int (0 : Int32)), (.ref b11), (.int (0 : Int32)), (.int (1 : Int32))]) (rest := []) (by rw [hml]; rfl) (lenOf pd_7 rfl) rfl rfl (W := 0) rfl (hb hby d12_9) (by decide) (by decide) (by decide) (by decide) (fun T15 v15 L15 X15 hQ15 => ?_)
  obtain ⟨rfl, Nq15, Kq15, Vq15⟩ := hQ15
  have N15 := Fr.app N0 Nq15
  have OL15 := OL13.keep Kq15 (allS n0_b11 all0)
  have KP15 := KP13.trans Kq15 (allS (Or.inr ws_b11) all0)
  show OwnOk p e below _ (T15.setTop (mkF m 12 #[.val (.ref ca), .val (.int (0 : Int32)), .val (.int (1 : Int32)), .val (.ref b11), .unset, .unset] [(.int (1 : Int32))]))
  refine own_up (fun tx kx => XS.istore X15.here hx rfl (hb hby d12_12) rfl (l' := #[.val (.ref ca), .val (.int (0 : Int32)), .val (.int (1 : Int32)), .val (.ref b11), .val (.int (1 : Int32)), .unset]) rfl kx) ?_
  show OwnOk p e below _ (T15.setTop (mkF m 14 #[.val (.ref ca), .val (.int (0 : Int32)), .val (.int (1 : Int32)), .val (.ref b11), .val (.int (1 : Int32)), .unset] []))
  refine own_up (fun tx kx => XS.iload X15.here hx rfl (hb hby d12_14) rfl kx) ?_
  show OwnOk p e below _ (T15.setTop (mkF m 16 #[.val (.ref ca), .val (.int (0 : Int32)), .val (.int (1 : Int32)), .val (.ref b11), .val (.int (1 : Int32)), .unset] [(.int (1 : Int32))]))
  refine own_up (fun tx kx => XS.iloadN X15.here hx rfl (hb hby d12_16) rfl kx) ?_
  show OwnOk p e below _ (T15.setTop (mkF m 17 #[.val (.ref ca), .val (.int (0 : Int32)), .val (.int (1 : Int32)), .val (.ref b11), .val (.int (1 : Int32)), .unset] [(.int (1 : Int32)), (.int (1 : Int32))]))
  refine own_up (fun tx kx => XS.icmpYes X15.here hx rfl (pc0 := 17) (pc' := 57) rfl (hb hby d12_17) rfl (teq rfl).1 (by decide) (by decide) kx) ?_
  show OwnOk p e below _ (T15.setTop (mkF m 57 #[.val (.ref ca), .val (.int (0 : Int32)), .val (.int (1 : Int32)), .val (.ref b11), .val (.int (1 : Int32)), .unset] []))
  refine own_up (fun tx kx => XS.aloadN X15.here hx rfl (hb hby d12_57) rfl rfl kx) ?_
  show OwnOk p e below _ (T15.setTop (mkF m 58 #[.val (.ref ca), .val (.int (0 : Int32)), .val (.int (1 : Int32)), .val (.ref b11), .val (.int (1 : Int32)), .unset] [(.ref b11)]))
  refine own_retR X15 hx (t := (.array .byte)) (show meth.sig.returnType = some (.array .byte) from hret) rfl hlk rfl (hb hby d12_58) rfl (Nat.le_of_ble_eq_true rfl) (Nat.le_of_ble_eq_true rfl) ?_
  exact ⟨b11, _, rfl, N15, KP15, ws_b11, Vq15⟩
def Q_c_coder_1 (h0 : Heap) (n0 : Nat) (v : Option Value) (h : Heap) (L : List Loc) : Prop := v = some (.int 0) ∧ Fr n0 L ∧ h = h0
set_option maxRecDepth 65536 in
set_option maxHeartbeats 40000000 in
theorem c_coder_1 (l : Launch) (Z : State) (a0 : Array Value) (hw : ∀ d ∈ tables_1, d.before a0 Z = true) (t : Addr) (kt : ClassId) (x0 : Int32) (h0 : Heap) (n0 : Nat) (OL : Old Z n0 h0) (V_t : Arv Z h0 t kt .byte (1 : Int32) [(.int (nar .byte (x0.toInt8.toInt32)))] (.int (0 : Int32))) :
    own_Met l Z (⟨"java/lang/StringUTF16", "coderFromArrayLen", "([BI)B"⟩ : MethodName) jdk_52_method_15_code 2 (some .byte) ({ frames := 0, cells := 0, slots := 0, locals := 0 } : Room) #[(.ref t), (.int (1 : Int32))] h0 (Q_c_coder_1 h0 n0) := by
  refine own_body (L0 := #[.val (.ref t), .val (.int (1 : Int32))]) (plainFor_of_name (by first | (simp [plainName, overriddenIn]; done) | decide +kernel)) (fun m => by first | (simp [entryFrame, mkF, argsToLocals, Value.category]; done) | rfl) ?_
  intro p e s m below meth c s₁ hx hby hml hZ hown hnm hret hlk X0 e0
  have N0 := Fr.nil n0
  have Z0 : n0 ≤ h0.size := OL.1 ▸ OL.2.1
  show OwnOk p e below _ (s₁.setTop (mkF m 0 #[.val (.ref t), .val (.int (1 : Int32))] []))
  refine own_up (fun tx kx => XS.iloadN X0.here hx rfl (hb hby d14_0) rfl kx) ?_
  show OwnOk p e below _ (s₁.setTop (mkF m 1 #[.val (.ref t), .val (.int (1 : Int32))] [(.int (1 : Int32))]))
  refine own_up (fun tx kx => XS.aloadN X0.here hx rfl (hb hby d14_1) rfl rfl kx) ?_
  show OwnOk p e below _ (s₁.setTop (mkF m 2 #[.val (.ref t), .val (.int (1 : Int32))] [(.ref t), (.int (1 : Int32))]))
  obtain ⟨cl11, Ar11, qc11, Sz11, Nn11, Hs11, Gf11⟩ := id V_t
  have hlen11 : cl11.slots.size.toInt32 = (1 : Int32) := len_of Sz11 Nn11
  refine own_up (fun tx kx => X0.arraylength hx (own_ar e0 Ar11.1) (State.isArrayOf_alike hZ.alike Ar11.2.1) (g := (mkF m 2 #[.val (.ref t), .val (.int (1 : Int32))] [(.ref t), (.int (1 : Int32))])) rfl rfl (hb hby d14_2) _ kx) ?_
  rw [hlen11]
  show OwnOk p e below _ (s₁.setTop (mkF m 3 #[.val (.ref t), .val (.int (1 : Int32))] [(.int (1 : Int32)), (.int (1 : Int32))]))
  have hc3_12 : ((1 : Int32) - (1 : Int32)) = (0 : Int32) := by decide
  refine own_up (fun tx kx => XS.isub X0.here hx rfl (hb hby d14_3) rfl kx) ?_
  show OwnOk p e below _ (s₁.setTop (mkF m 4 #[.val (.ref t), .val (.int (1 : Int32))] [(.int ((1 : Int32) - (1 : Int32)))]))
  rw [hc3_12]
  show OwnOk p e below _ (s₁.setTop (mkF m 4 #[.val (.ref t), .val (.int (1 : Int32))] [(.int (0 : Int32))]))
  refine own_up (fun tx kx => XS.bipush X0.here hx rfl (hb hby d14_4) kx) ?_
  show OwnOk p e below _ (s₁.setTop (mkF m 6 #[.val (.ref t), .val (.int (1 : Int32))] [(.int (31 : Int32)), (.int (0 : Int32))]))
  refine own_up (fun tx kx => XS.iushr X0.here hx rfl (hb hby d14_6) rfl kx) ?_
  show OwnOk p e below _ (s₁.setTop (mkF m 7 #[.val (.ref t), .val (.int (1 : Int32))] [(.int (((0 : Int32).toUInt32 >>> ((31 : Int32) &&& 31).toUInt32).toInt32))]))
  refine own_up (fun tx kx => XS.i2b X0.here hx rfl (hb hby d14_7) rfl kx) ?_
  show OwnOk p e below _ (s₁.setTop (mkF m 8 #[.val (.ref t), .val (.int (1 : Int32))] [(.int ((((0 : Int32).toUInt32 >>> ((31 : Int32) &&& 31).toUInt32).toInt32).toInt8.toInt32))]))
  refine own_retN X0 hx (t := .byte) (show meth.sig.returnType = some .byte from hret) (by simp) hlk (hb hby d14_8) (z' := 0) (by decide) e0 (Nat.le_of_ble_eq_true rfl) (Nat.le_of_ble_eq_true rfl) ?_
  exact ⟨rfl, N0, rfl⟩
def Q_c_init2_1 (Z : State) (a : Addr) (x0 : Int32) (h0 : Heap) (n0 : Nat) (v : Option Value) (h : Heap) (L : List Loc) : Prop := v = none ∧ Fr n0 L ∧ Keep h0 h [a] ∧ ∃ (u : Addr) (ku : ClassId), h0.size ≤ u ∧ (Exa Z h a "java/lang/String") ∧ (Fld Z h a "java/lang/String" "value" "[B" (.ref u)) ∧ (Fld Z h a "java/lang/String" "coder" "B" (.int (0 : Int32))) ∧ (Arv Z h u ku .byte (Int32.ofNat 1) (own_F 1 (fun j => [(nar .byte (x0.toInt8.toInt32))].getD j 0)) (.int (0 : Int32)))
set_option maxRecDepth 65536 in
set_option maxHeartbeats 40000000 in
theorem c_init2_1 (l : Launch) (Z : State) (a0 : Array Value) (hw : ∀ d ∈ tables_1, d.before a0 Z = true) (a ca : Addr) (kc : ClassId) (x0 : Int32) (cz : Int32) (h0 : Heap) (n0 : Nat) (OL : Old Z n0 h0) (SC : Sta Z Z.heap "java/lang/String" "COMPACT_STRINGS" "Z" (.int cz)) (hcz : ¬ cz = 0) (E_a : Exa Z h0 a "java/lang/String") (F_value_a : Fld Z h0 a "java/lang/String" "value" "[B" .null) (F_coder_a : Fld Z h0 a "java/lang/String" "coder" "B" (.int (0 : Int32))) (n0_a : n0 ≤ a) (V_ca : Arv Z h0 ca kc .char (1 : Int32) [(.int x0)] (.int (0 : Int32))) (ne_a_ca : a ≠ ca) (c0 : ¬ (255 : Int32) < x0) :
    own_Met l Z (⟨"java/lang/String", "<init>", "([CIILjava/lang/Void;)V"⟩ : MethodName) jdk_42_method_149_code 6 none ({ frames := 2, cells := 1, slots := 1, locals := 45 } : Room) #[(.ref a), (.ref ca), (.int (0 : Int32)), (.int (1 : Int32)), .null] h0 (Q_c_init2_1 Z a x0 h0 n0) := by
  refine own_body (L0 := #[.val (.ref a), .val (.ref ca), .val (.int (0 : Int32)), .val (.int (1 : Int32)), .val .null, .unset]) (plainFor_of_name (by first | (simp [plainName, overriddenIn]; done) | decide +kernel)) (fun m => by first | (simp [entryFrame, mkF, argsToLocals, Value.category]; done) | rfl) ?_
  intro p e s m below meth c s₁ hx hby hml hZ hown hnm hret hlk X0 e0
  have N0 := Fr.nil n0
  have Z0 : n0 ≤ h0.size := OL.1 ▸ OL.2.1
  show OwnOk p e below _ (s₁.setTop (mkF m 0 #[.val (.ref a), .val (.ref ca), .val (.int (0 : Int32)), .val (.int (1 : Int32)), .val .null, .unset] []))
  have KP0 : Keep h0 h0 [a] := Keep.refl h0 _
  refine own_up (fun tx kx => XS.aloadN X0.here hx rfl (hb hby d3_0) rfl rfl kx) ?_
  show OwnOk p e below _ (s₁.setTop (mkF m 1 #[.val (.ref a), .val (.ref ca), .val (.int (0 : Int32)), .val (.int (1 : Int32)), .val .null, .unset] [(.ref a)]))
  obtain ⟨T11, X11, e11, st11⟩ := initO X0 hx hZ hown (wd_16 hw) (wd_17 hw) (wd_18 hw) e0 (g := (mkF m 1 #[.val (.ref a), .val (.ref ca), .val (.int (0 : Int32)), .val (.int (1 : Int32)), .val .null, .unset] [(.ref a)])) rfl (by rw [hml]; rfl) rfl (hb hby d3_1) (by decide) (W := 0) (by show 2 * 0 + _ ≤ _; exact Nat.le_of_eq rfl) (by decide)
  refine own_up st11 ?_
  show OwnOk p e below _ (T11.setTop (mkF m 4 #[.val (.ref a), .val (.ref ca), .val (.int (0 : Int32)), .val (.int (1 : Int32)), .val .null, .unset] []))
  refine own_up (fun tx kx => XS.iloadN X11.here hx rfl (hb hby d3_4) rfl kx) ?_
  show OwnOk p e below _ (T11.setTop (mkF m 5 #[.val (.ref a), .val (.ref ca), .val (.int (0 : Int32)), .val (.int (1 : Int32)), .val .null, .unset] [(.int (1 : Int32))]))
  refine own_up (fun tx kx => XS.ifYes X11.here hx rfl (pc0 := 5) (pc' := 27) rfl (hb hby d3_5) rfl ((if0 _ _).trans (feq (by decide)).2) (by decide) (by decide) kx) ?_
  show OwnOk p e below _ (T11.setTop (mkF m 27 #[.val (.ref a), .val (.ref ca), .val (.int (0 : Int32)), .val (.int (1 : Int32)), .val .null, .unset] []))
  obtain ⟨T12, X12, e12, st12⟩ := getS2 X11 hx hZ hown (host := "") (Or.inl (wd_41 hw)) Via.refl e11 (SC.ext OL.2) (g := (mkF m 27 #[.val (.ref a), .val (.ref ca), .val (.int (0 : Int32)), .val (.int (1 : Int32)), .val .null, .unset] [])) rfl (hb hby d3_27)
  refine own_up st12 ?_
  show OwnOk p e below _ (T12.setTop (mkF m 30 #[.val (.ref a), .val (.ref ca), .val (.int (0 : Int32)), .val (.int (1 : Int32)), .val .null, .unset] [(.int cz)]))
  refine own_up (fun tx kx => XS.ifNo X12.here hx rfl (hb hby d3_30) rfl ((if0 _ _).trans (feq hcz).1) kx) ?_
  show OwnOk p e below _ (T12.setTop (mkF m 33 #[.val (.ref a), .val (.ref ca), .val (.int (0 : Int32)), .val (.int (1 : Int32)), .val .null, .unset] []))
  refine own_up (fun tx kx => XS.aloadN X12.here hx rfl (hb hby d3_33) rfl rfl kx) ?_
  show OwnOk p e below _ (T12.setTop (mkF m 34 #[.val (.ref a), .val (.ref ca), .val (.int (0 : Int32)), .val (.int (1 : Int32)), .val .null, .unset] [(.ref ca)]))
  refine own_up (fun tx kx => XS.iloadN X12.here hx rfl (hb hby d3_34) rfl kx) ?_
  show OwnOk p e below _ (T12.setTop (mkF m 35 #[.val (.ref a), .val (.ref ca), .val (.int (0 : Int32)), .val (.int (1 : Int32)), .val .null, .unset] [(.int (0 : Int32)), (.ref ca)]))
  refine own_up (fun tx kx => XS.iloadN X12.here hx rfl (hb hby d3_35) rfl kx) ?_
  show OwnOk p e below _ (T12.setTop (mkF m 36 #[.val (.ref a), .val (.ref ca), .val (.int (0 : Int32)), .val (.int (1 : Int32)), .val .null, .unset] [(.int (1 : Int32)), (.int (0 : Int32)), (.ref ca)]))
  refine own_callS X12 hx hZ (y := (⟨"java/lang/StringUTF16", "compress", "([CII)[B"⟩ : MethodName)) hown (wd_60 hw) (wd_61 hw) (wd_62 hw) (wd_63 hw) (by decide) (c_cmp4_1 l Z a0 hw ca kc x0 h0 n0 OL V_ca c0) e12 (argsL := [(.ref ca), (.int (0 : Int32)), (.int (1 : Int32))]) (rest := []) (by rw [hml]; rfl) (lenOf pd_8 rfl) rfl rfl (W := 0) rfl (hb hby d3_36) (by decide) (by decide) (by decide) (by decide) (fun T13 v13 L13 X13 hQ13 => ?_)
  obtain ⟨tt13, kt13, rfl, Nq13, Kq13, gt13, vt13⟩ := hQ13
  have N13 := Fr.app N0 Nq13
  have lt_a_tt13 : a < tt13 := Nat.lt_of_lt_of_le E_a.lt gt13
  have lt_ca_tt13 : ca < tt13 := Nat.lt_of_lt_of_le V_ca.lt gt13
  have n0_tt13 : n0 ≤ tt13 := Nat.le_trans (own_n0 OL) gt13
  have ws_tt13 : h0.size ≤ tt13 := Nat.le_trans KP0.1 gt13
  have OL13 := OL.keep Kq13 all0
  have KP13 := KP0.trans Kq13 all0
  show OwnOk p e below _ (T13.setTop (mkF m 39 #[.val (.ref a), .val (.ref ca), .val (.int (0 : Int32)), .val (.int (1 : Int32)), .val .null, .unset] [(.ref tt13)]))
  refine own_up (fun tx kx => XS.astore X13.here hx rfl (hb hby d3_39) rfl rfl (l' := #[.val (.ref a), .val (.ref ca), .val (.int (0 : Int32)), .val (.int (1 : Int32)), .val .null, .val (.ref tt13)]) rfl kx) ?_
  show OwnOk p e below _ (T13.setTop (mkF m 41 #[.val (.ref a), .val (.ref ca), .val (.int (0 : Int32)), .val (.int (1 : Int32)), .val .null, .val (.ref tt13)] []))
  refine own_up (fun tx kx => XS.aloadN X13.here hx rfl (hb hby d3_41) rfl rfl kx) ?_
  show OwnOk p e below _ (T13.setTop (mkF m 42 #[.val (.ref a), .val (.ref ca), .val (.int (0 : Int32)), .val (.int (1 : Int32)), .val .null, .val (.ref tt13)] [(.ref a)]))
  refine own_up (fun tx kx => XS.aload X13.here hx rfl (hb hby d3_42) rfl rfl kx) ?_
  show OwnOk p e below _ (T13.setTop (mkF m 44 #[.val (.ref a), .val (.ref ca), .val (.int (0 : Int32)), .val (.int (1 : Int32)), .val .null, .val (.ref tt13)] [(.ref tt13), (.ref a)]))
  refine own_up (fun tx kx => XS.iloadN X13.here hx rfl (hb hby d3_44) rfl kx) ?_
  show OwnOk p e below _ (T13.setTop (mkF m 45 #[.val (.ref a), .val (.ref ca), .val (.int (0 : Int32)), .val (.int (1 : Int32)), .val .null, .val (.ref tt13)] [(.int (1 : Int32)), (.ref tt13), (.ref a)]))
  refine own_callS X13 hx hZ (y := (⟨"java/lang/StringUTF16", "coderFromArrayLen", "([BI)B"⟩ : MethodName)) hown (wd_67 hw) (wd_68 hw) (wd_62 hw) (wd_69 hw) (by decide) (c_coder_1 l Z a0 hw tt13 kt13 x0 T13.heap n0 OL13 vt13) rfl (argsL := [(.ref tt13), (.int (1 : Int32))]) (rest := [(.ref a)]) (by rw [hml]; rfl) (lenOf pd_9 rfl) rfl rfl (W := 1) rfl (hb hby d3_45) (by decide) (by decide) (by decide) (by decide) (fun T14 v14 L14 X14 hQ14 => ?_)
  obtain ⟨rfl, Nq14, hh14⟩ := hQ14
  have N14 := Fr.app N13 Nq14
  show OwnOk p e below _ (T14.setTop (mkF m 48 #[.val (.ref a), .val (.ref ca), .val (.int (0 : Int32)), .val (.int (1 : Int32)), .val .null, .val (.ref tt13)] [(.int (0 : Int32)), (.ref a)]))
  have F_coder_a_15 := (F_coder_a.keep Kq13 nin0)
  have E_a_16 := (E_a.keep Kq13)
  obtain ⟨T17, h17, X17, e17, W17, st17⟩ := putFN X14 hx hZ hown (wd_26 hw) Via.refl hh14 F_coder_a_15 E_a_16 (Or.inr ⟨(wd_22 hw), rfl, hnm⟩) (wd_7 hw) (ty := .byte) (v := (.int (0 : Int32))) (v' := (.int (0 : Int32))) (by decide) (by decide) (by decide) (g := (mkF m 48 #[.val (.ref a), .val (.ref ca), .val (.int (0 : Int32)), .val (.int (1 : Int32)), .val .null, .val (.ref tt13)] [(.int (0 : Int32)), (.ref a)])) rfl rfl (hb hby d3_48)
  have Fw17 := Fld.same W17 F_coder_a_15
  have N17 := Fr.snoc X17 N14 n0_a
  have OL18 := OL13.wr W17 n0_a
  have KP18 := KP13.wr W17 (Or.inl (List.mem_of_getElem? (i := 0) rfl))
  refine own_up st17 ?_
  show OwnOk p e below _ (T17.setTop (mkF m 51 #[.val (.ref a), .val (.ref ca), .val (.int (0 : Int32)), .val (.int (1 : Int32)), .val .null, .val (.ref tt13)] []))
  refine own_up (fun tx kx => XS.aloadN X17.here hx rfl (hb hby d3_51) rfl rfl kx) ?_
  show OwnOk p e below _ (T17.setTop (mkF m 52 #[.val (.ref a), .val (.ref ca), .val (.int (0 : Int32)), .val (.int (1 : Int32)), .val .null, .val (.ref tt13)] [(.ref a)]))
  refine own_up (fun tx kx => XS.aload X17.here hx rfl (hb hby d3_52) rfl rfl kx) ?_
  show OwnOk p e below _ (T17.setTop (mkF m 54 #[.val (.ref a), .val (.ref ca), .val (.int (0 : Int32)), .val (.int (1 : Int32)), .val .null, .val (.ref tt13)] [(.ref tt13), (.ref a)]))
  have F_value_a_19 := ((F_value_a.keep Kq13 nin0).other W17 (Or.inr (slot_ne (Or.inr (wd_21 hw)) (Or.inr (wd_22 hw)) (by decide) (t := (.array .byte)) (t' := .byte) (by decide) (by decide))))
  have E_a_20 := (E_a_16.wr W17)
  obtain ⟨T21, h21, X21, e21, W21, st21⟩ := putF X17 hx hZ hown (host := "") (Or.inl (wd_25 hw)) Via.refl e17 F_value_a_19 E_a_20 (Or.inr ⟨(wd_21 hw), rfl, hnm⟩) (wd_7 hw) (ty := (.array .byte)) (by decide) rfl rfl (g := (mkF m 54 #[.val (.ref a), .val (.ref ca), .val (.int (0 : Int32)), .val (.int (1 : Int32)), .val .null, .val (.ref tt13)] [(.ref tt13), (.ref a)])) rfl rfl (hb hby d3_54)
  have Fw21 := Fld.same W21 F_value_a_19
  have N21 := Fr.snoc X21 N17 n0_a
  have OL22 := OL18.wr W21 n0_a
  have KP22 := KP18.wr W21 (Or.inl (List.mem_of_getElem? (i := 0) rfl))
  refine own_up st21 ?_
  show OwnOk p e below _ (T21.setTop (mkF m 57 #[.val (.ref a), .val (.ref ca), .val (.int (0 : Int32)), .val (.int (1 : Int32)), .val .null, .val (.ref tt13)] []))
  have E_a_23 := (E_a_20.wr W21)
  have F_coder_a_24 := (Fw17.other W21 (Or.inr (slot_ne (Or.inr (wd_22 hw)) (Or.inr (wd_21 hw)) (by decide) (t := .byte) (t' := (.array .byte)) (by decide) (by decide))))
  have V_tt13_25 := ((vt13.other W17 (Nat.ne_of_gt lt_a_tt13)).other W21 (Nat.ne_of_gt lt_a_tt13))
  refine own_retV X21 hx (show meth.sig.returnType = none from hret) hlk (hb hby d3_57) e21 (Nat.le_of_ble_eq_true rfl) (Nat.le_of_ble_eq_true rfl) ?_
  exact ⟨rfl, N21, KP22, tt13, _, ws_tt13, E_a_23, Fw21, F_coder_a_24, V_tt13_25⟩
def Q_c_init1_1 (Z : State) (a : Addr) (x0 : Int32) (h0 : Heap) (n0 : Nat) (v : Option Value) (h : Heap) (L : List Loc) : Prop := v = none ∧ Fr n0 L ∧ Keep h0 h [a] ∧ ∃ (u : Addr) (ku : ClassId), h0.size ≤ u ∧ (Exa Z h a "java/lang/String") ∧ (Fld Z h a "java/lang/String" "value" "[B" (.ref u)) ∧ (Fld Z h a "java/lang/String" "coder" "B" (.int (0 : Int32))) ∧ (Arv Z h u ku .byte (Int32.ofNat 1) (own_F 1 (fun j => [(nar .byte (x0.toInt8.toInt32))].getD j 0)) (.int (0 : Int32)))
set_option maxRecDepth 65536 in
set_option maxHeartbeats 40000000 in
theorem c_init1_1 (l : Launch) (Z : State) (a0 : Array Value) (hw : ∀ d ∈ tables_1, d.before a0 Z = true) (a ca : Addr) (kc : ClassId) (x0 : Int32) (cz : Int32) (h0 : Heap) (n0 : Nat) (OL : Old Z n0 h0) (SC : Sta Z Z.heap "java/lang/String" "COMPACT_STRINGS" "Z" (.int cz)) (hcz : ¬ cz = 0) (E_a : Exa Z h0 a "java/lang/String") (F_value_a : Fld Z h0 a "java/lang/String" "value" "[B" .null) (F_coder_a : Fld Z h0 a "java/lang/String" "coder" "B" (.int (0 : Int32))) (n0_a : n0 ≤ a) (V_ca : Arv Z h0 ca kc .char (1 : Int32) [(.int x0)] (.int (0 : Int32))) (ne_a_ca : a ≠ ca) (c0 : ¬ (255 : Int32) < x0) :
    own_Met l Z (⟨"java/lang/String", "<init>", "([C)V"⟩ : MethodName) jdk_42_method_3_code 2 none ({ frames := 3, cells := 1, slots := 1, locals := 65 } : Room) #[(.ref a), (.ref ca)] h0 (Q_c_init1_1 Z a x0 h0 n0) := by
  refine own_body (L0 := #[.val (.ref a), .val (.ref ca)]) (plainFor_of_name (by first | (simp [plainName, overriddenIn]; done) | decide +kernel)) (fun m => by first | (simp [entryFrame, mkF, argsToLocals, Value.category]; done) | rfl) ?_
  intro p e s m below meth c s₁ hx hby hml hZ hown hnm hret hlk X0 e0
  have N0 := Fr.nil n0
  have Z0 : n0 ≤ h0.size := OL.1 ▸ OL.2.1
  show OwnOk p e below _ (s₁.setTop (mkF m 0 #[.val (.ref a), .val (.ref ca)] []))
  have KP0 : Keep h0 h0 [a] := Keep.refl h0 _
  refine own_up (fun tx kx => XS.aloadN X0.here hx rfl (hb hby d2_0) rfl rfl kx) ?_
  show OwnOk p e below _ (s₁.setTop (mkF m 1 #[.val (.ref a), .val (.ref ca)] [(.ref a)]))
  refine own_up (fun tx kx => XS.aloadN X0.here hx rfl (hb hby d2_1) rfl rfl kx) ?_
  show OwnOk p e below _ (s₁.setTop (mkF m 2 #[.val (.ref a), .val (.ref ca)] [(.ref ca), (.ref a)]))
  refine own_up (fun tx kx => XS.iconst X0.here hx rfl (hb hby d2_2) kx) ?_
  show OwnOk p e below _ (s₁.setTop (mkF m 3 #[.val (.ref a), .val (.ref ca)] [(.int (0 : Int32)), (.ref ca), (.ref a)]))
  refine own_up (fun tx kx => XS.aloadN X0.here hx rfl (hb hby d2_3) rfl rfl kx) ?_
  show OwnOk p e below _ (s₁.setTop (mkF m 4 #[.val (.ref a), .val (.ref ca)] [(.ref ca), (.int (0 : Int32)), (.ref ca), (.ref a)]))
  obtain ⟨cl11, Ar11, qc11, Sz11, Nn11, Hs11, Gf11⟩ := id V_ca
  have hlen11 : cl11.slots.size.toInt32 = (1 : Int32) := len_of Sz11 Nn11
  refine own_up (fun tx kx => X0.arraylength hx (own_ar e0 Ar11.1) (State.isArrayOf_alike hZ.alike Ar11.2.1) (g := (mkF m 4 #[.val (.ref a), .val (.ref ca)] [(.ref ca), (.int (0 : Int32)), (.ref ca), (.ref a)])) rfl rfl (hb hby d2_4) _ kx) ?_
  rw [hlen11]
  show OwnOk p e below _ (s₁.setTop (mkF m 5 #[.val (.ref a), .val (.ref ca)] [(.int (1 : Int32)), (.int (0 : Int32)), (.ref ca), (.ref a)]))
  refine own_up (fun tx kx => XS.aconstNull X0.here hx rfl (hb hby d2_5) kx) ?_
  show OwnOk p e below _ (s₁.setTop (mkF m 6 #[.val (.ref a), .val (.ref ca)] [.null, (.int (1 : Int32)), (.int (0 : Int32)), (.ref ca), (.ref a)]))
  refine own_callC X0 hx hZ (y := (⟨"java/lang/String", "<init>", "([CIILjava/lang/Void;)V"⟩ : MethodName)) rfl hown (wd_12 hw) (wd_13 hw) (wd_8 hw) (wd_15 hw) (by decide) (c_init2_1 l Z a0 hw a ca kc x0 cz h0 n0 OL SC hcz E_a F_value_a F_coder_a n0_a V_ca ne_a_ca c0) e0 (argsL := [(.ref ca), (.int (0 : Int32)), (.int (1 : Int32)), .null]) (rest := []) (a := a) (by rw [hml]; rfl) (lenOf pd_10 rfl) rfl rfl (W := 0) rfl (hb hby d2_6) (by decide) (by decide) (by decide) (by decide) (fun T12 v12 L12 X12 hQ12 => ?_)
  obtain ⟨rfl, Nq12, Kq12, uu12, ku12, gu12, ea12, fv12, fc12, vu12⟩ := hQ12
  have N12 := Fr.app N0 Nq12
  have OL12 := OL.keep Kq12 (allS n0_a all0)
  have KP12 := KP0.trans Kq12 (allS (Or.inl (List.mem_of_getElem? (i := 0) rfl)) all0)
  show OwnOk p e below _ (T12.setTop (mkF m 9 #[.val (.ref a), .val (.ref ca)] []))
  refine own_retV X12 hx (show meth.sig.returnType = none from hret) hlk (hb hby d2_9) rfl (Nat.le_of_ble_eq_true rfl) (Nat.le_of_ble_eq_true rfl) ?_
  exact ⟨rfl, N12, KP12, uu12, ku12, gu12, ea12, fv12, fc12, vu12⟩
def Q_c_cmp5_2 (Z : State) (t : Addr) (kt : ClassId) (x0 x1 : Int32) (h0 : Heap) (n0 : Nat) (v : Option Value) (h : Heap) (L : List Loc) : Prop := v = some (.int (2 : Int32)) ∧ Fr n0 L ∧ Keep h0 h [t] ∧ Arv Z h t kt .byte (2 : Int32) [(.int (nar .byte (x0.toInt8.toInt32))), (.int (nar .byte (x1.toInt8.toInt32)))] (.int (0 : Int32))
set_option maxRecDepth 65536 in
set_option maxHeartbeats 40000000 in
theorem c_cmp5_2 (l : Launch) (Z : State) (a0 : Array Value) (hw : ∀ d ∈ tables_1, d.before a0 Z = true) (ca t : Addr) (kc kt : ClassId) (x0 x1 : Int32) (h0 : Heap) (n0 : Nat) (OL : Old Z n0 h0) (V_ca : Arv Z h0 ca kc .char (2 : Int32) [(.int x0), (.int x1)] (.int (0 : Int32))) (V_t : Arv Z h0 t kt .byte (2 : Int32) [(.int (0 : Int32)), (.int (0 : Int32))] (.int (0 : Int32))) (n0_t : n0 ≤ t) (ne_ca_t : ca ≠ t) (c0 : ¬ (255 : Int32) < x0) (c1 : ¬ (255 : Int32) < x1) :
    own_Met l Z (⟨"java/lang/StringUTF16", "compress", "([CI[BII)I"⟩ : MethodName) jdk_52_method_21_code 7 (some .int) ({ frames := 0, cells := 0, slots := 0, locals := 0 } : Room) #[(.ref ca), (.int (0 : Int32)), (.ref t), (.int (0 : Int32)), (.int (2 : Int32))] h0 (Q_c_cmp5_2 Z t kt x0 x1 h0 n0) := by
  refine own_body (L0 := #[.val (.ref ca), .val (.int (0 : Int32)), .val (.ref t), .val (.int (0 : Int32)), .val (.int (2 : Int32)), .unset, .unset]) (plainFor_of_name (by first | (simp [plainName, overriddenIn]; done) | decide +kernel)) (fun m => by first | (simp [entryFrame, mkF, argsToLocals, Value.category]; done) | rfl) ?_
  intro p e s m below meth c s₁ hx hby hml hZ hown hnm hret hlk X0 e0
  have N0 := Fr.nil n0
  have Z0 : n0 ≤ h0.size := OL.1 ▸ OL.2.1
  show OwnOk p e below _ (s₁.setTop (mkF m 0 #[.val (.ref ca), .val (.int (0 : Int32)), .val (.ref t), .val (.int (0 : Int32)), .val (.int (2 : Int32)), .unset, .unset] []))
  have KP0 : Keep h0 h0 [t] := Keep.refl h0 _
  refine own_up (fun tx kx => XS.iconst X0.here hx rfl (hb hby d13_0) kx) ?_
  show OwnOk p e below _ (s₁.setTop (mkF m 1 #[.val (.ref ca), .val (.int (0 : Int32)), .val (.ref t), .val (.int (0 : Int32)), .val (.int (2 : Int32)), .unset, .unset] [(.int (0 : Int32))]))
  refine own_up (fun tx kx => XS.istore X0.here hx rfl (hb hby d13_1) rfl (l' := #[.val (.ref ca), .val (.int (0 : Int32)), .val (.ref t), .val (.int (0 : Int32)), .val (.int (2 : Int32)), .val (.int (0 : Int32)), .unset]) rfl kx) ?_
  show OwnOk p e below _ (s₁.setTop (mkF m 3 #[.val (.ref ca), .val (.int (0 : Int32)), .val (.ref t), .val (.int (0 : Int32)), .val (.int (2 : Int32)), .val (.int (0 : Int32)), .unset] []))
  refine own_up (fun tx kx => XS.iload X0.here hx rfl (hb hby d13_3) rfl kx) ?_
  show OwnOk p e below _ (s₁.setTop (mkF m 5 #[.val (.ref ca), .val (.int (0 : Int32)), .val (.ref t), .val (.int (0 : Int32)), .val (.int (2 : Int32)), .val (.int (0 : Int32)), .unset] [(.int (0 : Int32))]))
  refine own_up (fun tx kx => XS.iload X0.here hx rfl (hb hby d13_5) rfl kx) ?_
  show OwnOk p e below _ (s₁.setTop (mkF m 7 #[.val (.ref ca), .val (.int (0 : Int32)), .val (.ref t), .val (.int (0 : Int32)), .val (.int (2 : Int32)), .val (.int (0 : Int32)), .unset] [(.int (2 : Int32)), (.int (0 : Int32))]))
  refine own_up (fun tx kx => XS.icmpNo X0.here hx rfl (hb hby d13_7) rfl (tlt (by decide)).2.1 kx) ?_
  show OwnOk p e below _ (s₁.setTop (mkF m 10 #[.val (.ref ca), .val (.int (0 : Int32)), .val (.ref t), .val (.int (0 : Int32)), .val (.int (2 : Int32)), .val (.int (0 : Int32)), .unset] []))
  refine own_up (fun tx kx => XS.aloadN X0.here hx rfl (hb hby d13_10) rfl rfl kx) ?_
  show OwnOk p e below _ (s₁.setTop (mkF m 11 #[.val (.ref ca), .val (.int (0 : Int32)), .val (.ref t), .val (.int (0 : Int32)), .val (.int (2 : Int32)), .val (.int (0 : Int32)), .unset] [(.ref ca)]))
  refine own_up (fun tx kx => XS.iloadN X0.here hx rfl (hb hby d13_11) rfl kx) ?_
  show OwnOk p e below _ (s₁.setTop (mkF m 12 #[.val (.ref ca), .val (.int (0 : Int32)), .val (.ref t), .val (.int (0 : Int32)), .val (.int (2 : Int32)), .val (.int (0 : Int32)), .unset] [(.int (0 : Int32)), (.ref ca)]))
  obtain ⟨cl11, Ar11, qc11, Sz11, Nn11, Hs11, Gf11⟩ := id V_ca
  have hin11 : ¬ ((0 : Int32) < 0 ∨ cl11.slots.size ≤ ((0 : Int32)).toNatClampNeg) := inb_of Sz11 ⟨by decide, by decide⟩
  have hat11 : cl11.slots[((0 : Int32)).toNatClampNeg]? = some (.int x0) := Hs11.at hin11 rfl
  refine own_up (fun tx kx => X0.caload hx (j := (0 : Int32)) (v := (.int x0)) (own_ar e0 Ar11.1) (State.isArrayOf_alike hZ.alike Ar11.2.1) Ar11.2.2 hin11 hat11 (g := (mkF m 12 #[.val (.ref ca), .val (.int (0 : Int32)), .val (.ref t), .val (.int (0 : Int32)), .val (.int (2 : Int32)), .val (.int (0 : Int32)), .unset] [(.int (0 : Int32)), (.ref ca)])) rfl rfl (hb hby d13_12) _ kx) ?_
  show OwnOk p e below _ (s₁.setTop (mkF m 13 #[.val (.ref ca), .val (.int (0 : Int32)), .val (.ref t), .val (.int (0 : Int32)), .val (.int (2 : Int32)), .val (.int (0 : Int32)), .unset] [(.int x0)]))
  refine own_up (fun tx kx => XS.istore X0.here hx rfl (hb hby d13_13) rfl (l' := #[.val (.ref ca), .val (.int (0 : Int32)), .val (.ref t), .val (.int (0 : Int32)), .val (.int (2 : Int32)), .val (.int (0 : Int32)), .val (.int x0)]) rfl kx) ?_
  show OwnOk p e below _ (s₁.setTop (mkF m 15 #[.val (.ref ca), .val (.int (0 : Int32)), .val (.ref t), .val (.int (0 : Int32)), .val (.int (2 : Int32)), .val (.int (0 : Int32)), .val (.int x0)] []))
  refine own_up (fun tx kx => XS.iload X0.here hx rfl (hb hby d13_15) rfl kx) ?_
  show OwnOk p e below _ (s₁.setTop (mkF m 17 #[.val (.ref ca), .val (.int (0 : Int32)), .val (.ref t), .val (.int (0 : Int32)), .val (.int (2 : Int32)), .val (.int (0 : Int32)), .val (.int x0)] [(.int x0)]))
  refine own_up (fun tx kx => XS.sipush X0.here hx rfl (hb hby d13_17) kx) ?_
  show OwnOk p e below _ (s₁.setTop (mkF m 20 #[.val (.ref ca), .val (.int (0 : Int32)), .val (.ref t), .val (.int (0 : Int32)), .val (.int (2 : Int32)), .val (.int (0 : Int32)), .val (.int x0)] [(.int (255 : Int32)), (.int x0)]))
  refine own_up (fun tx kx => XS.icmpYes X0.here hx rfl (pc0 := 20) (pc' := 26) rfl (hb hby d13_20) rfl (flt c0).2.2.2 (by decide) (by decide) kx) ?_
  show OwnOk p e below _ (s₁.setTop (mkF m 26 #[.val (.ref ca), .val (.int (0 : Int32)), .val (.ref t), .val (.int (0 : Int32)), .val (.int (2 : Int32)), .val (.int (0 : Int32)), .val (.int x0)] []))
  refine own_up (fun tx kx => XS.aloadN X0.here hx rfl (hb hby d13_26) rfl rfl kx) ?_
  show OwnOk p e below _ (s₁.setTop (mkF m 27 #[.val (.ref ca), .val (.int (0 : Int32)), .val (.ref t), .val (.int (0 : Int32)), .val (.int (2 : Int32)), .val (.int (0 : Int32)), .val (.int x0)] [(.ref t)]))
  refine own_up (fun tx kx => XS.iloadN X0.here hx rfl (hb hby d13_27) rfl kx) ?_
  show OwnOk p e below _ (s₁.setTop (mkF m 28 #[.val (.ref ca), .val (.int (0 : Int32)), .val (.ref t), .val (.int (0 : Int32)), .val (.int (2 : Int32)), .val (.int (0 : Int32)), .val (.int x0)] [(.int (0 : Int32)), (.ref t)]))
  refine own_up (fun tx kx => XS.iload X0.here hx rfl (hb hby d13_28) rfl kx) ?_
  show OwnOk p e below _ (s₁.setTop (mkF m 30 #[.val (.ref ca), .val (.int (0 : Int32)), .val (.ref t), .val (.int (0 : Int32)), .val (.int (2 : Int32)), .val (.int (0 : Int32)), .val (.int x0)] [(.int x0), (.int (0 : Int32)), (.ref t)]))
  refine own_up (fun tx kx => XS.i2b X0.here hx rfl (hb hby d13_30) rfl kx) ?_
  show OwnOk p e below _ (s₁.setTop (mkF m 31 #[.val (.ref ca), .val (.int (0 : Int32)), .val (.ref t), .val (.int (0 : Int32)), .val (.int (2 : Int32)), .val (.int (0 : Int32)), .val (.int x0)] [(.int (x0.toInt8.toInt32)), (.int (0 : Int32)), (.ref t)]))
  obtain ⟨cl12, Ar12, qc12, Sz12, Nn12, Hs12, Gf12⟩ := id V_t
  have hin12 : ¬ ((0 : Int32) < 0 ∨ cl12.slots.size ≤ ((0 : Int32)).toNatClampNeg) := inb_of Sz12 ⟨by decide, by decide⟩
  obtain ⟨T13, h13, X13, e13, W13, st13⟩ := stB X0 hx hZ e0 Ar12 (j := (0 : Int32)) hin12 (g := (mkF m 31 #[.val (.ref ca), .val (.int (0 : Int32)), .val (.ref t), .val (.int (0 : Int32)), .val (.int (2 : Int32)), .val (.int (0 : Int32)), .val (.int x0)] [(.int (x0.toInt8.toInt32)), (.int (0 : Int32)), (.ref t)])) rfl rfl (hb hby d13_31)
  have V_t_13 : Arv Z h13 t kt .byte (2 : Int32) [(.int (nar .byte (x0.toInt8.toInt32))), (.int (0 : Int32))] (.int (0 : Int32)) := Arv.set Ar12 qc12 Sz12 Nn12 Hs12 Gf12 (fits_nar_byte _) W13 0 rfl (Nat.le_of_ble_eq_true rfl)
  have N13 := Fr.snoc X13 N0 n0_t
  have OL14 := OL.wr W13 n0_t
  have KP14 := KP0.wr W13 (Or.inl (List.mem_of_getElem? (i := 0) rfl))
  refine own_up st13 ?_
  show OwnOk p e below _ (T13.setTop (mkF m 32 #[.val (.ref ca), .val (.int (0 : Int32)), .val (.ref t), .val (.int (0 : Int32)), .val (.int (2 : Int32)), .val (.int (0 : Int32)), .val (.int x0)] []))
  have hi32_15 : ((0 : Int32) + (1 : Int32)) = (1 : Int32) := by decide
  refine own_up (fun tx kx => XS.iinc X13.here hx rfl (hb hby d13_32) rfl (l' := #[.val (.ref ca), .val (.int ((0 : Int32) + (1 : Int32))), .val (.ref t), .val (.int (0 : Int32)), .val (.int (2 : Int32)), .val (.int (0 : Int32)), .val (.int x0)]) rfl kx) ?_
  rw [hi32_15]
  show OwnOk p e below _ (T13.setTop (mkF m 35 #[.val (.ref ca), .val (.int (1 : Int32)), .val (.ref t), .val (.int (0 : Int32)), .val (.int (2 : Int32)), .val (.int (0 : Int32)), .val (.int x0)] []))
  have hi35_16 : ((0 : Int32) + (1 : Int32)) = (1 : Int32) := by decide
  refine own_up (fun tx kx => XS.iinc X13.here hx rfl (hb hby d13_35) rfl (l' := #[.val (.ref ca), .val (.int (1 : Int32)), .val (.ref t), .val (.int ((0 : Int32) + (1 : Int32))), .val (.int (2 : Int32)), .val (.int (0 : Int32)), .val (.int x0)]) rfl kx) ?_
  rw [hi35_16]
  show OwnOk p e below _ (T13.setTop (mkF m 38 #[.val (.ref ca), .val (.int (1 : Int32)), .val (.ref t), .val (.int (1 : Int32)), .val (.int (2 : Int32)), .val (.int (0 : Int32)), .val (.int x0)] []))
  have hi38_17 : ((0 : Int32) + (1 : Int32)) = (1 : Int32) := by decide
  refine own_up (fun tx kx => XS.iinc X13.here hx rfl (hb hby d13_38) rfl (l' := #[.val (.ref ca), .val (.int (1 : Int32)), .val (.ref t), .val (.int (1 : Int32)), .val (.int (2 : Int32)), .val (.int ((0 : Int32) + (1 : Int32))), .val (.int x0)]) rfl kx) ?_
  rw [hi38_17]
  show OwnOk p e below _ (T13.setTop (mkF m 41 #[.val (.ref ca), .val (.int (1 : Int32)), .val (.ref t), .val (.int (1 : Int32)), .val (.int (2 : Int32)), .val (.int (1 : Int32)), .val (.int x0)] []))
  refine own_up (fun tx kx => XS.goto X13.here hx rfl (pc0 := 41) (pc' := 3) rfl (hb hby d13_41) (by decide) (by decide) kx) ?_
  show OwnOk p e below _ (T13.setTop (mkF m 3 #[.val (.ref ca), .val (.int (1 : Int32)), .val (.ref t), .val (.int (1 : Int32)), .val (.int (2 : Int32)), .val (.int (1 : Int32)), .val (.int x0)] []))
  refine own_up (fun tx kx => XS.iload X13.here hx rfl (hb hby d13_3) rfl kx) ?_
  show OwnOk p e below _ (T13.setTop (mkF m 5 #[.val (.ref ca), .val (.int (1 : Int32)), .val (.ref t), .val (.int (1 : Int32)), .val (.int (2 : Int32)), .val (.int (1 : Int32)), .val (.int x0)] [(.int (1 : Int32))]))
  refine own_up (fun tx kx => XS.iload X13.here hx rfl (hb hby d13_5) rfl kx) ?_
  show OwnOk p e below _ (T13.setTop (mkF m 7 #[.val (.ref ca), .val (.int (1 : Int32)), .val (.ref t), .val (.int (1 : Int32)), .val (.int (2 : Int32)), .val (.int (1 : Int32)), .val (.int x0)] [(.int (2 : Int32)), (.int (1 : Int32))]))
  refine own_up (fun tx kx => XS.icmpNo X13.here hx rfl (hb hby d13_7) rfl (tlt (by decide)).2.1 kx) ?_
  show OwnOk p e below _ (T13.setTop (mkF m 10 #[.val (.ref ca), .val (.int (1 : Int32)), .val (.ref t), .val (.int (1 : Int32)), .val (.int (2 : Int32)), .val (.int (1 : Int32)), .val (.int x0)] []))
  refine own_up (fun tx kx => XS.aloadN X13.here hx rfl (hb hby d13_10) rfl rfl kx) ?_
  show OwnOk p e below _ (T13.setTop (mkF m 11 #[.val (.ref ca), .val (.int (1 : Int32)), .val (.ref t), .val (.int (1 : Int32)), .val (.int (2 : Int32)), .val (.int (1 : Int32)), .val (.int x0)] [(.ref ca)]))
  refine own_up (fun tx kx => XS.iloadN X13.here hx rfl (hb hby d13_11) rfl kx) ?_
  show OwnOk p e below _ (T13.setTop (mkF m 12 #[.val (.ref ca), .val (.int (1 : Int32)), .val (.ref t), .val (.int (1 : Int32)), .val (.int (2 : Int32)), .val (.int (1 : Int32)), .val (.int x0)] [(.int (1 : Int32)), (.ref ca)]))
  have V_ca_18 := (V_ca.other W13 ne_ca_t)
  obtain ⟨cl19, Ar19, qc19, Sz19, Nn19, Hs19, Gf19⟩ := id V_ca_18
  have hin19 : ¬ ((1 : Int32) < 0 ∨ cl19.slots.size ≤ ((1 : Int32)).toNatClampNeg) := inb_of Sz19 ⟨by decide, by decide⟩
  have hat19 : cl19.slots[((1 : Int32)).toNatClampNeg]? = some (.int x1) := Hs19.at hin19 rfl
  refine own_up (fun tx kx => X13.caload hx (j := (1 : Int32)) (v := (.int x1)) (own_ar e13 Ar19.1) (State.isArrayOf_alike hZ.alike Ar19.2.1) Ar19.2.2 hin19 hat19 (g := (mkF m 12 #[.val (.ref ca), .val (.int (1 : Int32)), .val (.ref t), .val (.int (1 : Int32)), .val (.int (2 : Int32)), .val (.int (1 : Int32)), .val (.int x0)] [(.int (1 : Int32)), (.ref ca)])) rfl rfl (hb hby d13_12) _ kx) ?_
  show OwnOk p e below _ (T13.setTop (mkF m 13 #[.val (.ref ca), .val (.int (1 : Int32)), .val (.ref t), .val (.int (1 : Int32)), .val (.int (2 : Int32)), .val (.int (1 : Int32)), .val (.int x0)] [(.int x1)]))
  refine own_up (fun tx kx => XS.istore X13.here hx rfl (hb hby d13_13) rfl (l' := #[.val (.ref ca), .val (.int (1 : Int32)), .val (.ref t), .val (.int (1 : Int32)), .val (.int (2 : Int32)), .val (.int (1 : Int32)), .val (.int x1)]) rfl kx) ?_
  show OwnOk p e below _ (T13.setTop (mkF m 15 #[.val (.ref ca), .val (.int (1 : Int32)), .val (.ref t), .val (.int (1 : Int32)), .val (.int (2 : Int32)), .val (.int (1 : Int32)), .val (.int x1)] []))
  refine own_up (fun tx kx => XS.iload X13.here hx rfl (hb hby d13_15) rfl kx) ?_
  show OwnOk p e below _ (T13.setTop (mkF m 17 #[.val (.ref ca), .val (.int (1 : Int32)), .val (.ref t), .val (.int (1 : Int32)), .val (.int (2 : Int32)), .val (.int (1 : Int32)), .val (.int x1)] [(.int x1)]))
  refine own_up (fun tx kx => XS.sipush X13.here hx rfl (hb hby d13_17) kx) ?_
  show OwnOk p e below _ (T13.setTop (mkF m 20 #[.val (.ref ca), .val (.int (1 : Int32)), .val (.ref t), .val (.int (1 : Int32)), .val (.int (2 : Int32)), .val (.int (1 : Int32)), .val (.int x1)] [(.int (255 : Int32)), (.int x1)]))
  refine own_up (fun tx kx => XS.icmpYes X13.here hx rfl (pc0 := 20) (pc' := 26) rfl (hb hby d13_20) rfl (flt c1).2.2.2 (by decide) (by decide) kx) ?_
  show OwnOk p e below _ (T13.setTop (mkF m 26 #[.val (.ref ca), .val (.int (1 : Int32)), .val (.ref t), .val (.int (1 : Int32)), .val (.int (2 : Int32)), .val (.int (1 : Int32)), .val (.int x1)] []))
  refine own_up (fun tx kx => XS.aloadN X13.here hx rfl (hb hby d13_26) rfl rfl kx) ?_
  show OwnOk p e below _ (T13.setTop (mkF m 27 #[.val (.ref ca), .val (.int (1 : Int32)), .val (.ref t), .val (.int (1 : Int32)), .val (.int (2 : Int32)), .val (.int (1 : Int32)), .val (.int x1)] [(.ref t)]))
  refine own_up (fun tx kx => XS.iloadN X13.here hx rfl (hb hby d13_27) rfl kx) ?_
  show OwnOk p e below _ (T13.setTop (mkF m 28 #[.val (.ref ca), .val (.int (1 : Int32)), .val (.ref t), .val (.int (1 : Int32)), .val (.int (2 : Int32)), .val (.int (1 : Int32)), .val (.int x1)] [(.int (1 : Int32)), (.ref t)]))
  refine own_up (fun tx kx => XS.iload X13.here hx rfl (hb hby d13_28) rfl kx) ?_
  show OwnOk p e below _ (T13.setTop (mkF m 30 #[.val (.ref ca), .val (.int (1 : Int32)), .val (.ref t), .val (.int (1 : Int32)), .val (.int (2 : Int32)), .val (.int (1 : Int32)), .val (.int x1)] [(.int x1), (.int (1 : Int32)), (.ref t)]))
  refine own_up (fun tx kx => XS.i2b X13.here hx rfl (hb hby d13_30) rfl kx) ?_
  show OwnOk p e below _ (T13.setTop (mkF m 31 #[.val (.ref ca), .val (.int (1 : Int32)), .val (.ref t), .val (.int (1 : Int32)), .val (.int (2 : Int32)), .val (.int (1 : Int32)), .val (.int x1)] [(.int (x1.toInt8.toInt32)), (.int (1 : Int32)), (.ref t)]))
  obtain ⟨cl20, Ar20, qc20, Sz20, Nn20, Hs20, Gf20⟩ := id V_t_13
  have hin20 : ¬ ((1 : Int32) < 0 ∨ cl20.slots.size ≤ ((1 : Int32)).toNatClampNeg) := inb_of Sz20 ⟨by decide, by decide⟩
  obtain ⟨T21, h21, X21, e21, W21, st21⟩ := stB X13 hx hZ e13 Ar20 (j := (1 : Int32)) hin20 (g := (mkF m 31 #[.val (.ref ca), .val (.int (1 : Int32)), .val (.ref t), .val (.int (1 : Int32)), .val (.int (2 : Int32)), .val (.int (1 : Int32)), .val (.int x1)] [(.int (x1.toInt8.toInt32)), (.int (1 : Int32)), (.ref t)])) rfl rfl (hb hby d13_31)
  have V_t_21 : Arv Z h21 t kt .byte (2 : Int32) [(.int (nar .byte (x0.toInt8.toInt32))), (.int (nar .byte (x1.toInt8.toInt32)))] (.int (0 : Int32)) := Arv.set Ar20 qc20 Sz20 Nn20 Hs20 Gf20 (fits_nar_byte _) W21 1 rfl (Nat.le_of_ble_eq_true rfl)
  have N21 := Fr.snoc X21 N13 n0_t
  have OL22 := OL14.wr W21 n0_t
  have KP22 := KP14.wr W21 (Or.inl (List.mem_of_getElem? (i := 0) rfl))
  refine own_up st21 ?_
  show OwnOk p e below _ (T21.setTop (mkF m 32 #[.val (.ref ca), .val (.int (1 : Int32)), .val (.ref t), .val (.int (1 : Int32)), .val (.int (2 : Int32)), .val (.int (1 : Int32)), .val (.int x1)] []))
  have hi32_23 : ((1 : Int32) + (1 : Int32)) = (2 : Int32) := by decide
  refine own_up (fun tx kx => XS.iinc X21.here hx rfl (hb hby d13_32) rfl (l' := #[.val (.ref ca), .val (.int ((1 : Int32) + (1 : Int32))), .val (.ref t), .val (.int (1 : Int32)), .val (.int (2 : Int32)), .val (.int (1 : Int32)), .val (.int x1)]) rfl kx) ?_
  rw [hi32_23]
  show OwnOk p e below _ (T21.setTop (mkF m 35 #[.val (.ref ca), .val (.int (2 : Int32)), .val (.ref t), .val (.int (1 : Int32)), .val (.int (2 : Int32)), .val (.int (1 : Int32)), .val (.int x1)] []))
  have hi35_24 : ((1 : Int32) + (1 : Int32)) = (2 : Int32) := by decide
  refine own_up (fun tx kx => XS.iinc X21.here hx rfl (hb hby d13_35) rfl (l' := #[.val (.ref ca), .val (.int (2 : Int32)), .val (.ref t), .val (.int ((1 : Int32) + (1 : Int32))), .val (.int (2 : Int32)), .val (.int (1 : Int32)), .val (.int x1)]) rfl kx) ?_
  rw [hi35_24]
  show OwnOk p e below _ (T21.setTop (mkF m 38 #[.val (.ref ca), .val (.int (2 : Int32)), .val (.ref t), .val (.int (2 : Int32)), .val (.int (2 : Int32)), .val (.int (1 : Int32)), .val (.int x1)] []))
  have hi38_25 : ((1 : Int32) + (1 : Int32)) = (2 : Int32) := by decide
  refine own_up (fun tx kx => XS.iinc X21.here hx rfl (hb hby d13_38) rfl (l' := #[.val (.ref ca), .val (.int (2 : Int32)), .val (.ref t), .val (.int (2 : Int32)), .val (.int (2 : Int32)), .val (.int ((1 : Int32) + (1 : Int32))), .val (.int x1)]) rfl kx) ?_
  rw [hi38_25]
  show OwnOk p e below _ (T21.setTop (mkF m 41 #[.val (.ref ca), .val (.int (2 : Int32)), .val (.ref t), .val (.int (2 : Int32)), .val (.int (2 : Int32)), .val (.int (2 : Int32)), .val (.int x1)] []))
  refine own_up (fun tx kx => XS.goto X21.here hx rfl (pc0 := 41) (pc' := 3) rfl (hb hby d13_41) (by decide) (by decide) kx) ?_
  show OwnOk p e below _ (T21.setTop (mkF m 3 #[.val (.ref ca), .val (.int (2 : Int32)), .val (.ref t), .val (.int (2 : Int32)), .val (.int (2 : Int32)), .val (.int (2 : Int32)), .val (.int x1)] []))
  refine own_up (fun tx kx => XS.iload X21.here hx rfl (hb hby d13_3) rfl kx) ?_
  show OwnOk p e below _ (T21.setTop (mkF m 5 #[.val (.ref ca), .val (.int (2 : Int32)), .val (.ref t), .val (.int (2 : Int32)), .val (.int (2 : Int32)), .val (.int (2 : Int32)), .val (.int x1)] [(.int (2 : Int32))]))
  refine own_up (fun tx kx => XS.iload X21.here hx rfl (hb hby d13_5) rfl kx) ?_
  show OwnOk p e below _ (T21.setTop (mkF m 7 #[.val (.ref ca), .val (.int (2 : Int32)), .val (.ref t), .val (.int (2 : Int32)), .val (.int (2 : Int32)), .val (.int (2 : Int32)), .val (.int x1)] [(.int (2 : Int32)), (.int (2 : Int32))]))
  refine own_up (fun tx kx => XS.icmpYes X21.here hx rfl (pc0 := 7) (pc' := 44) rfl (hb hby d13_7) rfl (flt (by decide)).2.1 (by decide) (by decide) kx) ?_
  show OwnOk p e below _ (T21.setTop (mkF m 44 #[.val (.ref ca), .val (.int (2 : Int32)), .val (.ref t), .val (.int (2 : Int32)), .val (.int (2 : Int32)), .val (.int (2 : Int32)), .val (.int x1)] []))
  refine own_up (fun tx kx => XS.iload X21.here hx rfl (hb hby d13_44) rfl kx) ?_
  show OwnOk p e below _ (T21.setTop (mkF m 46 #[.val (.ref ca), .val (.int (2 : Int32)), .val (.ref t), .val (.int (2 : Int32)), .val (.int (2 : Int32)), .val (.int (2 : Int32)), .val (.int x1)] [(.int (2 : Int32))]))
  refine own_retI X21 hx (show meth.sig.returnType = some .int from hret) hlk (hb hby d13_46) e21 (Nat.le_of_ble_eq_true rfl) (Nat.le_of_ble_eq_true rfl) ?_
  exact ⟨rfl, N21, KP22, V_t_21⟩
def Q_c_cmp4_2 (Z : State) (x0 x1 : Int32) (h0 : Heap) (n0 : Nat) (v : Option Value) (h : Heap) (L : List Loc) : Prop := ∃ (t : Addr) (kt : ClassId), v = some (.ref t) ∧ Fr n0 L ∧ Keep h0 h [] ∧ h0.size ≤ t ∧ Arv Z h t kt .byte (2 : Int32) [(.int (nar .byte (x0.toInt8.toInt32))), (.int (nar .byte (x1.toInt8.toInt32)))] (.int (0 : Int32))
set_option maxRecDepth 65536 in
set_option maxHeartbeats 40000000 in
theorem c_cmp4_2 (l : Launch) (Z : State) (a0 : Array Value) (hw : ∀ d ∈ tables_1, d.before a0 Z = true) (ca : Addr) (kc : ClassId) (x0 x1 : Int32) (h0 : Heap) (n0 : Nat) (OL : Old Z n0 h0) (V_ca : Arv Z h0 ca kc .char (2 : Int32) [(.int x0), (.int x1)] (.int (0 : Int32))) (c0 : ¬ (255 : Int32) < x0) (c1 : ¬ (255 : Int32) < x1) :
    own_Met l Z (⟨"java/lang/StringUTF16", "compress", "([CII)[B"⟩ : MethodName) jdk_52_method_16_code 6 (some (.array .byte)) ({ frames := 1, cells := 1, slots := 2, locals := 20 } : Room) #[(.ref ca), (.int (0 : Int32)), (.int (2 : Int32))] h0 (Q_c_cmp4_2 Z x0 x1 h0 n0) := by
  refine own_body (L0 := #[.val (.ref ca), .val (.int (0 : Int32)), .val (.int (2 : Int32)), .unset, .unset, .unset]) (plainFor_of_name (by first | (simp [plainName, overriddenIn]; done) | decide +kernel)) (fun m => by first | (simp [entryFrame, mkF, argsToLocals, Value.category]; done) | rfl) ?_
  intro p e s m below meth c s₁ hx hby hml hZ hown hnm hret hlk X0 e0
  have N0 := Fr.nil n0
  have Z0 : n0 ≤ h0.size := OL.1 ▸ OL.2.1
  show OwnOk p e below _ (s₁.setTop (mkF m 0 #[.val (.ref ca), .val (.int (0 : Int32)), .val (.int (2 : Int32)), .unset, .unset, .unset] []))
  have KP0 : Keep h0 h0 [] := Keep.refl h0 _
  refine own_up (fun tx kx => XS.iloadN X0.here hx rfl (hb hby d12_0) rfl kx) ?_
  show OwnOk p e below _ (s₁.setTop (mkF m 1 #[.val (.ref ca), .val (.int (0 : Int32)), .val (.int (2 : Int32)), .unset, .unset, .unset] [(.int (2 : Int32))]))
  obtain ⟨T11, h11, k11, X11, e11, E11, A11, st11⟩ := newP (aty := .byte) X0 hx hZ (wd_20 hw) e0 (g := (mkF m 1 #[.val (.ref ca), .val (.int (0 : Int32)), .val (.int (2 : Int32)), .unset, .unset, .unset] [(.int (2 : Int32))])) rfl (hb hby d12_1) rfl (by decide) (cap := 2) (by decide) (by decide) (by decide) (by decide)
  obtain ⟨b11, g11⟩ : ∃ z, z = h0.size := ⟨_, rfl⟩
  rw [← g11] at A11 st11
  have sz_b11 : h0.size ≤ b11 := Nat.le_of_eq g11.symm
  have lt_ca_b11 : ca < b11 := Nat.lt_of_lt_of_le V_ca.lt sz_b11
  have n0_b11 : n0 ≤ b11 := Nat.le_trans (own_n0 OL) sz_b11
  have ws_b11 : h0.size ≤ b11 := Nat.le_trans KP0.1 sz_b11
  have V_b11 : Arv Z h11 b11 k11 .byte (2 : Int32) [(.int (0 : Int32)), (.int (0 : Int32))] (.int (0 : Int32)) := (Arv.new A11 (by decide)).pad (pad_rep [] (.int (0 : Int32)) 2)
  have OL13 := OL.ext E11
  have KP13 := KP0.ext E11
  refine own_up st11 ?_
  show OwnOk p e below _ (T11.setTop (mkF m 3 #[.val (.ref ca), .val (.int (0 : Int32)), .val (.int (2 : Int32)), .unset, .unset, .unset] [(.ref b11)]))
  refine own_up (fun tx kx => XS.astoreN X11.here hx rfl (hb hby d12_3) rfl rfl (l' := #[.val (.ref ca), .val (.int (0 : Int32)), .val (.int (2 : Int32)), .val (.ref b11), .unset, .unset]) rfl kx) ?_
  show OwnOk p e below _ (T11.setTop (mkF m 4 #[.val (.ref ca), .val (.int (0 : Int32)), .val (.int (2 : Int32)), .val (.ref b11), .unset, .unset] []))
  refine own_up (fun tx kx => XS.aloadN X11.here hx rfl (hb hby d12_4) rfl rfl kx) ?_
  show OwnOk p e below _ (T11.setTop (mkF m 5 #[.val (.ref ca), .val (.int (0 : Int32)), .val (.int (2 : Int32)), .val (.ref b11), .unset, .unset] [(.ref ca)]))
  refine own_up (fun tx kx => XS.iloadN X11.here hx rfl (hb hby d12_5) rfl kx) ?_
  show OwnOk p e below _ (T11.setTop (mkF m 6 #[.val (.ref ca), .val (.int (0 : Int32)), .val (.int (2 : Int32)), .val (.ref b11), .unset, .unset] [(.int (0 : Int32)), (.ref ca)]))
  refine own_up (fun tx kx => XS.aloadN X11.here hx rfl (hb hby d12_6) rfl rfl kx) ?_
  show OwnOk p e below _ (T11.setTop (mkF m 7 #[.val (.ref ca), .val (.int (0 : Int32)), .val (.int (2 : Int32)), .val (.ref b11), .unset, .unset] [(.ref b11), (.int (0 : Int32)), (.ref ca)]))
  refine own_up (fun tx kx => XS.iconst X11.here hx rfl (hb hby d12_7) kx) ?_
  show OwnOk p e below _ (T11.setTop (mkF m 8 #[.val (.ref ca), .val (.int (0 : Int32)), .val (.int (2 : Int32)), .val (.ref b11), .unset, .unset] [(.int (0 : Int32)), (.ref b11), (.int (0 : Int32)), (.ref ca)]))
  refine own_up (fun tx kx => XS.iloadN X11.here hx rfl (hb hby d12_8) rfl kx) ?_
  show OwnOk p e below _ (T11.setTop (mkF m 9 #[.val (.ref ca), .val (.int (0 : Int32)), .val (.int (2 : Int32)), .val (.ref b11), .unset, .unset] [(.int (2 : Int32)), (.int (0 : Int32)), (.ref b11), (.int (0 : Int32)), (.ref ca)]))
  have V_ca_14 := (V_ca.ext E11)
  refine own_callS X11 hx hZ (y := (⟨"java/lang/StringUTF16", "compress", "([CI[BII)I"⟩ : MethodName)) hown (wd_64 hw) (wd_65 hw) (wd_62 hw) (wd_66 hw) (by decide) (c_cmp5_2 l Z a0 hw ca b11 kc k11 x0 x1 h11 n0 OL13 V_ca_14 V_b11 n0_b11 (Nat.ne_of_lt lt_ca_b11) c0 c1) e11 (argsL := [(.ref ca), (.int (0 : Int32)), (.ref b11), (.int (0 : Int32)), (.int (2 : Int32))]) (rest := []) (by rw [hml]; rfl) (lenOf pd_7 rfl) rfl rfl (W := 0) rfl (hb hby d12_9) (by decide) (by decide) (by decide) (by decide) (fun T15 v15 L15 X15 hQ15 => ?_)
  obtain ⟨rfl, Nq15, Kq15, Vq15⟩ := hQ15
  have N15 := Fr.app N0 Nq15
  have OL15 := OL13.keep Kq15 (allS n0_b11 all0)
  have KP15 := KP13.trans Kq15 (allS (Or.inr ws_b11) all0)
  show OwnOk p e below _ (T15.setTop (mkF m 12 #[.val (.ref ca), .val (.int (0 : Int32)), .val (.int (2 : Int32)), .val (.ref b11), .unset, .unset] [(.int (2 : Int32))]))
  refine own_up (fun tx kx => XS.istore X15.here hx rfl (hb hby d12_12) rfl (l' := #[.val (.ref ca), .val (.int (0 : Int32)), .val (.int (2 : Int32)), .val (.ref b11), .val (.int (2 : Int32)), .unset]) rfl kx) ?_
  show OwnOk p e below _ (T15.setTop (mkF m 14 #[.val (.ref ca), .val (.int (0 : Int32)), .val (.int (2 : Int32)), .val (.ref b11), .val (.int (2 : Int32)), .unset] []))
  refine own_up (fun tx kx => XS.iload X15.here hx rfl (hb hby d12_14) rfl kx) ?_
  show OwnOk p e below _ (T15.setTop (mkF m 16 #[.val (.ref ca), .val (.int (0 : Int32)), .val (.int (2 : Int32)), .val (.ref b11), .val (.int (2 : Int32)), .unset] [(.int (2 : Int32))]))
  refine own_up (fun tx kx => XS.iloadN X15.here hx rfl (hb hby d12_16) rfl kx) ?_
  show OwnOk p e below _ (T15.setTop (mkF m 17 #[.val (.ref ca), .val (.int (0 : Int32)), .val (.int (2 : Int32)), .val (.ref b11), .val (.int (2 : Int32)), .unset] [(.int (2 : Int32)), (.int (2 : Int32))]))
  refine own_up (fun tx kx => XS.icmpYes X15.here hx rfl (pc0 := 17) (pc' := 57) rfl (hb hby d12_17) rfl (teq rfl).1 (by decide) (by decide) kx) ?_
  show OwnOk p e below _ (T15.setTop (mkF m 57 #[.val (.ref ca), .val (.int (0 : Int32)), .val (.int (2 : Int32)), .val (.ref b11), .val (.int (2 : Int32)), .unset] []))
  refine own_up (fun tx kx => XS.aloadN X15.here hx rfl (hb hby d12_57) rfl rfl kx) ?_
  show OwnOk p e below _ (T15.setTop (mkF m 58 #[.val (.ref ca), .val (.int (0 : Int32)), .val (.int (2 : Int32)), .val (.ref b11), .val (.int (2 : Int32)), .unset] [(.ref b11)]))
  refine own_retR X15 hx (t := (.array .byte)) (show meth.sig.returnType = some (.array .byte) from hret) rfl hlk rfl (hb hby d12_58) rfl (Nat.le_of_ble_eq_true rfl) (Nat.le_of_ble_eq_true rfl) ?_
  exact ⟨b11, _, rfl, N15, KP15, ws_b11, Vq15⟩
def Q_c_coder_2 (h0 : Heap) (n0 : Nat) (v : Option Value) (h : Heap) (L : List Loc) : Prop := v = some (.int 0) ∧ Fr n0 L ∧ h = h0
set_option maxRecDepth 65536 in
set_option maxHeartbeats 40000000 in
theorem c_coder_2 (l : Launch) (Z : State) (a0 : Array Value) (hw : ∀ d ∈ tables_1, d.before a0 Z = true) (t : Addr) (kt : ClassId) (x0 x1 : Int32) (h0 : Heap) (n0 : Nat) (OL : Old Z n0 h0) (V_t : Arv Z h0 t kt .byte (2 : Int32) [(.int (nar .byte (x0.toInt8.toInt32))), (.int (nar .byte (x1.toInt8.toInt32)))] (.int (0 : Int32))) :
    own_Met l Z (⟨"java/lang/StringUTF16", "coderFromArrayLen", "([BI)B"⟩ : MethodName) jdk_52_method_15_code 2 (some .byte) ({ frames := 0, cells := 0, slots := 0, locals := 0 } : Room) #[(.ref t), (.int (2 : Int32))] h0 (Q_c_coder_2 h0 n0) := by
  refine own_body (L0 := #[.val (.ref t), .val (.int (2 : Int32))]) (plainFor_of_name (by first | (simp [plainName, overriddenIn]; done) | decide +kernel)) (fun m => by first | (simp [entryFrame, mkF, argsToLocals, Value.category]; done) | rfl) ?_
  intro p e s m below meth c s₁ hx hby hml hZ hown hnm hret hlk X0 e0
  have N0 := Fr.nil n0
  have Z0 : n0 ≤ h0.size := OL.1 ▸ OL.2.1
  show OwnOk p e below _ (s₁.setTop (mkF m 0 #[.val (.ref t), .val (.int (2 : Int32))] []))
  refine own_up (fun tx kx => XS.iloadN X0.here hx rfl (hb hby d14_0) rfl kx) ?_
  show OwnOk p e below _ (s₁.setTop (mkF m 1 #[.val (.ref t), .val (.int (2 : Int32))] [(.int (2 : Int32))]))
  refine own_up (fun tx kx => XS.aloadN X0.here hx rfl (hb hby d14_1) rfl rfl kx) ?_
  show OwnOk p e below _ (s₁.setTop (mkF m 2 #[.val (.ref t), .val (.int (2 : Int32))] [(.ref t), (.int (2 : Int32))]))
  obtain ⟨cl11, Ar11, qc11, Sz11, Nn11, Hs11, Gf11⟩ := id V_t
  have hlen11 : cl11.slots.size.toInt32 = (2 : Int32) := len_of Sz11 Nn11
  refine own_up (fun tx kx => X0.arraylength hx (own_ar e0 Ar11.1) (State.isArrayOf_alike hZ.alike Ar11.2.1) (g := (mkF m 2 #[.val (.ref t), .val (.int (2 : Int32))] [(.ref t), (.int (2 : Int32))])) rfl rfl (hb hby d14_2) _ kx) ?_
  rw [hlen11]
  show OwnOk p e below _ (s₁.setTop (mkF m 3 #[.val (.ref t), .val (.int (2 : Int32))] [(.int (2 : Int32)), (.int (2 : Int32))]))
  have hc3_12 : ((2 : Int32) - (2 : Int32)) = (0 : Int32) := by decide
  refine own_up (fun tx kx => XS.isub X0.here hx rfl (hb hby d14_3) rfl kx) ?_
  show OwnOk p e below _ (s₁.setTop (mkF m 4 #[.val (.ref t), .val (.int (2 : Int32))] [(.int ((2 : Int32) - (2 : Int32)))]))
  rw [hc3_12]
  show OwnOk p e below _ (s₁.setTop (mkF m 4 #[.val (.ref t), .val (.int (2 : Int32))] [(.int (0 : Int32))]))
  refine own_up (fun tx kx => XS.bipush X0.here hx rfl (hb hby d14_4) kx) ?_
  show OwnOk p e below _ (s₁.setTop (mkF m 6 #[.val (.ref t), .val (.int (2 : Int32))] [(.int (31 : Int32)), (.int (0 : Int32))]))
  refine own_up (fun tx kx => XS.iushr X0.here hx rfl (hb hby d14_6) rfl kx) ?_
  show OwnOk p e below _ (s₁.setTop (mkF m 7 #[.val (.ref t), .val (.int (2 : Int32))] [(.int (((0 : Int32).toUInt32 >>> ((31 : Int32) &&& 31).toUInt32).toInt32))]))
  refine own_up (fun tx kx => XS.i2b X0.here hx rfl (hb hby d14_7) rfl kx) ?_
  show OwnOk p e below _ (s₁.setTop (mkF m 8 #[.val (.ref t), .val (.int (2 : Int32))] [(.int ((((0 : Int32).toUInt32 >>> ((31 : Int32) &&& 31).toUInt32).toInt32).toInt8.toInt32))]))
  refine own_retN X0 hx (t := .byte) (show meth.sig.returnType = some .byte from hret) (by simp) hlk (hb hby d14_8) (z' := 0) (by decide) e0 (Nat.le_of_ble_eq_true rfl) (Nat.le_of_ble_eq_true rfl) ?_
  exact ⟨rfl, N0, rfl⟩
def Q_c_init2_2 (Z : State) (a : Addr) (x0 x1 : Int32) (h0 : Heap) (n0 : Nat) (v : Option Value) (h : Heap) (L : List Loc) : Prop := v = none ∧ Fr n0 L ∧ Keep h0 h [a] ∧ ∃ (u : Addr) (ku : ClassId), h0.size ≤ u ∧ (Exa Z h a "java/lang/String") ∧ (Fld Z h a "java/lang/String" "value" "[B" (.ref u)) ∧ (Fld Z h a "java/lang/String" "coder" "B" (.int (0 : Int32))) ∧ (Arv Z h u ku .byte (Int32.ofNat 2) (own_F 2 (fun j => [(nar .byte (x0.toInt8.toInt32)), (nar .byte (x1.toInt8.toInt32))].getD j 0)) (.int (0 : Int32)))
set_option maxRecDepth 65536 in
set_option maxHeartbeats 40000000 in
theorem c_init2_2 (l : Launch) (Z : State) (a0 : Array Value) (hw : ∀ d ∈ tables_1, d.before a0 Z = true) (a ca : Addr) (kc : ClassId) (x0 x1 : Int32) (cz : Int32) (h0 : Heap) (n0 : Nat) (OL : Old Z n0 h0) (SC : Sta Z Z.heap "java/lang/String" "COMPACT_STRINGS" "Z" (.int cz)) (hcz : ¬ cz = 0) (E_a : Exa Z h0 a "java/lang/String") (F_value_a : Fld Z h0 a "java/lang/String" "value" "[B" .null) (F_coder_a : Fld Z h0 a "java/lang/String" "coder" "B" (.int (0 : Int32))) (n0_a : n0 ≤ a) (V_ca : Arv Z h0 ca kc .char (2 : Int32) [(.int x0), (.int x1)] (.int (0 : Int32))) (ne_a_ca : a ≠ ca) (c0 : ¬ (255 : Int32) < x0) (c1 : ¬ (255 : Int32) < x1) :
    own_Met l Z (⟨"java/lang/String", "<init>", "([CIILjava/lang/Void;)V"⟩ : MethodName) jdk_42_method_149_code 6 none ({ frames := 2, cells := 1, slots := 2, locals := 45 } : Room) #[(.ref a), (.ref ca), (.int (0 : Int32)), (.int (2 : Int32)), .null] h0 (Q_c_init2_2 Z a x0 x1 h0 n0) := by
  refine own_body (L0 := #[.val (.ref a), .val (.ref ca), .val (.int (0 : Int32)), .val (.int (2 : Int32)), .val .null, .unset]) (plainFor_of_name (by first | (simp [plainName, overriddenIn]; done) | decide +kernel)) (fun m => by first | (simp [entryFrame, mkF, argsToLocals, Value.category]; done) | rfl) ?_
  intro p e s m below meth c s₁ hx hby hml hZ hown hnm hret hlk X0 e0
  have N0 := Fr.nil n0
  have Z0 : n0 ≤ h0.size := OL.1 ▸ OL.2.1
  show OwnOk p e below _ (s₁.setTop (mkF m 0 #[.val (.ref a), .val (.ref ca), .val (.int (0 : Int32)), .val (.int (2 : Int32)), .val .null, .unset] []))
  have KP0 : Keep h0 h0 [a] := Keep.refl h0 _
  refine own_up (fun tx kx => XS.aloadN X0.here hx rfl (hb hby d3_0) rfl rfl kx) ?_
  show OwnOk p e below _ (s₁.setTop (mkF m 1 #[.val (.ref a), .val (.ref ca), .val (.int (0 : Int32)), .val (.int (2 : Int32)), .val .null, .unset] [(.ref a)]))
  obtain ⟨T11, X11, e11, st11⟩ := initO X0 hx hZ hown (wd_16 hw) (wd_17 hw) (wd_18 hw) e0 (g := (mkF m 1 #[.val (.ref a), .val (.ref ca), .val (.int (0 : Int32)), .val (.int (2 : Int32)), .val .null, .unset] [(.ref a)])) rfl (by rw [hml]; rfl) rfl (hb hby d3_1) (by decide) (W := 0) (by show 2 * 0 + _ ≤ _; exact Nat.le_of_eq rfl) (by decide)
  refine own_up st11 ?_
  show OwnOk p e below _ (T11.setTop (mkF m 4 #[.val (.ref a), .val (.ref ca), .val (.int (0 : Int32)), .val (.int (2 : Int32)), .val .null, .unset] []))
  refine own_up (fun tx kx => XS.iloadN X11.here hx rfl (hb hby d3_4) rfl kx) ?_
  show OwnOk p e below _ (T11.setTop (mkF m 5 #[.val (.ref a), .val (.ref ca), .val (.int (0 : Int32)), .val (.int (2 : Int32)), .val .null, .unset] [(.int (2 : Int32))]))
  refine own_up (fun tx kx => XS.ifYes X11.here hx rfl (pc0 := 5) (pc' := 27) rfl (hb hby d3_5) rfl ((if0 _ _).trans (feq (by decide)).2) (by decide) (by decide) kx) ?_
  show OwnOk p e below _ (T11.setTop (mkF m 27 #[.val (.ref a), .val (.ref ca), .val (.int (0 : Int32)), .val (.int (2 : Int32)), .val .null, .unset] []))
  obtain ⟨T12, X12, e12, st12⟩ := getS2 X11 hx hZ hown (host := "") (Or.inl (wd_41 hw)) Via.refl e11 (SC.ext OL.2) (g := (mkF m 27 #[.val (.ref a), .val (.ref ca), .val (.int (0 : Int32)), .val (.int (2 : Int32)), .val .null, .unset] [])) rfl (hb hby d3_27)
  refine own_up st12 ?_
  show OwnOk p e below _ (T12.setTop (mkF m 30 #[.val (.ref a), .val (.ref ca), .val (.int (0 : Int32)), .val (.int (2 : Int32)), .val .null, .unset] [(.int cz)]))
  refine own_up (fun tx kx => XS.ifNo X12.here hx rfl (hb hby d3_30) rfl ((if0 _ _).trans (feq hcz).1) kx) ?_
  show OwnOk p e below _ (T12.setTop (mkF m 33 #[.val (.ref a), .val (.ref ca), .val (.int (0 : Int32)), .val (.int (2 : Int32)), .val .null, .unset] []))
  refine own_up (fun tx kx => XS.aloadN X12.here hx rfl (hb hby d3_33) rfl rfl kx) ?_
  show OwnOk p e below _ (T12.setTop (mkF m 34 #[.val (.ref a), .val (.ref ca), .val (.int (0 : Int32)), .val (.int (2 : Int32)), .val .null, .unset] [(.ref ca)]))
  refine own_up (fun tx kx => XS.iloadN X12.here hx rfl (hb hby d3_34) rfl kx) ?_
  show OwnOk p e below _ (T12.setTop (mkF m 35 #[.val (.ref a), .val (.ref ca), .val (.int (0 : Int32)), .val (.int (2 : Int32)), .val .null, .unset] [(.int (0 : Int32)), (.ref ca)]))
  refine own_up (fun tx kx => XS.iloadN X12.here hx rfl (hb hby d3_35) rfl kx) ?_
  show OwnOk p e below _ (T12.setTop (mkF m 36 #[.val (.ref a), .val (.ref ca), .val (.int (0 : Int32)), .val (.int (2 : Int32)), .val .null, .unset] [(.int (2 : Int32)), (.int (0 : Int32)), (.ref ca)]))
  refine own_callS X12 hx hZ (y := (⟨"java/lang/StringUTF16", "compress", "([CII)[B"⟩ : MethodName)) hown (wd_60 hw) (wd_61 hw) (wd_62 hw) (wd_63 hw) (by decide) (c_cmp4_2 l Z a0 hw ca kc x0 x1 h0 n0 OL V_ca c0 c1) e12 (argsL := [(.ref ca), (.int (0 : Int32)), (.int (2 : Int32))]) (rest := []) (by rw [hml]; rfl) (lenOf pd_8 rfl) rfl rfl (W := 0) rfl (hb hby d3_36) (by decide) (by decide) (by decide) (by decide) (fun T13 v13 L13 X13 hQ13 => ?_)
  obtain ⟨tt13, kt13, rfl, Nq13, Kq13, gt13, vt13⟩ := hQ13
  have N13 := Fr.app N0 Nq13
  have lt_a_tt13 : a < tt13 := Nat.lt_of_lt_of_le E_a.lt gt13
  have lt_ca_tt13 : ca < tt13 := Nat.lt_of_lt_of_le V_ca.lt gt13
  have n0_tt13 : n0 ≤ tt13 := Nat.le_trans (own_n0 OL) gt13
  have ws_tt13 : h0.size ≤ tt13 := Nat.le_trans KP0.1 gt13
  have OL13 := OL.keep Kq13 all0
  have KP13 := KP0.trans Kq13 all0
  show OwnOk p e below _ (T13.setTop (mkF m 39 #[.val (.ref a), .val (.ref ca), .val (.int (0 : Int32)), .val (.int (2 : Int32)), .val .null, .unset] [(.ref tt13)]))
  refine own_up (fun tx kx => XS.astore X13.here hx rfl (hb hby d3_39) rfl rfl (l' := #[.val (.ref a), .val (.ref ca), .val (.int (0 : Int32)), .val (.int (2 : Int32)), .val .null, .val (.ref tt13)]) rfl kx) ?_
  show OwnOk p e below _ (T13.setTop (mkF m 41 #[.val (.ref a), .val (.ref ca), .val (.int (0 : Int32)), .val (.int (2 : Int32)), .val .null, .val (.ref tt13)] []))
  refine own_up (fun tx kx => XS.aloadN X13.here hx rfl (hb hby d3_41) rfl rfl kx) ?_
  show OwnOk p e below _ (T13.setTop (mkF m 42 #[.val (.ref a), .val (.ref ca), .val (.int (0 : Int32)), .val (.int (2 : Int32)), .val .null, .val (.ref tt13)] [(.ref a)]))
  refine own_up (fun tx kx => XS.aload X13.here hx rfl (hb hby d3_42) rfl rfl kx) ?_
  show OwnOk p e below _ (T13.setTop (mkF m 44 #[.val (.ref a), .val (.ref ca), .val (.int (0 : Int32)), .val (.int (2 : Int32)), .val .null, .val (.ref tt13)] [(.ref tt13), (.ref a)]))
  refine own_up (fun tx kx => XS.iloadN X13.here hx rfl (hb hby d3_44) rfl kx) ?_
  show OwnOk p e below _ (T13.setTop (mkF m 45 #[.val (.ref a), .val (.ref ca), .val (.int (0 : Int32)), .val (.int (2 : Int32)), .val .null, .val (.ref tt13)] [(.int (2 : Int32)), (.ref tt13), (.ref a)]))
  refine own_callS X13 hx hZ (y := (⟨"java/lang/StringUTF16", "coderFromArrayLen", "([BI)B"⟩ : MethodName)) hown (wd_67 hw) (wd_68 hw) (wd_62 hw) (wd_69 hw) (by decide) (c_coder_2 l Z a0 hw tt13 kt13 x0 x1 T13.heap n0 OL13 vt13) rfl (argsL := [(.ref tt13), (.int (2 : Int32))]) (rest := [(.ref a)]) (by rw [hml]; rfl) (lenOf pd_9 rfl) rfl rfl (W := 1) rfl (hb hby d3_45) (by decide) (by decide) (by decide) (by decide) (fun T14 v14 L14 X14 hQ14 => ?_)
  obtain ⟨rfl, Nq14, hh14⟩ := hQ14
  have N14 := Fr.app N13 Nq14
  show OwnOk p e below _ (T14.setTop (mkF m 48 #[.val (.ref a), .val (.ref ca), .val (.int (0 : Int32)), .val (.int (2 : Int32)), .val .null, .val (.ref tt13)] [(.int (0 : Int32)), (.ref a)]))
  have F_coder_a_15 := (F_coder_a.keep Kq13 nin0)
  have E_a_16 := (E_a.keep Kq13)
  obtain ⟨T17, h17, X17, e17, W17, st17⟩ := putFN X14 hx hZ hown (wd_26 hw) Via.refl hh14 F_coder_a_15 E_a_16 (Or.inr ⟨(wd_22 hw), rfl, hnm⟩) (wd_7 hw) (ty := .byte) (v := (.int (0 : Int32))) (v' := (.int (0 : Int32))) (by decide) (by decide) (by decide) (g := (mkF m 48 #[.val (.ref a), .val (.ref ca), .val (.int (0 : Int32)), .val (.int (2 : Int32)), .val .null, .val (.ref tt13)] [(.int (0 : Int32)), (.ref a)])) rfl rfl (hb hby d3_48)
  have Fw17 := Fld.same W17 F_coder_a_15
  have N17 := Fr.snoc X17 N14 n0_a
  have OL18 := OL13.wr W17 n0_a
  have KP18 := KP13.wr W17 (Or.inl (List.mem_of_getElem? (i := 0) rfl))
  refine own_up st17 ?_
  show OwnOk p e below _ (T17.setTop (mkF m 51 #[.val (.ref a), .val (.ref ca), .val (.int (0 : Int32)), .val (.int (2 : Int32)), .val .null, .val (.ref tt13)] []))
  refine own_up (fun tx kx => XS.aloadN X17.here hx rfl (hb hby d3_51) rfl rfl kx) ?_
  show OwnOk p e below _ (T17.setTop (mkF m 52 #[.val (.ref a), .val (.ref ca), .val (.int (0 : Int32)), .val (.int (2 : Int32)), .val .null, .val (.ref tt13)] [(.ref a)]))
  refine own_up (fun tx kx => XS.aload X17.here hx rfl (hb hby d3_52) rfl rfl kx) ?_
  show OwnOk p e below _ (T17.setTop (mkF m 54 #[.val (.ref a), .val (.ref ca), .val (.int (0 : Int32)), .val (.int (2 : Int32)), .val .null, .val (.ref tt13)] [(.ref tt13), (.ref a)]))
  have F_value_a_19 := ((F_value_a.keep Kq13 nin0).other W17 (Or.inr (slot_ne (Or.inr (wd_21 hw)) (Or.inr (wd_22 hw)) (by decide) (t := (.array .byte)) (t' := .byte) (by decide) (by decide))))
  have E_a_20 := (E_a_16.wr W17)
  obtain ⟨T21, h21, X21, e21, W21, st21⟩ := putF X17 hx hZ hown (host := "") (Or.inl (wd_25 hw)) Via.refl e17 F_value_a_19 E_a_20 (Or.inr ⟨(wd_21 hw), rfl, hnm⟩) (wd_7 hw) (ty := (.array .byte)) (by decide) rfl rfl (g := (mkF m 54 #[.val (.ref a), .val (.ref ca), .val (.int (0 : Int32)), .val (.int (2 : Int32)), .val .null, .val (.ref tt13)] [(.ref tt13), (.ref a)])) rfl rfl (hb hby d3_54)
  have Fw21 := Fld.same W21 F_value_a_19
  have N21 := Fr.snoc X21 N17 n0_a
  have OL22 := OL18.wr W21 n0_a
  have KP22 := KP18.wr W21 (Or.inl (List.mem_of_getElem? (i := 0) rfl))
  refine own_up st21 ?_
  show OwnOk p e below _ (T21.setTop (mkF m 57 #[.val (.ref a), .val (.ref ca), .val (.int (0 : Int32)), .val (.int (2 : Int32)), .val .null, .val (.ref tt13)] []))
  have E_a_23 := (E_a_20.wr W21)
  have F_coder_a_24 := (Fw17.other W21 (Or.inr (slot_ne (Or.inr (wd_22 hw)) (Or.inr (wd_21 hw)) (by decide) (t := .byte) (t' := (.array .byte)) (by decide) (by decide))))
  have V_tt13_25 := ((vt13.other W17 (Nat.ne_of_gt lt_a_tt13)).other W21 (Nat.ne_of_gt lt_a_tt13))
  refine own_retV X21 hx (show meth.sig.returnType = none from hret) hlk (hb hby d3_57) e21 (Nat.le_of_ble_eq_true rfl) (Nat.le_of_ble_eq_true rfl) ?_
  exact ⟨rfl, N21, KP22, tt13, _, ws_tt13, E_a_23, Fw21, F_coder_a_24, V_tt13_25⟩
def Q_c_init1_2 (Z : State) (a : Addr) (x0 x1 : Int32) (h0 : Heap) (n0 : Nat) (v : Option Value) (h : Heap) (L : List Loc) : Prop := v = none ∧ Fr n0 L ∧ Keep h0 h [a] ∧ ∃ (u : Addr) (ku : ClassId), h0.size ≤ u ∧ (Exa Z h a "java/lang/String") ∧ (Fld Z h a "java/lang/String" "value" "[B" (.ref u)) ∧ (Fld Z h a "java/lang/String" "coder" "B" (.int (0 : Int32))) ∧ (Arv Z h u ku .byte (Int32.ofNat 2) (own_F 2 (fun j => [(nar .byte (x0.toInt8.toInt32)), (nar .byte (x1.toInt8.toInt32))].getD j 0)) (.int (0 : Int32)))
set_option maxRecDepth 65536 in
set_option maxHeartbeats 40000000 in
theorem c_init1_2 (l : Launch) (Z : State) (a0 : Array Value) (hw : ∀ d ∈ tables_1, d.before a0 Z = true) (a ca : Addr) (kc : ClassId) (x0 x1 : Int32) (cz : Int32) (h0 : Heap) (n0 : Nat) (OL : Old Z n0 h0) (SC : Sta Z Z.heap "java/lang/String" "COMPACT_STRINGS" "Z" (.int cz)) (hcz : ¬ cz = 0) (E_a : Exa Z h0 a "java/lang/String") (F_value_a : Fld Z h0 a "java/lang/String" "value" "[B" .null) (F_coder_a : Fld Z h0 a "java/lang/String" "coder" "B" (.int (0 : Int32))) (n0_a : n0 ≤ a) (V_ca : Arv Z h0 ca kc .char (2 : Int32) [(.int x0), (.int x1)] (.int (0 : Int32))) (ne_a_ca : a ≠ ca) (c0 : ¬ (255 : Int32) < x0) (c1 : ¬ (255 : Int32) < x1) :
    own_Met l Z (⟨"java/lang/String", "<init>", "([C)V"⟩ : MethodName) jdk_42_method_3_code 2 none ({ frames := 3, cells := 1, slots := 2, locals := 65 } : Room) #[(.ref a), (.ref ca)] h0 (Q_c_init1_2 Z a x0 x1 h0 n0) := by
  refine own_body (L0 := #[.val (.ref a), .val (.ref ca)]) (plainFor_of_name (by first | (simp [plainName, overriddenIn]; done) | decide +kernel)) (fun m => by first | (simp [entryFrame, mkF, argsToLocals, Value.category]; done) | rfl) ?_
  intro p e s m below meth c s₁ hx hby hml hZ hown hnm hret hlk X0 e0
  have N0 := Fr.nil n0
  have Z0 : n0 ≤ h0.size := OL.1 ▸ OL.2.1
  show OwnOk p e below _ (s₁.setTop (mkF m 0 #[.val (.ref a), .val (.ref ca)] []))
  have KP0 : Keep h0 h0 [a] := Keep.refl h0 _
  refine own_up (fun tx kx => XS.aloadN X0.here hx rfl (hb hby d2_0) rfl rfl kx) ?_
  show OwnOk p e below _ (s₁.setTop (mkF m 1 #[.val (.ref a), .val (.ref ca)] [(.ref a)]))
  refine own_up (fun tx kx => XS.aloadN X0.here hx rfl (hb hby d2_1) rfl rfl kx) ?_
  show OwnOk p e below _ (s₁.setTop (mkF m 2 #[.val (.ref a), .val (.ref ca)] [(.ref ca), (.ref a)]))
  refine own_up (fun tx kx => XS.iconst X0.here hx rfl (hb hby d2_2) kx) ?_
  show OwnOk p e below _ (s₁.setTop (mkF m 3 #[.val (.ref a), .val (.ref ca)] [(.int (0 : Int32)), (.ref ca), (.ref a)]))
  refine own_up (fun tx kx => XS.aloadN X0.here hx rfl (hb hby d2_3) rfl rfl kx) ?_
  show OwnOk p e below _ (s₁.setTop (mkF m 4 #[.val (.ref a), .val (.ref ca)] [(.ref ca), (.int (0 : Int32)), (.ref ca), (.ref a)]))
  obtain ⟨cl11, Ar11, qc11, Sz11, Nn11, Hs11, Gf11⟩ := id V_ca
  have hlen11 : cl11.slots.size.toInt32 = (2 : Int32) := len_of Sz11 Nn11
  refine own_up (fun tx kx => X0.arraylength hx (own_ar e0 Ar11.1) (State.isArrayOf_alike hZ.alike Ar11.2.1) (g := (mkF m 4 #[.val (.ref a), .val (.ref ca)] [(.ref ca), (.int (0 : Int32)), (.ref ca), (.ref a)])) rfl rfl (hb hby d2_4) _ kx) ?_
  rw [hlen11]
  show OwnOk p e below _ (s₁.setTop (mkF m 5 #[.val (.ref a), .val (.ref ca)] [(.int (2 : Int32)), (.int (0 : Int32)), (.ref ca), (.ref a)]))
  refine own_up (fun tx kx => XS.aconstNull X0.here hx rfl (hb hby d2_5) kx) ?_
  show OwnOk p e below _ (s₁.setTop (mkF m 6 #[.val (.ref a), .val (.ref ca)] [.null, (.int (2 : Int32)), (.int (0 : Int32)), (.ref ca), (.ref a)]))
  refine own_callC X0 hx hZ (y := (⟨"java/lang/String", "<init>", "([CIILjava/lang/Void;)V"⟩ : MethodName)) rfl hown (wd_12 hw) (wd_13 hw) (wd_8 hw) (wd_15 hw) (by decide) (c_init2_2 l Z a0 hw a ca kc x0 x1 cz h0 n0 OL SC hcz E_a F_value_a F_coder_a n0_a V_ca ne_a_ca c0 c1) e0 (argsL := [(.ref ca), (.int (0 : Int32)), (.int (2 : Int32)), .null]) (rest := []) (a := a) (by rw [hml]; rfl) (lenOf pd_10 rfl) rfl rfl (W := 0) rfl (hb hby d2_6) (by decide) (by decide) (by decide) (by decide) (fun T12 v12 L12 X12 hQ12 => ?_)
  obtain ⟨rfl, Nq12, Kq12, uu12, ku12, gu12, ea12, fv12, fc12, vu12⟩ := hQ12
  have N12 := Fr.app N0 Nq12
  have OL12 := OL.keep Kq12 (allS n0_a all0)
  have KP12 := KP0.trans Kq12 (allS (Or.inl (List.mem_of_getElem? (i := 0) rfl)) all0)
  show OwnOk p e below _ (T12.setTop (mkF m 9 #[.val (.ref a), .val (.ref ca)] []))
  refine own_retV X12 hx (show meth.sig.returnType = none from hret) hlk (hb hby d2_9) rfl (Nat.le_of_ble_eq_true rfl) (Nat.le_of_ble_eq_true rfl) ?_
  exact ⟨rfl, N12, KP12, uu12, ku12, gu12, ea12, fv12, fc12, vu12⟩
def Q_c_cmp5_3 (Z : State) (t : Addr) (kt : ClassId) (x0 x1 x2 : Int32) (h0 : Heap) (n0 : Nat) (v : Option Value) (h : Heap) (L : List Loc) : Prop := v = some (.int (3 : Int32)) ∧ Fr n0 L ∧ Keep h0 h [t] ∧ Arv Z h t kt .byte (3 : Int32) [(.int (nar .byte (x0.toInt8.toInt32))), (.int (nar .byte (x1.toInt8.toInt32))), (.int (nar .byte (x2.toInt8.toInt32)))] (.int (0 : Int32))
set_option maxRecDepth 65536 in
set_option maxHeartbeats 40000000 in
theorem c_cmp5_3 (l : Launch) (Z : State) (a0 : Array Value) (hw : ∀ d ∈ tables_1, d.before a0 Z = true) (ca t : Addr) (kc kt : ClassId) (x0 x1 x2 : Int32) (h0 : Heap) (n0 : Nat) (OL : Old Z n0 h0) (V_ca : Arv Z h0 ca kc .char (3 : Int32) [(.int x0), (.int x1), (.int x2)] (.int (0 : Int32))) (V_t : Arv Z h0 t kt .byte (3 : Int32) [(.int (0 : Int32)), (.int (0 : Int32)), (.int (0 : Int32))] (.int (0 : Int32))) (n0_t : n0 ≤ t) (ne_ca_t : ca ≠ t) (c0 : ¬ (255 : Int32) < x0) (c1 : ¬ (255 : Int32) < x1) (c2 : ¬ (255 : Int32) < x2) :
    own_Met l Z (⟨"java/lang/StringUTF16", "compress", "([CI[BII)I"⟩ : MethodName) jdk_52_method_21_code 7 (some .int) ({ frames := 0, cells := 0, slots := 0, locals := 0 } : Room) #[(.ref ca), (.int (0 : Int32)), (.ref t), (.int (0 : Int32)), (.int (3 : Int32))] h0 (Q_c_cmp5_3 Z t kt x0 x1 x2 h0 n0) := by
  refine own_body (L0 := #[.val (.ref ca), .val (.int (0 : Int32)), .val (.ref t), .val (.int (0 : Int32)), .val (.int (3 : Int32)), .unset, .unset]) (plainFor_of_name (by first | (simp [plainName, overriddenIn]; done) | decide +kernel)) (fun m => by first | (simp [entryFrame, mkF, argsToLocals, Value.category]; done) | rfl) ?_
  intro p e s m below meth c s₁ hx hby hml hZ hown hnm hret hlk X0 e0
  have N0 := Fr.nil n0
  have Z0 : n0 ≤ h0.size := OL.1 ▸ OL.2.1
  show OwnOk p e below _ (s₁.setTop (mkF m 0 #[.val (.ref ca), .val (.int (0 : Int32)), .val (.ref t), .val (.int (0 : Int32)), .val (.int (3 : Int32)), .unset, .unset] []))
  have KP0 : Keep h0 h0 [t] := Keep.refl h0 _
  refine own_up (fun tx kx => XS.iconst X0.here hx rfl (hb hby d13_0) kx) ?_
  show OwnOk p e below _ (s₁.setTop (mkF m 1 #[.val (.ref ca), .val (.int (0 : Int32)), .val (.ref t), .val (.int (0 : Int32)), .val (.int (3 : Int32)), .unset, .unset] [(.int (0 : Int32))]))
  refine own_up (fun tx kx => XS.istore X0.here hx rfl (hb hby d13_1) rfl (l' := #[.val (.ref ca), .val (.int (0 : Int32)), .val (.ref t), .val (.int (0 : Int32)), .val (.int (3 : Int32)), .val (.int (0 : Int32)), .unset]) rfl kx) ?_
  show OwnOk p e below _ (s₁.setTop (mkF m 3 #[.val (.ref ca), .val (.int (0 : Int32)), .val (.ref t), .val (.int (0 : Int32)), .val (.int (3 : Int32)), .val (.int (0 : Int32)), .unset] []))
  refine own_up (fun tx kx => XS.iload X0.here hx rfl (hb hby d13_3) rfl kx) ?_
  show OwnOk p e below _ (s₁.setTop (mkF m 5 #[.val (.ref ca), .val (.int (0 : Int32)), .val (.ref t), .val (.int (0 : Int32)), .val (.int (3 : Int32)), .val (.int (0 : Int32)), .unset] [(.int (0 : Int32))]))
  refine own_up (fun tx kx => XS.iload X0.here hx rfl (hb hby d13_5) rfl kx) ?_
  show OwnOk p e below _ (s₁.setTop (mkF m 7 #[.val (.ref ca), .val (.int (0 : Int32)), .val (.ref t), .val (.int (0 : Int32)), .val (.int (3 : Int32)), .val (.int (0 : Int32)), .unset] [(.int (3 : Int32)), (.int (0 : Int32))]))
  refine own_up (fun tx kx => XS.icmpNo X0.here hx rfl (hb hby d13_7) rfl (tlt (by decide)).2.1 kx) ?_
  show OwnOk p e below _ (s₁.setTop (mkF m 10 #[.val (.ref ca), .val (.int (0 : Int32)), .val (.ref t), .val (.int (0 : Int32)), .val (.int (3 : Int32)), .val (.int (0 : Int32)), .unset] []))
  refine own_up (fun tx kx => XS.aloadN X0.here hx rfl (hb hby d13_10) rfl rfl kx) ?_
  show OwnOk p e below _ (s₁.setTop (mkF m 11 #[.val (.ref ca), .val (.int (0 : Int32)), .val (.ref t), .val (.int (0 : Int32)), .val (.int (3 : Int32)), .val (.int (0 : Int32)), .unset] [(.ref ca)]))
  refine own_up (fun tx kx => XS.iloadN X0.here hx rfl (hb hby d13_11) rfl kx) ?_
  show OwnOk p e below _ (s₁.setTop (mkF m 12 #[.val (.ref ca), .val (.int (0 : Int32)), .val (.ref t), .val (.int (0 : Int32)), .val (.int (3 : Int32)), .val (.int (0 : Int32)), .unset] [(.int (0 : Int32)), (.ref ca)]))
  obtain ⟨cl11, Ar11, qc11, Sz11, Nn11, Hs11, Gf11⟩ := id V_ca
  have hin11 : ¬ ((0 : Int32) < 0 ∨ cl11.slots.size ≤ ((0 : Int32)).toNatClampNeg) := inb_of Sz11 ⟨by decide, by decide⟩
  have hat11 : cl11.slots[((0 : Int32)).toNatClampNeg]? = some (.int x0) := Hs11.at hin11 rfl
  refine own_up (fun tx kx => X0.caload hx (j := (0 : Int32)) (v := (.int x0)) (own_ar e0 Ar11.1) (State.isArrayOf_alike hZ.alike Ar11.2.1) Ar11.2.2 hin11 hat11 (g := (mkF m 12 #[.val (.ref ca), .val (.int (0 : Int32)), .val (.ref t), .val (.int (0 : Int32)), .val (.int (3 : Int32)), .val (.int (0 : Int32)), .unset] [(.int (0 : Int32)), (.ref ca)])) rfl rfl (hb hby d13_12) _ kx) ?_
  show OwnOk p e below _ (s₁.setTop (mkF m 13 #[.val (.ref ca), .val (.int (0 : Int32)), .val (.ref t), .val (.int (0 : Int32)), .val (.int (3 : Int32)), .val (.int (0 : Int32)), .unset] [(.int x0)]))
  refine own_up (fun tx kx => XS.istore X0.here hx rfl (hb hby d13_13) rfl (l' := #[.val (.ref ca), .val (.int (0 : Int32)), .val (.ref t), .val (.int (0 : Int32)), .val (.int (3 : Int32)), .val (.int (0 : Int32)), .val (.int x0)]) rfl kx) ?_
  show OwnOk p e below _ (s₁.setTop (mkF m 15 #[.val (.ref ca), .val (.int (0 : Int32)), .val (.ref t), .val (.int (0 : Int32)), .val (.int (3 : Int32)), .val (.int (0 : Int32)), .val (.int x0)] []))
  refine own_up (fun tx kx => XS.iload X0.here hx rfl (hb hby d13_15) rfl kx) ?_
  show OwnOk p e below _ (s₁.setTop (mkF m 17 #[.val (.ref ca), .val (.int (0 : Int32)), .val (.ref t), .val (.int (0 : Int32)), .val (.int (3 : Int32)), .val (.int (0 : Int32)), .val (.int x0)] [(.int x0)]))
  refine own_up (fun tx kx => XS.sipush X0.here hx rfl (hb hby d13_17) kx) ?_
  show OwnOk p e below _ (s₁.setTop (mkF m 20 #[.val (.ref ca), .val (.int (0 : Int32)), .val (.ref t), .val (.int (0 : Int32)), .val (.int (3 : Int32)), .val (.int (0 : Int32)), .val (.int x0)] [(.int (255 : Int32)), (.int x0)]))
  refine own_up (fun tx kx => XS.icmpYes X0.here hx rfl (pc0 := 20) (pc' := 26) rfl (hb hby d13_20) rfl (flt c0).2.2.2 (by decide) (by decide) kx) ?_
  show OwnOk p e below _ (s₁.setTop (mkF m 26 #[.val (.ref ca), .val (.int (0 : Int32)), .val (.ref t), .val (.int (0 : Int32)), .val (.int (3 : Int32)), .val (.int (0 : Int32)), .val (.int x0)] []))
  refine own_up (fun tx kx => XS.aloadN X0.here hx rfl (hb hby d13_26) rfl rfl kx) ?_
  show OwnOk p e below _ (s₁.setTop (mkF m 27 #[.val (.ref ca), .val (.int (0 : Int32)), .val (.ref t), .val (.int (0 : Int32)), .val (.int (3 : Int32)), .val (.int (0 : Int32)), .val (.int x0)] [(.ref t)]))
  refine own_up (fun tx kx => XS.iloadN X0.here hx rfl (hb hby d13_27) rfl kx) ?_
  show OwnOk p e below _ (s₁.setTop (mkF m 28 #[.val (.ref ca), .val (.int (0 : Int32)), .val (.ref t), .val (.int (0 : Int32)), .val (.int (3 : Int32)), .val (.int (0 : Int32)), .val (.int x0)] [(.int (0 : Int32)), (.ref t)]))
  refine own_up (fun tx kx => XS.iload X0.here hx rfl (hb hby d13_28) rfl kx) ?_
  show OwnOk p e below _ (s₁.setTop (mkF m 30 #[.val (.ref ca), .val (.int (0 : Int32)), .val (.ref t), .val (.int (0 : Int32)), .val (.int (3 : Int32)), .val (.int (0 : Int32)), .val (.int x0)] [(.int x0), (.int (0 : Int32)), (.ref t)]))
  refine own_up (fun tx kx => XS.i2b X0.here hx rfl (hb hby d13_30) rfl kx) ?_
  show OwnOk p e below _ (s₁.setTop (mkF m 31 #[.val (.ref ca), .val (.int (0 : Int32)), .val (.ref t), .val (.int (0 : Int32)), .val (.int (3 : Int32)), .val (.int (0 : Int32)), .val (.int x0)] [(.int (x0.toInt8.toInt32)), (.int (0 : Int32)), (.ref t)]))
  obtain ⟨cl12, Ar12, qc12, Sz12, Nn12, Hs12, Gf12⟩ := id V_t
  have hin12 : ¬ ((0 : Int32) < 0 ∨ cl12.slots.size ≤ ((0 : Int32)).toNatClampNeg) := inb_of Sz12 ⟨by decide, by decide⟩
  obtain ⟨T13, h13, X13, e13, W13, st13⟩ := stB X0 hx hZ e0 Ar12 (j := (0 : Int32)) hin12 (g := (mkF m 31 #[.val (.ref ca), .val (.int (0 : Int32)), .val (.ref t), .val (.int (0 : Int32)), .val (.int (3 : Int32)), .val (.int (0 : Int32)), .val (.int x0)] [(.int (x0.toInt8.toInt32)), (.int (0 : Int32)), (.ref t)])) rfl rfl (hb hby d13_31)
  have V_t_13 : Arv Z h13 t kt .byte (3 : Int32) [(.int (nar .byte (x0.toInt8.toInt32))), (.int (0 : Int32)), (.int (0 : Int32))] (.int (0 : Int32)) := Arv.set Ar12 qc12 Sz12 Nn12 Hs12 Gf12 (fits_nar_byte _) W13 0 rfl (Nat.le_of_ble_eq_true rfl)
  have N13 := Fr.snoc X13 N0 n0_t
  have OL14 := OL.wr W13 n0_t
  have KP14 := KP0.wr W13 (Or.inl (List.mem_of_getElem? (i := 0) rfl))
  refine own_up st13 ?_
  show OwnOk p e below _ (T13.setTop (mkF m 32 #[.val (.ref ca), .val (.int (0 : Int32)), .val (.ref t), .val (.int (0 : Int32)), .val (.int (3 : Int32)), .val (.int (0 : Int32)), .val (.int x0)] []))
  have hi32_15 : ((0 : Int32) + (1 : Int32)) = (1 : Int32) := by decide
  refine own_up (fun tx kx => XS.iinc X13.here hx rfl (hb hby d13_32) rfl (l' := #[.val (.ref ca), .val (.int ((0 : Int32) + (1 : Int32))), .val (.ref t), .val (.int (0 : Int32)), .val (.int (3 : Int32)), .val (.int (0 : Int32)), .val (.int x0)]) rfl kx) ?_
  rw [hi32_15]
  show OwnOk p e below _ (T13.setTop (mkF m 35 #[.val (.ref ca), .val (.int (1 : Int32)), .val (.ref t), .val (.int (0 : Int32)), .val (.int (3 : Int32)), .val (.int (0 : Int32)), .val (.int x0)] []))
  have hi35_16 : ((0 : Int32) + (1 : Int32)) = (1 : Int32) := by decide
  refine own_up (fun tx kx => XS.iinc X13.here hx rfl (hb hby d13_35) rfl (l' := #[.val (.ref ca), .val (.int (1 : Int32)), .val (.ref t), .val (.int ((0 : Int32) + (1 : Int32))), .val (.int (3 : Int32)), .val (.int (0 : Int32)), .val (.int x0)]) rfl kx) ?_
  rw [hi35_16]
  show OwnOk p e below _ (T13.setTop (mkF m 38 #[.val (.ref ca), .val (.int (1 : Int32)), .val (.ref t), .val (.int (1 : Int32)), .val (.int (3 : Int32)), .val (.int (0 : Int32)), .val (.int x0)] []))
  have hi38_17 : ((0 : Int32) + (1 : Int32)) = (1 : Int32) := by decide
  refine own_up (fun tx kx => XS.iinc X13.here hx rfl (hb hby d13_38) rfl (l' := #[.val (.ref ca), .val (.int (1 : Int32)), .val (.ref t), .val (.int (1 : Int32)), .val (.int (3 : Int32)), .val (.int ((0 : Int32) + (1 : Int32))), .val (.int x0)]) rfl kx) ?_
  rw [hi38_17]
  show OwnOk p e below _ (T13.setTop (mkF m 41 #[.val (.ref ca), .val (.int (1 : Int32)), .val (.ref t), .val (.int (1 : Int32)), .val (.int (3 : Int32)), .val (.int (1 : Int32)), .val (.int x0)] []))
  refine own_up (fun tx kx => XS.goto X13.here hx rfl (pc0 := 41) (pc' := 3) rfl (hb hby d13_41) (by decide) (by decide) kx) ?_
  show OwnOk p e below _ (T13.setTop (mkF m 3 #[.val (.ref ca), .val (.int (1 : Int32)), .val (.ref t), .val (.int (1 : Int32)), .val (.int (3 : Int32)), .val (.int (1 : Int32)), .val (.int x0)] []))
  refine own_up (fun tx kx => XS.iload X13.here hx rfl (hb hby d13_3) rfl kx) ?_
  show OwnOk p e below _ (T13.setTop (mkF m 5 #[.val (.ref ca), .val (.int (1 : Int32)), .val (.ref t), .val (.int (1 : Int32)), .val (.int (3 : Int32)), .val (.int (1 : Int32)), .val (.int x0)] [(.int (1 : Int32))]))
  refine own_up (fun tx kx => XS.iload X13.here hx rfl (hb hby d13_5) rfl kx) ?_
  show OwnOk p e below _ (T13.setTop (mkF m 7 #[.val (.ref ca), .val (.int (1 : Int32)), .val (.ref t), .val (.int (1 : Int32)), .val (.int (3 : Int32)), .val (.int (1 : Int32)), .val (.int x0)] [(.int (3 : Int32)), (.int (1 : Int32))]))
  refine own_up (fun tx kx => XS.icmpNo X13.here hx rfl (hb hby d13_7) rfl (tlt (by decide)).2.1 kx) ?_
  show OwnOk p e below _ (T13.setTop (mkF m 10 #[.val (.ref ca), .val (.int (1 : Int32)), .val (.ref t), .val (.int (1 : Int32)), .val (.int (3 : Int32)), .val (.int (1 : Int32)), .val (.int x0)] []))
  refine own_up (fun tx kx => XS.aloadN X13.here hx rfl (hb hby d13_10) rfl rfl kx) ?_
  show OwnOk p e below _ (T13.setTop (mkF m 11 #[.val (.ref ca), .val (.int (1 : Int32)), .val (.ref t), .val (.int (1 : Int32)), .val (.int (3 : Int32)), .val (.int (1 : Int32)), .val (.int x0)] [(.ref ca)]))
  refine own_up (fun tx kx => XS.iloadN X13.here hx rfl (hb hby d13_11) rfl kx) ?_
  show OwnOk p e below _ (T13.setTop (mkF m 12 #[.val (.ref ca), .val (.int (1 : Int32)), .val (.ref t), .val (.int (1 : Int32)), .val (.int (3 : Int32)), .val (.int (1 : Int32)), .val (.int x0)] [(.int (1 : Int32)), (.ref ca)]))
  have V_ca_18 := (V_ca.other W13 ne_ca_t)
  obtain ⟨cl19, Ar19, qc19, Sz19, Nn19, Hs19, Gf19⟩ := id V_ca_18
  have hin19 : ¬ ((1 : Int32) < 0 ∨ cl19.slots.size ≤ ((1 : Int32)).toNatClampNeg) := inb_of Sz19 ⟨by decide, by decide⟩
  have hat19 : cl19.slots[((1 : Int32)).toNatClampNeg]? = some (.int x1) := Hs19.at hin19 rfl
  refine own_up (fun tx kx => X13.caload hx (j := (1 : Int32)) (v := (.int x1)) (own_ar e13 Ar19.1) (State.isArrayOf_alike hZ.alike Ar19.2.1) Ar19.2.2 hin19 hat19 (g := (mkF m 12 #[.val (.ref ca), .val (.int (1 : Int32)), .val (.ref t), .val (.int (1 : Int32)), .val (.int (3 : Int32)), .val (.int (1 : Int32)), .val (.int x0)] [(.int (1 : Int32)), (.ref ca)])) rfl rfl (hb hby d13_12) _ kx) ?_
  show OwnOk p e below _ (T13.setTop (mkF m 13 #[.val (.ref ca), .val (.int (1 : Int32)), .val (.ref t), .val (.int (1 : Int32)), .val (.int (3 : Int32)), .val (.int (1 : Int32)), .val (.int x0)] [(.int x1)]))
  refine own_up (fun tx kx => XS.istore X13.here hx rfl (hb hby d13_13) rfl (l' := #[.val (.ref ca), .val (.int (1 : Int32)), .val (.ref t), .val (.int (1 : Int32)), .val (.int (3 : Int32)), .val (.int (1 : Int32)), .val (.int x1)]) rfl kx) ?_
  show OwnOk p e below _ (T13.setTop (mkF m 15 #[.val (.ref ca), .val (.int (1 : Int32)), .val (.ref t), .val (.int (1 : Int32)), .val (.int (3 : Int32)), .val (.int (1 : Int32)), .val (.int x1)] []))
  refine own_up (fun tx kx => XS.iload X13.here hx rfl (hb hby d13_15) rfl kx) ?_
  show OwnOk p e below _ (T13.setTop (mkF m 17 #[.val (.ref ca), .val (.int (1 : Int32)), .val (.ref t), .val (.int (1 : Int32)), .val (.int (3 : Int32)), .val (.int (1 : Int32)), .val (.int x1)] [(.int x1)]))
  refine own_up (fun tx kx => XS.sipush X13.here hx rfl (hb hby d13_17) kx) ?_
  show OwnOk p e below _ (T13.setTop (mkF m 20 #[.val (.ref ca), .val (.int (1 : Int32)), .val (.ref t), .val (.int (1 : Int32)), .val (.int (3 : Int32)), .val (.int (1 : Int32)), .val (.int x1)] [(.int (255 : Int32)), (.int x1)]))
  refine own_up (fun tx kx => XS.icmpYes X13.here hx rfl (pc0 := 20) (pc' := 26) rfl (hb hby d13_20) rfl (flt c1).2.2.2 (by decide) (by decide) kx) ?_
  show OwnOk p e below _ (T13.setTop (mkF m 26 #[.val (.ref ca), .val (.int (1 : Int32)), .val (.ref t), .val (.int (1 : Int32)), .val (.int (3 : Int32)), .val (.int (1 : Int32)), .val (.int x1)] []))
  refine own_up (fun tx kx => XS.aloadN X13.here hx rfl (hb hby d13_26) rfl rfl kx) ?_
  show OwnOk p e below _ (T13.setTop (mkF m 27 #[.val (.ref ca), .val (.int (1 : Int32)), .val (.ref t), .val (.int (1 : Int32)), .val (.int (3 : Int32)), .val (.int (1 : Int32)), .val (.int x1)] [(.ref t)]))
  refine own_up (fun tx kx => XS.iloadN X13.here hx rfl (hb hby d13_27) rfl kx) ?_
  show OwnOk p e below _ (T13.setTop (mkF m 28 #[.val (.ref ca), .val (.int (1 : Int32)), .val (.ref t), .val (.int (1 : Int32)), .val (.int (3 : Int32)), .val (.int (1 : Int32)), .val (.int x1)] [(.int (1 : Int32)), (.ref t)]))
  refine own_up (fun tx kx => XS.iload X13.here hx rfl (hb hby d13_28) rfl kx) ?_
  show OwnOk p e below _ (T13.setTop (mkF m 30 #[.val (.ref ca), .val (.int (1 : Int32)), .val (.ref t), .val (.int (1 : Int32)), .val (.int (3 : Int32)), .val (.int (1 : Int32)), .val (.int x1)] [(.int x1), (.int (1 : Int32)), (.ref t)]))
  refine own_up (fun tx kx => XS.i2b X13.here hx rfl (hb hby d13_30) rfl kx) ?_
  show OwnOk p e below _ (T13.setTop (mkF m 31 #[.val (.ref ca), .val (.int (1 : Int32)), .val (.ref t), .val (.int (1 : Int32)), .val (.int (3 : Int32)), .val (.int (1 : Int32)), .val (.int x1)] [(.int (x1.toInt8.toInt32)), (.int (1 : Int32)), (.ref t)]))
  obtain ⟨cl20, Ar20, qc20, Sz20, Nn20, Hs20, Gf20⟩ := id V_t_13
  have hin20 : ¬ ((1 : Int32) < 0 ∨ cl20.slots.size ≤ ((1 : Int32)).toNatClampNeg) := inb_of Sz20 ⟨by decide, by decide⟩
  obtain ⟨T21, h21, X21, e21, W21, st21⟩ := stB X13 hx hZ e13 Ar20 (j := (1 : Int32)) hin20 (g := (mkF m 31 #[.val (.ref ca), .val (.int (1 : Int32)), .val (.ref t), .val (.int (1 : Int32)), .val (.int (3 : Int32)), .val (.int (1 : Int32)), .val (.int x1)] [(.int (x1.toInt8.toInt32)), (.int (1 : Int32)), (.ref t)])) rfl rfl (hb hby d13_31)
  have V_t_21 : Arv Z h21 t kt .byte (3 : Int32) [(.int (nar .byte (x0.toInt8.toInt32))), (.int (nar .byte (x1.toInt8.toInt32))), (.int (0 : Int32))] (.int (0 : Int32)) := Arv.set Ar20 qc20 Sz20 Nn20 Hs20 Gf20 (fits_nar_byte _) W21 1 rfl (Nat.le_of_ble_eq_true rfl)
  have N21 := Fr.snoc X21 N13 n0_t
  have OL22 := OL14.wr W21 n0_t
  have KP22 := KP14.wr W21 (Or.inl (List.mem_of_getElem? (i := 0) rfl))
  refine own_up st21 ?_
  show OwnOk p e below _ (T21.setTop (mkF m 32 #[.val (.ref ca), .val (.int (1 : Int32)), .val (.ref t), .val (.int (1 : Int32)), .val (.int (3 : Int32)), .val (.int (1 : Int32)), .val (.int x1)] []))
  have hi32_23 : ((1 : Int32) + (1 : Int32)) = (2 : Int32) := by decide
  refine own_up (fun tx kx => XS.iinc X21.here hx rfl (hb hby d13_32) rfl (l' := #[.val (.ref ca), .val (.int ((1 : Int32) + (1 : Int32))), .val (.ref t), .val (.int (1 : Int32)), .val (.int (3 : Int32)), .val (.int (1 : Int32)), .val (.int x1)]) rfl kx) ?_
  rw [hi32_23]
  show OwnOk p e below _ (T21.setTop (mkF m 35 #[.val (.ref ca), .val (.int (2 : Int32)), .val (.ref t), .val (.int (1 : Int32)), .val (.int (3 : Int32)), .val (.int (1 : Int32)), .val (.int x1)] []))
  have hi35_24 : ((1 : Int32) + (1 : Int32)) = (2 : Int32) := by decide
  refine own_up (fun tx kx => XS.iinc X21.here hx rfl (hb hby d13_35) rfl (l' := #[.val (.ref ca), .val (.int (2 : Int32)), .val (.ref t), .val (.int ((1 : Int32) + (1 : Int32))), .val (.int (3 : Int32)), .val (.int (1 : Int32)), .val (.int x1)]) rfl kx) ?_
  rw [hi35_24]
  show OwnOk p e below _ (T21.setTop (mkF m 38 #[.val (.ref ca), .val (.int (2 : Int32)), .val (.ref t), .val (.int (2 : Int32)), .val (.int (3 : Int32)), .val (.int (1 : Int32)), .val (.int x1)] []))
  have hi38_25 : ((1 : Int32) + (1 : Int32)) = (2 : Int32) := by decide
  refine own_up (fun tx kx => XS.iinc X21.here hx rfl (hb hby d13_38) rfl (l' := #[.val (.ref ca), .val (.int (2 : Int32)), .val (.ref t), .val (.int (2 : Int32)), .val (.int (3 : Int32)), .val (.int ((1 : Int32) + (1 : Int32))), .val (.int x1)]) rfl kx) ?_
  rw [hi38_25]
  show OwnOk p e below _ (T21.setTop (mkF m 41 #[.val (.ref ca), .val (.int (2 : Int32)), .val (.ref t), .val (.int (2 : Int32)), .val (.int (3 : Int32)), .val (.int (2 : Int32)), .val (.int x1)] []))
  refine own_up (fun tx kx => XS.goto X21.here hx rfl (pc0 := 41) (pc' := 3) rfl (hb hby d13_41) (by decide) (by decide) kx) ?_
  show OwnOk p e below _ (T21.setTop (mkF m 3 #[.val (.ref ca), .val (.int (2 : Int32)), .val (.ref t), .val (.int (2 : Int32)), .val (.int (3 : Int32)), .val (.int (2 : Int32)), .val (.int x1)] []))
  refine own_up (fun tx kx => XS.iload X21.here hx rfl (hb hby d13_3) rfl kx) ?_
  show OwnOk p e below _ (T21.setTop (mkF m 5 #[.val (.ref ca), .val (.int (2 : Int32)), .val (.ref t), .val (.int (2 : Int32)), .val (.int (3 : Int32)), .val (.int (2 : Int32)), .val (.int x1)] [(.int (2 : Int32))]))
  refine own_up (fun tx kx => XS.iload X21.here hx rfl (hb hby d13_5) rfl kx) ?_
  show OwnOk p e below _ (T21.setTop (mkF m 7 #[.val (.ref ca), .val (.int (2 : Int32)), .val (.ref t), .val (.int (2 : Int32)), .val (.int (3 : Int32)), .val (.int (2 : Int32)), .val (.int x1)] [(.int (3 : Int32)), (.int (2 : Int32))]))
  refine own_up (fun tx kx => XS.icmpNo X21.here hx rfl (hb hby d13_7) rfl (tlt (by decide)).2.1 kx) ?_
  show OwnOk p e below _ (T21.setTop (mkF m 10 #[.val (.ref ca), .val (.int (2 : Int32)), .val (.ref t), .val (.int (2 : Int32)), .val (.int (3 : Int32)), .val (.int (2 : Int32)), .val (.int x1)] []))
  refine own_up (fun tx kx => XS.aloadN X21.here hx rfl (hb hby d13_10) rfl rfl kx) ?_
  show OwnOk p e below _ (T21.setTop (mkF m 11 #[.val (.ref ca), .val (.int (2 : Int32)), .val (.ref t), .val (.int (2 : Int32)), .val (.int (3 : Int32)), .val (.int (2 : Int32)), .val (.int x1)] [(.ref ca)]))
  refine own_up (fun tx kx => XS.iloadN X21.here hx rfl (hb hby d13_11) rfl kx) ?_
  show OwnOk p e below _ (T21.setTop (mkF m 12 #[.val (.ref ca), .val (.int (2 : Int32)), .val (.ref t), .val (.int (2 : Int32)), .val (.int (3 : Int32)), .val (.int (2 : Int32)), .val (.int x1)] [(.int (2 : Int32)), (.ref ca)]))
  have V_ca_26 := (V_ca_18.other W21 ne_ca_t)
  obtain ⟨cl27, Ar27, qc27, Sz27, Nn27, Hs27, Gf27⟩ := id V_ca_26
  have hin27 : ¬ ((2 : Int32) < 0 ∨ cl27.slots.size ≤ ((2 : Int32)).toNatClampNeg) := inb_of Sz27 ⟨by decide, by decide⟩
  have hat27 : cl27.slots[((2 : Int32)).toNatClampNeg]? = some (.int x2) := Hs27.at hin27 rfl
  refine own_up (fun tx kx => X21.caload hx (j := (2 : Int32)) (v := (.int x2)) (own_ar e21 Ar27.1) (State.isArrayOf_alike hZ.alike Ar27.2.1) Ar27.2.2 hin27 hat27 (g := (mkF m 12 #[.val (.ref ca), .val (.int (2 : Int32)), .val (.ref t), .val (.int (2 : Int32)), .val (.int (3 : Int32)), .val (.int (2 : Int32)), .val (.int x1)] [(.int (2 : Int32)), (.ref ca)])) rfl rfl (hb hby d13_12) _ kx) ?_
  show OwnOk p e below _ (T21.setTop (mkF m 13 #[.val (.ref ca), .val (.int (2 : Int32)), .val (.ref t), .val (.int (2 : Int32)), .val (.int (3 : Int32)), .val (.int (2 : Int32)), .val (.int x1)] [(.int x2)]))
  refine own_up (fun tx kx => XS.istore X21.here hx rfl (hb hby d13_13) rfl (l' := #[.val (.ref ca), .val (.int (2 : Int32)), .val (.ref t), .val (.int (2 : Int32)), .val (.int (3 : Int32)), .val (.int (2 : Int32)), .val (.int x2)]) rfl kx) ?_
  show OwnOk p e below _ (T21.setTop (mkF m 15 #[.val (.ref ca), .val (.int (2 : Int32)), .val (.ref t), .val (.int (2 : Int32)), .val (.int (3 : Int32)), .val (.int (2 : Int32)), .val (.int x2)] []))
  refine own_up (fun tx kx => XS.iload X21.here hx rfl (hb hby d13_15) rfl kx) ?_
  show OwnOk p e below _ (T21.setTop (mkF m 17 #[.val (.ref ca), .val (.int (2 : Int32)), .val (.ref t), .val (.int (2 : Int32)), .val (.int (3 : Int32)), .val (.int (2 : Int32)), .val (.int x2)] [(.int x2)]))
  refine own_up (fun tx kx => XS.sipush X21.here hx rfl (hb hby d13_17) kx) ?_
  show OwnOk p e below _ (T21.setTop (mkF m 20 #[.val (.ref ca), .val (.int (2 : Int32)), .val (.ref t), .val (.int (2 : Int32)), .val (.int (3 : Int32)), .val (.int (2 : Int32)), .val (.int x2)] [(.int (255 : Int32)), (.int x2)]))
  refine own_up (fun tx kx => XS.icmpYes X21.here hx rfl (pc0 := 20) (pc' := 26) rfl (hb hby d13_20) rfl (flt c2).2.2.2 (by decide) (by decide) kx) ?_
  show OwnOk p e below _ (T21.setTop (mkF m 26 #[.val (.ref ca), .val (.int (2 : Int32)), .val (.ref t), .val (.int (2 : Int32)), .val (.int (3 : Int32)), .val (.int (2 : Int32)), .val (.int x2)] []))
  refine own_up (fun tx kx => XS.aloadN X21.here hx rfl (hb hby d13_26) rfl rfl kx) ?_
  show OwnOk p e below _ (T21.setTop (mkF m 27 #[.val (.ref ca), .val (.int (2 : Int32)), .val (.ref t), .val (.int (2 : Int32)), .val (.int (3 : Int32)), .val (.int (2 : Int32)), .val (.int x2)] [(.ref t)]))
  refine own_up (fun tx kx => XS.iloadN X21.here hx rfl (hb hby d13_27) rfl kx) ?_
  show OwnOk p e below _ (T21.setTop (mkF m 28 #[.val (.ref ca), .val (.int (2 : Int32)), .val (.ref t), .val (.int (2 : Int32)), .val (.int (3 : Int32)), .val (.int (2 : Int32)), .val (.int x2)] [(.int (2 : Int32)), (.ref t)]))
  refine own_up (fun tx kx => XS.iload X21.here hx rfl (hb hby d13_28) rfl kx) ?_
  show OwnOk p e below _ (T21.setTop (mkF m 30 #[.val (.ref ca), .val (.int (2 : Int32)), .val (.ref t), .val (.int (2 : Int32)), .val (.int (3 : Int32)), .val (.int (2 : Int32)), .val (.int x2)] [(.int x2), (.int (2 : Int32)), (.ref t)]))
  refine own_up (fun tx kx => XS.i2b X21.here hx rfl (hb hby d13_30) rfl kx) ?_
  show OwnOk p e below _ (T21.setTop (mkF m 31 #[.val (.ref ca), .val (.int (2 : Int32)), .val (.ref t), .val (.int (2 : Int32)), .val (.int (3 : Int32)), .val (.int (2 : Int32)), .val (.int x2)] [(.int (x2.toInt8.toInt32)), (.int (2 : Int32)), (.ref t)]))
  obtain ⟨cl28, Ar28, qc28, Sz28, Nn28, Hs28, Gf28⟩ := id V_t_21
  have hin28 : ¬ ((2 : Int32) < 0 ∨ cl28.slots.size ≤ ((2 : Int32)).toNatClampNeg) := inb_of Sz28 ⟨by decide, by decide⟩
  obtain ⟨T29, h29, X29, e29, W29, st29⟩ := stB X21 hx hZ e21 Ar28 (j := (2 : Int32)) hin28 (g := (mkF m 31 #[.val (.ref ca), .val (.int (2 : Int32)), .val (.ref t), .val (.int (2 : Int32)), .val (.int (3 : Int32)), .val (.int (2 : Int32)), .val (.int x2)] [(.int (x2.toInt8.toInt32)), (.int (2 : Int32)), (.ref t)])) rfl rfl (hb hby d13_31)
  have V_t_29 : Arv Z h29 t kt .byte (3 : Int32) [(.int (nar .byte (x0.toInt8.toInt32))), (.int (nar .byte (x1.toInt8.toInt32))), (.int (nar .byte (x2.toInt8.toInt32)))] (.int (0 : Int32)) := Arv.set Ar28 qc28 Sz28 Nn28 Hs28 Gf28 (fits_nar_byte _) W29 2 rfl (Nat.le_of_ble_eq_true rfl)
  have N29 := Fr.snoc X29 N21 n0_t
  have OL30 := OL22.wr W29 n0_t
  have KP30 := KP22.wr W29 (Or.inl (List.mem_of_getElem? (i := 0) rfl))
  refine own_up st29 ?_
  show OwnOk p e below _ (T29.setTop (mkF m 32 #[.val (.ref ca), .val (.int (2 : Int32)), .val (.ref t), .val (.int (2 : Int32)), .val (.int (3 : Int32)), .val (.int (2 : Int32)), .val (.int x2)] []))
  have hi32_31 : ((2 : Int32) + (1 : Int32)) = (3 : Int32) := by decide
  refine own_up (fun tx kx => XS.iinc X29.here hx rfl (hb hby d13_32) rfl (l' := #[.val (.ref ca), .val (.int ((2 : Int32) + (1 : Int32))), .val (.ref t), .val (.int (2 : Int32)), .val (.int (3 : Int32)), .val (.int (2 : Int32)), .val (.int x2)]) rfl kx) ?_
  rw [hi32_31]
  show OwnOk p e below _ (T29.setTop (mkF m 35 #[.val (.ref ca), .val (.int (3 : Int32)), .val (.ref t), .val (.int (2 : Int32)), .val (.int (3 : Int32)), .val (.int (2 : Int32)), .val (.int x2)] []))
  have hi35_32 : ((2 : Int32) + (1 : Int32)) = (3 : Int32) := by decide
  refine own_up (fun tx kx => XS.iinc X29.here hx rfl (hb hby d13_35) rfl (l' := #[.val (.ref ca), .val (.int (3 : Int32)), .val (.ref t), .val (.int ((2 : Int32) + (1 : Int32))), .val (.int (3 : Int32)), .val (.int (2 : Int32)), .val (.int x2)]) rfl kx) ?_
  rw [hi35_32]
  show OwnOk p e below _ (T29.setTop (mkF m 38 #[.val (.ref ca), .val (.int (3 : Int32)), .val (.ref t), .val (.int (3 : Int32)), .val (.int (3 : Int32)), .val (.int (2 : Int32)), .val (.int x2)] []))
  have hi38_33 : ((2 : Int32) + (1 : Int32)) = (3 : Int32) := by decide
  refine own_up (fun tx kx => XS.iinc X29.here hx rfl (hb hby d13_38) rfl (l' := #[.val (.ref ca), .val (.int (3 : Int32)), .val (.ref t), .val (.int (3 : Int32)), .val (.int (3 : Int32)), .val (.int ((2 : Int32) + (1 : Int32))), .val (.int x2)]) rfl kx) ?_
  rw [hi38_33]
  show OwnOk p e below _ (T29.setTop (mkF m 41 #[.val (.ref ca), .val (.int (3 : Int32)), .val (.ref t), .val (.int (3 : Int32)), .val (.int (3 : Int32)), .val (.int (3 : Int32)), .val (.int x2)] []))
  refine own_up (fun tx kx => XS.goto X29.here hx rfl (pc0 := 41) (pc' := 3) rfl (hb hby d13_41) (by decide) (by decide) kx) ?_
  show OwnOk p e below _ (T29.setTop (mkF m 3 #[.val (.ref ca), .val (.int (3 : Int32)), .val (.ref t), .val (.int (3 : Int32)), .val (.int (3 : Int32)), .val (.int (3 : Int32)), .val (.int x2)] []))
  refine own_up (fun tx kx => XS.iload X29.here hx rfl (hb hby d13_3) rfl kx) ?_
  show OwnOk p e below _ (T29.setTop (mkF m 5 #[.val (.ref ca), .val (.int (3 : Int32)), .val (.ref t), .val (.int (3 : Int32)), .val (.int (3 : Int32)), .val (.int (3 : Int32)), .val (.int x2)] [(.int (3 : Int32))]))
  refine own_up (fun tx kx => XS.iload X29.here hx rfl (hb hby d13_5) rfl kx) ?_
  show OwnOk p e below _ (T29.setTop (mkF m 7 #[.val (.ref ca), .val (.int (3 : Int32)), .val (.ref t), .val (.int (3 : Int32)), .val (.int (3 : Int32)), .val (.int (3 : Int32)), .val (.int x2)] [(.int (3 : Int32)), (.int (3 : Int32))]))
  refine own_up (fun tx kx => XS.icmpYes X29.here hx rfl (pc0 := 7) (pc' := 44) rfl (hb hby d13_7) rfl (flt (by decide)).2.1 (by decide) (by decide) kx) ?_
  show OwnOk p e below _ (T29.setTop (mkF m 44 #[.val (.ref ca), .val (.int (3 : Int32)), .val (.ref t), .val (.int (3 : Int32)), .val (.int (3 : Int32)), .val (.int (3 : Int32)), .val (.int x2)] []))
  refine own_up (fun tx kx => XS.iload X29.here hx rfl (hb hby d13_44) rfl kx) ?_
  show OwnOk p e below _ (T29.setTop (mkF m 46 #[.val (.ref ca), .val (.int (3 : Int32)), .val (.ref t), .val (.int (3 : Int32)), .val (.int (3 : Int32)), .val (.int (3 : Int32)), .val (.int x2)] [(.int (3 : Int32))]))
  refine own_retI X29 hx (show meth.sig.returnType = some .int from hret) hlk (hb hby d13_46) e29 (Nat.le_of_ble_eq_true rfl) (Nat.le_of_ble_eq_true rfl) ?_
  exact ⟨rfl, N29, KP30, V_t_29⟩
def Q_c_cmp4_3 (Z : State) (x0 x1 x2 : Int32) (h0 : Heap) (n0 : Nat) (v : Option Value) (h : Heap) (L : List Loc) : Prop := ∃ (t : Addr) (kt : ClassId), v = some (.ref t) ∧ Fr n0 L ∧ Keep h0 h [] ∧ h0.size ≤ t ∧ Arv Z h t kt .byte (3 : Int32) [(.int (nar .byte (x0.toInt8.toInt32))), (.int (nar .byte (x1.toInt8.toInt32))), (.int (nar .byte (x2.toInt8.toInt32)))] (.int (0 : Int32))
set_option maxRecDepth 65536 in
set_option maxHeartbeats 40000000 in
theorem c_cmp4_3 (l : Launch) (Z : State) (a0 : Array Value) (hw : ∀ d ∈ tables_1, d.before a0 Z = true) (ca : Addr) (kc : ClassId) (x0 x1 x2 : Int32) (h0 : Heap) (n0 : Nat) (OL : Old Z n0 h0) (V_ca : Arv Z h0 ca kc .char (3 : Int32) [(.int x0), (.int x1), (.int x2)] (.int (0 : Int32))) (c0 : ¬ (255 : Int32) < x0) (c1 : ¬ (255 : Int32) < x1) (c2 : ¬ (255 : Int32) < x2) :
    own_Met l Z (⟨"java/lang/StringUTF16", "compress", "([CII)[B"⟩ : MethodName) jdk_52_method_16_code 6 (some (.array .byte)) ({ frames := 1, cells := 1, slots := 3, locals := 20 } : Room) #[(.ref ca), (.int (0 : Int32)), (.int (3 : Int32))] h0 (Q_c_cmp4_3 Z x0 x1 x2 h0 n0) := by
  refine own_body (L0 := #[.val (.ref ca), .val (.int (0 : Int32)), .val (.int (3 : Int32)), .unset, .unset, .unset]) (plainFor_of_name (by first | (simp [plainName, overriddenIn]; done) | decide +kernel)) (fun m => by first | (simp [entryFrame, mkF, argsToLocals, Value.category]; done) | rfl) ?_
  intro p e s m below meth c s₁ hx hby hml hZ hown hnm hret hlk X0 e0
  have N0 := Fr.nil n0
  have Z0 : n0 ≤ h0.size := OL.1 ▸ OL.2.1
  show OwnOk p e below _ (s₁.setTop (mkF m 0 #[.val (.ref ca), .val (.int (0 : Int32)), .val (.int (3 : Int32)), .unset, .unset, .unset] []))
  have KP0 : Keep h0 h0 [] := Keep.refl h0 _
  refine own_up (fun tx kx => XS.iloadN X0.here hx rfl (hb hby d12_0) rfl kx) ?_
  show OwnOk p e below _ (s₁.setTop (mkF m 1 #[.val (.ref ca), .val (.int (0 : Int32)), .val (.int (3 : Int32)), .unset, .unset, .unset] [(.int (3 : Int32))]))
  obtain ⟨T11, h11, k11, X11, e11, E11, A11, st11⟩ := newP (aty := .byte) X0 hx hZ (wd_20 hw) e0 (g := (mkF m 1 #[.val (.ref ca), .val (.int (0 : Int32)), .val (.int (3 : Int32)), .unset, .unset, .unset] [(.int (3 : Int32))])) rfl (hb hby d12_1) rfl (by decide) (cap := 3) (by decide) (by decide) (by decide) (by decide)
  obtain ⟨b11, g11⟩ : ∃ z, z = h0.size := ⟨_, rfl⟩
  rw [← g11] at A11 st11
  have sz_b11 : h0.size ≤ b11 := Nat.le_of_eq g11.symm
  have lt_ca_b11 : ca < b11 := Nat.lt_of_lt_of_le V_ca.lt sz_b11
  have n0_b11 : n0 ≤ b11 := Nat.le_trans (own_n0 OL) sz_b11
  have ws_b11 : h0.size ≤ b11 := Nat.le_trans KP0.1 sz_b11
  have V_b11 : Arv Z h11 b11 k11 .byte (3 : Int32) [(.int (0 : Int32)), (.int (0 : Int32)), (.int (0 : Int32))] (.int (0 : Int32)) := (Arv.new A11 (by decide)).pad (pad_rep [] (.int (0 : Int32)) 3)
  have OL13 := OL.ext E11
  have KP13 := KP0.ext E11
  refine own_up st11 ?_
  show OwnOk p e below _ (T11.setTop (mkF m 3 #[.val (.ref ca), .val (.int (0 : Int32)), .val (.int (3 : Int32)), .unset, .unset, .unset] [(.ref b11)]))
  refine own_up (fun tx kx => XS.astoreN X11.here hx rfl (hb hby d12_3) rfl rfl (l' := #[.val (.ref ca), .val (.int (0 : Int32)), .val (.int (3 : Int32)), .val (.ref b11), .unset, .unset]) rfl kx) ?_
  show OwnOk p e below _ (T11.setTop (mkF m 4 #[.val (.ref ca), .val (.int (0 : Int32)), .val (.int (3 : Int32)), .val (.ref b11), .unset, .unset] []))
  refine own_up (fun tx kx => XS.aloadN X11.here hx rfl (hb hby d12_4) rfl rfl kx) ?_
  show OwnOk p e below _ (T11.setTop (mkF m 5 #[.val (.ref ca), .val (.int (0 : Int32)), .val (.int (3 : Int32)), .val (.ref b11), .unset, .unset] [(.ref ca)]))
  refine own_up (fun tx kx => XS.iloadN X11.here hx rfl (hb hby d12_5) rfl kx) ?_
  show OwnOk p e below _ (T11.setTop (mkF m 6 #[.val (.ref ca), .val (.int (0 : Int32)), .val (.int (3 : Int32)), .val (.ref b11), .unset, .unset] [(.int (0 : Int32)), (.ref ca)]))
  refine own_up (fun tx kx => XS.aloadN X11.here hx rfl (hb hby d12_6) rfl rfl kx) ?_
  show OwnOk p e below _ (T11.setTop (mkF m 7 #[.val (.ref ca), .val (.int (0 : Int32)), .val (.int (3 : Int32)), .val (.ref b11), .unset, .unset] [(.ref b11), (.int (0 : Int32)), (.ref ca)]))
  refine own_up (fun tx kx => XS.iconst X11.here hx rfl (hb hby d12_7) kx) ?_
  show OwnOk p e below _ (T11.setTop (mkF m 8 #[.val (.ref ca), .val (.int (0 : Int32)), .val (.int (3 : Int32)), .val (.ref b11), .unset, .unset] [(.int (0 : Int32)), (.ref b11), (.int (0 : Int32)), (.ref ca)]))
  refine own_up (fun tx kx => XS.iloadN X11.here hx rfl (hb hby d12_8) rfl kx) ?_
  show OwnOk p e below _ (T11.setTop (mkF m 9 #[.val (.ref ca), .val (.int (0 : Int32)), .val (.int (3 : Int32)), .val (.ref b11), .unset, .unset] [(.int (3 : Int32)), (.int (0 : Int32)), (.ref b11), (.int (0 : Int32)), (.ref ca)]))
  have V_ca_14 := (V_ca.ext E11)
  refine own_callS X11 hx hZ (y := (⟨"java/lang/StringUTF16", "compress", "([CI[BII)I"⟩ : MethodName)) hown (wd_64 hw) (wd_65 hw) (wd_62 hw) (wd_66 hw) (by decide) (c_cmp5_3 l Z a0 hw ca b11 kc k11 x0 x1 x2 h11 n0 OL13 V_ca_14 V_b11 n0_b11 (Nat.ne_of_lt lt_ca_b11) c0 c1 c2) e11 (argsL := [(.ref ca), (.int (0 : Int32)), (.ref b11), (.int (0 : Int32)), (.int (3 : Int32))]) (rest := []) (by rw [hml]; rfl) (lenOf pd_7 rfl) rfl rfl (W := 0) rfl (hb hby d12_9) (by decide) (by decide) (by decide) (by decide) (fun T15 v15 L15 X15 hQ15 => ?_)
  obtain ⟨rfl, Nq15, Kq15, Vq15⟩ := hQ15
  have N15 := Fr.app N0 Nq15
  have OL15 := OL13.keep Kq15 (allS n0_b11 all0)
  have KP15 := KP13.trans Kq15 (allS (Or.inr ws_b11) all0)
  show OwnOk p e below _ (T15.setTop (mkF m 12 #[.val (.ref ca), .val (.int (0 : Int32)), .val (.int (3 : Int32)), .val (.ref b11), .unset, .unset] [(.int (3 : Int32))]))
  refine own_up (fun tx kx => XS.istore X15.here hx rfl (hb hby d12_12) rfl (l' := #[.val (.ref ca), .val (.int (0 : Int32)), .val (.int (3 : Int32)), .val (.ref b11), .val (.int (3 : Int32)), .unset]) rfl kx) ?_
  show OwnOk p e below _ (T15.setTop (mkF m 14 #[.val (.ref ca), .val (.int (0 : Int32)), .val (.int (3 : Int32)), .val (.ref b11), .val (.int (3 : Int32)), .unset] []))
  refine own_up (fun tx kx => XS.iload X15.here hx rfl (hb hby d12_14) rfl kx) ?_
  show OwnOk p e below _ (T15.setTop (mkF m 16 #[.val (.ref ca), .val (.int (0 : Int32)), .val (.int (3 : Int32)), .val (.ref b11), .val (.int (3 : Int32)), .unset] [(.int (3 : Int32))]))
  refine own_up (fun tx kx => XS.iloadN X15.here hx rfl (hb hby d12_16) rfl kx) ?_
  show OwnOk p e below _ (T15.setTop (mkF m 17 #[.val (.ref ca), .val (.int (0 : Int32)), .val (.int (3 : Int32)), .val (.ref b11), .val (.int (3 : Int32)), .unset] [(.int (3 : Int32)), (.int (3 : Int32))]))
  refine own_up (fun tx kx => XS.icmpYes X15.here hx rfl (pc0 := 17) (pc' := 57) rfl (hb hby d12_17) rfl (teq rfl).1 (by decide) (by decide) kx) ?_
  show OwnOk p e below _ (T15.setTop (mkF m 57 #[.val (.ref ca), .val (.int (0 : Int32)), .val (.int (3 : Int32)), .val (.ref b11), .val (.int (3 : Int32)), .unset] []))
  refine own_up (fun tx kx => XS.aloadN X15.here hx rfl (hb hby d12_57) rfl rfl kx) ?_
  show OwnOk p e below _ (T15.setTop (mkF m 58 #[.val (.ref ca), .val (.int (0 : Int32)), .val (.int (3 : Int32)), .val (.ref b11), .val (.int (3 : Int32)), .unset] [(.ref b11)]))
  refine own_retR X15 hx (t := (.array .byte)) (show meth.sig.returnType = some (.array .byte) from hret) rfl hlk rfl (hb hby d12_58) rfl (Nat.le_of_ble_eq_true rfl) (Nat.le_of_ble_eq_true rfl) ?_
  exact ⟨b11, _, rfl, N15, KP15, ws_b11, Vq15⟩
def Q_c_coder_3 (h0 : Heap) (n0 : Nat) (v : Option Value) (h : Heap) (L : List Loc) : Prop := v = some (.int 0) ∧ Fr n0 L ∧ h = h0
set_option maxRecDepth 65536 in
set_option maxHeartbeats 40000000 in
theorem c_coder_3 (l : Launch) (Z : State) (a0 : Array Value) (hw : ∀ d ∈ tables_1, d.before a0 Z = true) (t : Addr) (kt : ClassId) (x0 x1 x2 : Int32) (h0 : Heap) (n0 : Nat) (OL : Old Z n0 h0) (V_t : Arv Z h0 t kt .byte (3 : Int32) [(.int (nar .byte (x0.toInt8.toInt32))), (.int (nar .byte (x1.toInt8.toInt32))), (.int (nar .byte (x2.toInt8.toInt32)))] (.int (0 : Int32))) :
    own_Met l Z (⟨"java/lang/StringUTF16", "coderFromArrayLen", "([BI)B"⟩ : MethodName) jdk_52_method_15_code 2 (some .byte) ({ frames := 0, cells := 0, slots := 0, locals := 0 } : Room) #[(.ref t), (.int (3 : Int32))] h0 (Q_c_coder_3 h0 n0) := by
  refine own_body (L0 := #[.val (.ref t), .val (.int (3 : Int32))]) (plainFor_of_name (by first | (simp [plainName, overriddenIn]; done) | decide +kernel)) (fun m => by first | (simp [entryFrame, mkF, argsToLocals, Value.category]; done) | rfl) ?_
  intro p e s m below meth c s₁ hx hby hml hZ hown hnm hret hlk X0 e0
  have N0 := Fr.nil n0
  have Z0 : n0 ≤ h0.size := OL.1 ▸ OL.2.1
  show OwnOk p e below _ (s₁.setTop (mkF m 0 #[.val (.ref t), .val (.int (3 : Int32))] []))
  refine own_up (fun tx kx => XS.iloadN X0.here hx rfl (hb hby d14_0) rfl kx) ?_
  show OwnOk p e below _ (s₁.setTop (mkF m 1 #[.val (.ref t), .val (.int (3 : Int32))] [(.int (3 : Int32))]))
  refine own_up (fun tx kx => XS.aloadN X0.here hx rfl (hb hby d14_1) rfl rfl kx) ?_
  show OwnOk p e below _ (s₁.setTop (mkF m 2 #[.val (.ref t), .val (.int (3 : Int32))] [(.ref t), (.int (3 : Int32))]))
  obtain ⟨cl11, Ar11, qc11, Sz11, Nn11, Hs11, Gf11⟩ := id V_t
  have hlen11 : cl11.slots.size.toInt32 = (3 : Int32) := len_of Sz11 Nn11
  refine own_up (fun tx kx => X0.arraylength hx (own_ar e0 Ar11.1) (State.isArrayOf_alike hZ.alike Ar11.2.1) (g := (mkF m 2 #[.val (.ref t), .val (.int (3 : Int32))] [(.ref t), (.int (3 : Int32))])) rfl rfl (hb hby d14_2) _ kx) ?_
  rw [hlen11]
  show OwnOk p e below _ (s₁.setTop (mkF m 3 #[.val (.ref t), .val (.int (3 : Int32))] [(.int (3 : Int32)), (.int (3 : Int32))]))
  have hc3_12 : ((3 : Int32) - (3 : Int32)) = (0 : Int32) := by decide
  refine own_up (fun tx kx => XS.isub X0.here hx rfl (hb hby d14_3) rfl kx) ?_
  show OwnOk p e below _ (s₁.setTop (mkF m 4 #[.val (.ref t), .val (.int (3 : Int32))] [(.int ((3 : Int32) - (3 : Int32)))]))
  rw [hc3_12]
  show OwnOk p e below _ (s₁.setTop (mkF m 4 #[.val (.ref t), .val (.int (3 : Int32))] [(.int (0 : Int32))]))
  refine own_up (fun tx kx => XS.bipush X0.here hx rfl (hb hby d14_4) kx) ?_
  show OwnOk p e below _ (s₁.setTop (mkF m 6 #[.val (.ref t), .val (.int (3 : Int32))] [(.int (31 : Int32)), (.int (0 : Int32))]))
  refine own_up (fun tx kx => XS.iushr X0.here hx rfl (hb hby d14_6) rfl kx) ?_
  show OwnOk p e below _ (s₁.setTop (mkF m 7 #[.val (.ref t), .val (.int (3 : Int32))] [(.int (((0 : Int32).toUInt32 >>> ((31 : Int32) &&& 31).toUInt32).toInt32))]))
  refine own_up (fun tx kx => XS.i2b X0.here hx rfl (hb hby d14_7) rfl kx) ?_
  show OwnOk p e below _ (s₁.setTop (mkF m 8 #[.val (.ref t), .val (.int (3 : Int32))] [(.int ((((0 : Int32).toUInt32 >>> ((31 : Int32) &&& 31).toUInt32).toInt32).toInt8.toInt32))]))
  refine own_retN X0 hx (t := .byte) (show meth.sig.returnType = some .byte from hret) (by simp) hlk (hb hby d14_8) (z' := 0) (by decide) e0 (Nat.le_of_ble_eq_true rfl) (Nat.le_of_ble_eq_true rfl) ?_
  exact ⟨rfl, N0, rfl⟩
def Q_c_init2_3 (Z : State) (a : Addr) (x0 x1 x2 : Int32) (h0 : Heap) (n0 : Nat) (v : Option Value) (h : Heap) (L : List Loc) : Prop := v = none ∧ Fr n0 L ∧ Keep h0 h [a] ∧ ∃ (u : Addr) (ku : ClassId), h0.size ≤ u ∧ (Exa Z h a "java/lang/String") ∧ (Fld Z h a "java/lang/String" "value" "[B" (.ref u)) ∧ (Fld Z h a "java/lang/String" "coder" "B" (.int (0 : Int32))) ∧ (Arv Z h u ku .byte (Int32.ofNat 3) (own_F 3 (fun j => [(nar .byte (x0.toInt8.toInt32)), (nar .byte (x1.toInt8.toInt32)), (nar .byte (x2.toInt8.toInt32))].getD j 0)) (.int (0 : Int32)))
set_option maxRecDepth 65536 in
set_option maxHeartbeats 40000000 in
theorem c_init2_3 (l : Launch) (Z : State) (a0 : Array Value) (hw : ∀ d ∈ tables_1, d.before a0 Z = true) (a ca : Addr) (kc : ClassId) (x0 x1 x2 : Int32) (cz : Int32) (h0 : Heap) (n0 : Nat) (OL : Old Z n0 h0) (SC : Sta Z Z.heap "java/lang/String" "COMPACT_STRINGS" "Z" (.int cz)) (hcz : ¬ cz = 0) (E_a : Exa Z h0 a "java/lang/String") (F_value_a : Fld Z h0 a "java/lang/String" "value" "[B" .null) (F_coder_a : Fld Z h0 a "java/lang/String" "coder" "B" (.int (0 : Int32))) (n0_a : n0 ≤ a) (V_ca : Arv Z h0 ca kc .char (3 : Int32) [(.int x0), (.int x1), (.int x2)] (.int (0 : Int32))) (ne_a_ca : a ≠ ca) (c0 : ¬ (255 : Int32) < x0) (c1 : ¬ (255 : Int32) < x1) (c2 : ¬ (255 : Int32) < x2) :
    own_Met l Z (⟨"java/lang/String", "<init>", "([CIILjava/lang/Void;)V"⟩ : MethodName) jdk_42_method_149_code 6 none ({ frames := 2, cells := 1, slots := 3, locals := 45 } : Room) #[(.ref a), (.ref ca), (.int (0 : Int32)), (.int (3 : Int32)), .null] h0 (Q_c_init2_3 Z a x0 x1 x2 h0 n0) := by
  refine own_body (L0 := #[.val (.ref a), .val (.ref ca), .val (.int (0 : Int32)), .val (.int (3 : Int32)), .val .null, .unset]) (plainFor_of_name (by first | (simp [plainName, overriddenIn]; done) | decide +kernel)) (fun m => by first | (simp [entryFrame, mkF, argsToLocals, Value.category]; done) | rfl) ?_
  intro p e s m below meth c s₁ hx hby hml hZ hown hnm hret hlk X0 e0
  have N0 := Fr.nil n0
  have Z0 : n0 ≤ h0.size := OL.1 ▸ OL.2.1
  show OwnOk p e below _ (s₁.setTop (mkF m 0 #[.val (.ref a), .val (.ref ca), .val (.int (0 : Int32)), .val (.int (3 : Int32)), .val .null, .unset] []))
  have KP0 : Keep h0 h0 [a] := Keep.refl h0 _
  refine own_up (fun tx kx => XS.aloadN X0.here hx rfl (hb hby d3_0) rfl rfl kx) ?_
  show OwnOk p e below _ (s₁.setTop (mkF m 1 #[.val (.ref a), .val (.ref ca), .val (.int (0 : Int32)), .val (.int (3 : Int32)), .val .null, .unset] [(.ref a)]))
  obtain ⟨T11, X11, e11, st11⟩ := initO X0 hx hZ hown (wd_16 hw) (wd_17 hw) (wd_18 hw) e0 (g := (mkF m 1 #[.val (.ref a), .val (.ref ca), .val (.int (0 : Int32)), .val (.int (3 : Int32)), .val .null, .unset] [(.ref a)])) rfl (by rw [hml]; rfl) rfl (hb hby d3_1) (by decide) (W := 0) (by show 2 * 0 + _ ≤ _; exact Nat.le_of_eq rfl) (by decide)
  refine own_up st11 ?_
  show OwnOk p e below _ (T11.setTop (mkF m 4 #[.val (.ref a), .val (.ref ca), .val (.int (0 : Int32)), .val (.int (3 : Int32)), .val .null, .unset] []))
  refine own_up (fun tx kx => XS.iloadN X11.here hx rfl (hb hby d3_4) rfl kx) ?_
  show OwnOk p e below _ (T11.setTop (mkF m 5 #[.val (.ref a), .val (.ref ca), .val (.int (0 : Int32)), .val (.int (3 : Int32)), .val .null, .unset] [(.int (3 : Int32))]))
  refine own_up (fun tx kx => XS.ifYes X11.here hx rfl (pc0 := 5) (pc' := 27) rfl (hb hby d3_5) rfl ((if0 _ _).trans (feq (by decide)).2) (by decide) (by decide) kx) ?_
  show OwnOk p e below _ (T11.setTop (mkF m 27 #[.val (.ref a), .val (.ref ca), .val (.int (0 : Int32)), .val (.int (3 : Int32)), .val .null, .unset] []))
  obtain ⟨T12, X12, e12, st12⟩ := getS2 X11 hx hZ hown (host := "") (Or.inl (wd_41 hw)) Via.refl e11 (SC.ext OL.2) (g := (mkF m 27 #[.val (.ref a), .val (.ref ca), .val (.int (0 : Int32)), .val (.int (3 : Int32)), .val .null, .unset] [])) rfl (hb hby d3_27)
  refine own_up st12 ?_
  show OwnOk p e below _ (T12.setTop (mkF m 30 #[.val (.ref a), .val (.ref ca), .val (.int (0 : Int32)), .val (.int (3 : Int32)), .val .null, .unset] [(.int cz)]))
  refine own_up (fun tx kx => XS.ifNo X12.here hx rfl (hb hby d3_30) rfl ((if0 _ _).trans (feq hcz).1) kx) ?_
  show OwnOk p e below _ (T12.setTop (mkF m 33 #[.val (.ref a), .val (.ref ca), .val (.int (0 : Int32)), .val (.int (3 : Int32)), .val .null, .unset] []))
  refine own_up (fun tx kx => XS.aloadN X12.here hx rfl (hb hby d3_33) rfl rfl kx) ?_
  show OwnOk p e below _ (T12.setTop (mkF m 34 #[.val (.ref a), .val (.ref ca), .val (.int (0 : Int32)), .val (.int (3 : Int32)), .val .null, .unset] [(.ref ca)]))
  refine own_up (fun tx kx => XS.iloadN X12.here hx rfl (hb hby d3_34) rfl kx) ?_
  show OwnOk p e below _ (T12.setTop (mkF m 35 #[.val (.ref a), .val (.ref ca), .val (.int (0 : Int32)), .val (.int (3 : Int32)), .val .null, .unset] [(.int (0 : Int32)), (.ref ca)]))
  refine own_up (fun tx kx => XS.iloadN X12.here hx rfl (hb hby d3_35) rfl kx) ?_
  show OwnOk p e below _ (T12.setTop (mkF m 36 #[.val (.ref a), .val (.ref ca), .val (.int (0 : Int32)), .val (.int (3 : Int32)), .val .null, .unset] [(.int (3 : Int32)), (.int (0 : Int32)), (.ref ca)]))
  refine own_callS X12 hx hZ (y := (⟨"java/lang/StringUTF16", "compress", "([CII)[B"⟩ : MethodName)) hown (wd_60 hw) (wd_61 hw) (wd_62 hw) (wd_63 hw) (by decide) (c_cmp4_3 l Z a0 hw ca kc x0 x1 x2 h0 n0 OL V_ca c0 c1 c2) e12 (argsL := [(.ref ca), (.int (0 : Int32)), (.int (3 : Int32))]) (rest := []) (by rw [hml]; rfl) (lenOf pd_8 rfl) rfl rfl (W := 0) rfl (hb hby d3_36) (by decide) (by decide) (by decide) (by decide) (fun T13 v13 L13 X13 hQ13 => ?_)
  obtain ⟨tt13, kt13, rfl, Nq13, Kq13, gt13, vt13⟩ := hQ13
  have N13 := Fr.app N0 Nq13
  have lt_a_tt13 : a < tt13 := Nat.lt_of_lt_of_le E_a.lt gt13
  have lt_ca_tt13 : ca < tt13 := Nat.lt_of_lt_of_le V_ca.lt gt13
  have n0_tt13 : n0 ≤ tt13 := Nat.le_trans (own_n0 OL) gt13
  have ws_tt13 : h0.size ≤ tt13 := Nat.le_trans KP0.1 gt13
  have OL13 := OL.keep Kq13 all0
  have KP13 := KP0.trans Kq13 all0
  show OwnOk p e below _ (T13.setTop (mkF m 39 #[.val (.ref a), .val (.ref ca), .val (.int (0 : Int32)), .val (.int (3 : Int32)), .val .null, .unset] [(.ref tt13)]))
  refine own_up (fun tx kx => XS.astore X13.here hx rfl (hb hby d3_39) rfl rfl (l' := #[.val (.ref a), .val (.ref ca), .val (.int (0 : Int32)), .val (.int (3 : Int32)), .val .null, .val (.ref tt13)]) rfl kx) ?_
  show OwnOk p e below _ (T13.setTop (mkF m 41 #[.val (.ref a), .val (.ref ca), .val (.int (0 : Int32)), .val (.int (3 : Int32)), .val .null, .val (.ref tt13)] []))
  refine own_up (fun tx kx => XS.aloadN X13.here hx rfl (hb hby d3_41) rfl rfl kx) ?_
  show OwnOk p e below _ (T13.setTop (mkF m 42 #[.val (.ref a), .val (.ref ca), .val (.int (0 : Int32)), .val (.int (3 : Int32)), .val .null, .val (.ref tt13)] [(.ref a)]))
  refine own_up (fun tx kx => XS.aload X13.here hx rfl (hb hby d3_42) rfl rfl kx) ?_
  show OwnOk p e below _ (T13.setTop (mkF m 44 #[.val (.ref a), .val (.ref ca), .val (.int (0 : Int32)), .val (.int (3 : Int32)), .val .null, .val (.ref tt13)] [(.ref tt13), (.ref a)]))
  refine own_up (fun tx kx => XS.iloadN X13.here hx rfl (hb hby d3_44) rfl kx) ?_
  show OwnOk p e below _ (T13.setTop (mkF m 45 #[.val (.ref a), .val (.ref ca), .val (.int (0 : Int32)), .val (.int (3 : Int32)), .val .null, .val (.ref tt13)] [(.int (3 : Int32)), (.ref tt13), (.ref a)]))
  refine own_callS X13 hx hZ (y := (⟨"java/lang/StringUTF16", "coderFromArrayLen", "([BI)B"⟩ : MethodName)) hown (wd_67 hw) (wd_68 hw) (wd_62 hw) (wd_69 hw) (by decide) (c_coder_3 l Z a0 hw tt13 kt13 x0 x1 x2 T13.heap n0 OL13 vt13) rfl (argsL := [(.ref tt13), (.int (3 : Int32))]) (rest := [(.ref a)]) (by rw [hml]; rfl) (lenOf pd_9 rfl) rfl rfl (W := 1) rfl (hb hby d3_45) (by decide) (by decide) (by decide) (by decide) (fun T14 v14 L14 X14 hQ14 => ?_)
  obtain ⟨rfl, Nq14, hh14⟩ := hQ14
  have N14 := Fr.app N13 Nq14
  show OwnOk p e below _ (T14.setTop (mkF m 48 #[.val (.ref a), .val (.ref ca), .val (.int (0 : Int32)), .val (.int (3 : Int32)), .val .null, .val (.ref tt13)] [(.int (0 : Int32)), (.ref a)]))
  have F_coder_a_15 := (F_coder_a.keep Kq13 nin0)
  have E_a_16 := (E_a.keep Kq13)
  obtain ⟨T17, h17, X17, e17, W17, st17⟩ := putFN X14 hx hZ hown (wd_26 hw) Via.refl hh14 F_coder_a_15 E_a_16 (Or.inr ⟨(wd_22 hw), rfl, hnm⟩) (wd_7 hw) (ty := .byte) (v := (.int (0 : Int32))) (v' := (.int (0 : Int32))) (by decide) (by decide) (by decide) (g := (mkF m 48 #[.val (.ref a), .val (.ref ca), .val (.int (0 : Int32)), .val (.int (3 : Int32)), .val .null, .val (.ref tt13)] [(.int (0 : Int32)), (.ref a)])) rfl rfl (hb hby d3_48)
  have Fw17 := Fld.same W17 F_coder_a_15
  have N17 := Fr.snoc X17 N14 n0_a
  have OL18 := OL13.wr W17 n0_a
  have KP18 := KP13.wr W17 (Or.inl (List.mem_of_getElem? (i := 0) rfl))
  refine own_up st17 ?_
  show OwnOk p e below _ (T17.setTop (mkF m 51 #[.val (.ref a), .val (.ref ca), .val (.int (0 : Int32)), .val (.int (3 : Int32)), .val .null, .val (.ref tt13)] []))
  refine own_up (fun tx kx => XS.aloadN X17.here hx rfl (hb hby d3_51) rfl rfl kx) ?_
  show OwnOk p e below _ (T17.setTop (mkF m 52 #[.val (.ref a), .val (.ref ca), .val (.int (0 : Int32)), .val (.int (3 : Int32)), .val .null, .val (.ref tt13)] [(.ref a)]))
  refine own_up (fun tx kx => XS.aload X17.here hx rfl (hb hby d3_52) rfl rfl kx) ?_
  show OwnOk p e below _ (T17.setTop (mkF m 54 #[.val (.ref a), .val (.ref ca), .val (.int (0 : Int32)), .val (.int (3 : Int32)), .val .null, .val (.ref tt13)] [(.ref tt13), (.ref a)]))
  have F_value_a_19 := ((F_value_a.keep Kq13 nin0).other W17 (Or.inr (slot_ne (Or.inr (wd_21 hw)) (Or.inr (wd_22 hw)) (by decide) (t := (.array .byte)) (t' := .byte) (by decide) (by decide))))
  have E_a_20 := (E_a_16.wr W17)
  obtain ⟨T21, h21, X21, e21, W21, st21⟩ := putF X17 hx hZ hown (host := "") (Or.inl (wd_25 hw)) Via.refl e17 F_value_a_19 E_a_20 (Or.inr ⟨(wd_21 hw), rfl, hnm⟩) (wd_7 hw) (ty := (.array .byte)) (by decide) rfl rfl (g := (mkF m 54 #[.val (.ref a), .val (.ref ca), .val (.int (0 : Int32)), .val (.int (3 : Int32)), .val .null, .val (.ref tt13)] [(.ref tt13), (.ref a)])) rfl rfl (hb hby d3_54)
  have Fw21 := Fld.same W21 F_value_a_19
  have N21 := Fr.snoc X21 N17 n0_a
  have OL22 := OL18.wr W21 n0_a
  have KP22 := KP18.wr W21 (Or.inl (List.mem_of_getElem? (i := 0) rfl))
  refine own_up st21 ?_
  show OwnOk p e below _ (T21.setTop (mkF m 57 #[.val (.ref a), .val (.ref ca), .val (.int (0 : Int32)), .val (.int (3 : Int32)), .val .null, .val (.ref tt13)] []))
  have E_a_23 := (E_a_20.wr W21)
  have F_coder_a_24 := (Fw17.other W21 (Or.inr (slot_ne (Or.inr (wd_22 hw)) (Or.inr (wd_21 hw)) (by decide) (t := .byte) (t' := (.array .byte)) (by decide) (by decide))))
  have V_tt13_25 := ((vt13.other W17 (Nat.ne_of_gt lt_a_tt13)).other W21 (Nat.ne_of_gt lt_a_tt13))
  refine own_retV X21 hx (show meth.sig.returnType = none from hret) hlk (hb hby d3_57) e21 (Nat.le_of_ble_eq_true rfl) (Nat.le_of_ble_eq_true rfl) ?_
  exact ⟨rfl, N21, KP22, tt13, _, ws_tt13, E_a_23, Fw21, F_coder_a_24, V_tt13_25⟩
def Q_c_init1_3 (Z : State) (a : Addr) (x0 x1 x2 : Int32) (h0 : Heap) (n0 : Nat) (v : Option Value) (h : Heap) (L : List Loc) : Prop := v = none ∧ Fr n0 L ∧ Keep h0 h [a] ∧ ∃ (u : Addr) (ku : ClassId), h0.size ≤ u ∧ (Exa Z h a "java/lang/String") ∧ (Fld Z h a "java/lang/String" "value" "[B" (.ref u)) ∧ (Fld Z h a "java/lang/String" "coder" "B" (.int (0 : Int32))) ∧ (Arv Z h u ku .byte (Int32.ofNat 3) (own_F 3 (fun j => [(nar .byte (x0.toInt8.toInt32)), (nar .byte (x1.toInt8.toInt32)), (nar .byte (x2.toInt8.toInt32))].getD j 0)) (.int (0 : Int32)))
set_option maxRecDepth 65536 in
set_option maxHeartbeats 40000000 in
theorem c_init1_3 (l : Launch) (Z : State) (a0 : Array Value) (hw : ∀ d ∈ tables_1, d.before a0 Z = true) (a ca : Addr) (kc : ClassId) (x0 x1 x2 : Int32) (cz : Int32) (h0 : Heap) (n0 : Nat) (OL : Old Z n0 h0) (SC : Sta Z Z.heap "java/lang/String" "COMPACT_STRINGS" "Z" (.int cz)) (hcz : ¬ cz = 0) (E_a : Exa Z h0 a "java/lang/String") (F_value_a : Fld Z h0 a "java/lang/String" "value" "[B" .null) (F_coder_a : Fld Z h0 a "java/lang/String" "coder" "B" (.int (0 : Int32))) (n0_a : n0 ≤ a) (V_ca : Arv Z h0 ca kc .char (3 : Int32) [(.int x0), (.int x1), (.int x2)] (.int (0 : Int32))) (ne_a_ca : a ≠ ca) (c0 : ¬ (255 : Int32) < x0) (c1 : ¬ (255 : Int32) < x1) (c2 : ¬ (255 : Int32) < x2) :
    own_Met l Z (⟨"java/lang/String", "<init>", "([C)V"⟩ : MethodName) jdk_42_method_3_code 2 none ({ frames := 3, cells := 1, slots := 3, locals := 65 } : Room) #[(.ref a), (.ref ca)] h0 (Q_c_init1_3 Z a x0 x1 x2 h0 n0) := by
  refine own_body (L0 := #[.val (.ref a), .val (.ref ca)]) (plainFor_of_name (by first | (simp [plainName, overriddenIn]; done) | decide +kernel)) (fun m => by first | (simp [entryFrame, mkF, argsToLocals, Value.category]; done) | rfl) ?_
  intro p e s m below meth c s₁ hx hby hml hZ hown hnm hret hlk X0 e0
  have N0 := Fr.nil n0
  have Z0 : n0 ≤ h0.size := OL.1 ▸ OL.2.1
  show OwnOk p e below _ (s₁.setTop (mkF m 0 #[.val (.ref a), .val (.ref ca)] []))
  have KP0 : Keep h0 h0 [a] := Keep.refl h0 _
  refine own_up (fun tx kx => XS.aloadN X0.here hx rfl (hb hby d2_0) rfl rfl kx) ?_
  show OwnOk p e below _ (s₁.setTop (mkF m 1 #[.val (.ref a), .val (.ref ca)] [(.ref a)]))
  refine own_up (fun tx kx => XS.aloadN X0.here hx rfl (hb hby d2_1) rfl rfl kx) ?_
  show OwnOk p e below _ (s₁.setTop (mkF m 2 #[.val (.ref a), .val (.ref ca)] [(.ref ca), (.ref a)]))
  refine own_up (fun tx kx => XS.iconst X0.here hx rfl (hb hby d2_2) kx) ?_
  show OwnOk p e below _ (s₁.setTop (mkF m 3 #[.val (.ref a), .val (.ref ca)] [(.int (0 : Int32)), (.ref ca), (.ref a)]))
  refine own_up (fun tx kx => XS.aloadN X0.here hx rfl (hb hby d2_3) rfl rfl kx) ?_
  show OwnOk p e below _ (s₁.setTop (mkF m 4 #[.val (.ref a), .val (.ref ca)] [(.ref ca), (.int (0 : Int32)), (.ref ca), (.ref a)]))
  obtain ⟨cl11, Ar11, qc11, Sz11, Nn11, Hs11, Gf11⟩ := id V_ca
  have hlen11 : cl11.slots.size.toInt32 = (3 : Int32) := len_of Sz11 Nn11
  refine own_up (fun tx kx => X0.arraylength hx (own_ar e0 Ar11.1) (State.isArrayOf_alike hZ.alike Ar11.2.1) (g := (mkF m 4 #[.val (.ref a), .val (.ref ca)] [(.ref ca), (.int (0 : Int32)), (.ref ca), (.ref a)])) rfl rfl (hb hby d2_4) _ kx) ?_
  rw [hlen11]
  show OwnOk p e below _ (s₁.setTop (mkF m 5 #[.val (.ref a), .val (.ref ca)] [(.int (3 : Int32)), (.int (0 : Int32)), (.ref ca), (.ref a)]))
  refine own_up (fun tx kx => XS.aconstNull X0.here hx rfl (hb hby d2_5) kx) ?_
  show OwnOk p e below _ (s₁.setTop (mkF m 6 #[.val (.ref a), .val (.ref ca)] [.null, (.int (3 : Int32)), (.int (0 : Int32)), (.ref ca), (.ref a)]))
  refine own_callC X0 hx hZ (y := (⟨"java/lang/String", "<init>", "([CIILjava/lang/Void;)V"⟩ : MethodName)) rfl hown (wd_12 hw) (wd_13 hw) (wd_8 hw) (wd_15 hw) (by decide) (c_init2_3 l Z a0 hw a ca kc x0 x1 x2 cz h0 n0 OL SC hcz E_a F_value_a F_coder_a n0_a V_ca ne_a_ca c0 c1 c2) e0 (argsL := [(.ref ca), (.int (0 : Int32)), (.int (3 : Int32)), .null]) (rest := []) (a := a) (by rw [hml]; rfl) (lenOf pd_10 rfl) rfl rfl (W := 0) rfl (hb hby d2_6) (by decide) (by decide) (by decide) (by decide) (fun T12 v12 L12 X12 hQ12 => ?_)
  obtain ⟨rfl, Nq12, Kq12, uu12, ku12, gu12, ea12, fv12, fc12, vu12⟩ := hQ12
  have N12 := Fr.app N0 Nq12
  have OL12 := OL.keep Kq12 (allS n0_a all0)
  have KP12 := KP0.trans Kq12 (allS (Or.inl (List.mem_of_getElem? (i := 0) rfl)) all0)
  show OwnOk p e below _ (T12.setTop (mkF m 9 #[.val (.ref a), .val (.ref ca)] []))
  refine own_retV X12 hx (show meth.sig.returnType = none from hret) hlk (hb hby d2_9) rfl (Nat.le_of_ble_eq_true rfl) (Nat.le_of_ble_eq_true rfl) ?_
  exact ⟨rfl, N12, KP12, uu12, ku12, gu12, ea12, fv12, fc12, vu12⟩
def Q_c_cmp5_4 (Z : State) (t : Addr) (kt : ClassId) (x0 x1 x2 x3 : Int32) (h0 : Heap) (n0 : Nat) (v : Option Value) (h : Heap) (L : List Loc) : Prop := v = some (.int (4 : Int32)) ∧ Fr n0 L ∧ Keep h0 h [t] ∧ Arv Z h t kt .byte (4 : Int32) [(.int (nar .byte (x0.toInt8.toInt32))), (.int (nar .byte (x1.toInt8.toInt32))), (.int (nar .byte (x2.toInt8.toInt32))), (.int (nar .byte (x3.toInt8.toInt32)))] (.int (0 : Int32))
set_option maxRecDepth 65536 in
set_option maxHeartbeats 40000000 in
theorem c_cmp5_4 (l : Launch) (Z : State) (a0 : Array Value) (hw : ∀ d ∈ tables_1, d.before a0 Z = true) (ca t : Addr) (kc kt : ClassId) (x0 x1 x2 x3 : Int32) (h0 : Heap) (n0 : Nat) (OL : Old Z n0 h0) (V_ca : Arv Z h0 ca kc .char (4 : Int32) [(.int x0), (.int x1), (.int x2), (.int x3)] (.int (0 : Int32))) (V_t : Arv Z h0 t kt .byte (4 : Int32) [(.int (0 : Int32)), (.int (0 : Int32)), (.int (0 : Int32)), (.int (0 : Int32))] (.int (0 : Int32))) (n0_t : n0 ≤ t) (ne_ca_t : ca ≠ t) (c0 : ¬ (255 : Int32) < x0) (c1 : ¬ (255 : Int32) < x1) (c2 : ¬ (255 : Int32) < x2) (c3 : ¬ (255 : Int32) < x3) :
    own_Met l Z (⟨"java/lang/StringUTF16", "compress", "([CI[BII)I"⟩ : MethodName) jdk_52_method_21_code 7 (some .int) ({ frames := 0, cells := 0, slots := 0, locals := 0 } : Room) #[(.ref ca), (.int (0 : Int32)), (.ref t), (.int (0 : Int32)), (.int (4 : Int32))] h0 (Q_c_cmp5_4 Z t kt x0 x1 x2 x3 h0 n0) := by
  refine own_body (L0 := #[.val (.ref ca), .val (.int (0 : Int32)), .val (.ref t), .val (.int (0 : Int32)), .val (.int (4 : Int32)), .unset, .unset]) (plainFor_of_name (by first | (simp [plainName, overriddenIn]; done) | decide +kernel)) (fun m => by first | (simp [entryFrame, mkF, argsToLocals, Value.category]; done) | rfl) ?_
  intro p e s m below meth c s₁ hx hby hml hZ hown hnm hret hlk X0 e0
  have N0 := Fr.nil n0
  have Z0 : n0 ≤ h0.size := OL.1 ▸ OL.2.1
  show OwnOk p e below _ (s₁.setTop (mkF m 0 #[.val (.ref ca), .val (.int (0 : Int32)), .val (.ref t), .val (.int (0 : Int32)), .val (.int (4 : Int32)), .unset, .unset] []))
  have KP0 : Keep h0 h0 [t] := Keep.refl h0 _
  refine own_up (fun tx kx => XS.iconst X0.here hx rfl (hb hby d13_0) kx) ?_
  show OwnOk p e below _ (s₁.setTop (mkF m 1 #[.val (.ref ca), .val (.int (0 : Int32)), .val (.ref t), .val (.int (0 : Int32)), .val (.int (4 : Int32)), .unset, .unset] [(.int (0 : Int32))]))
  refine own_up (fun tx kx => XS.istore X0.here hx rfl (hb hby d13_1) rfl (l' := #[.val (.ref ca), .val (.int (0 : Int32)), .val (.ref t), .val (.int (0 : Int32)), .val (.int (4 : Int32)), .val (.int (0 : Int32)), .unset]) rfl kx) ?_
  show OwnOk p e below _ (s₁.setTop (mkF m 3 #[.val (.ref ca), .val (.int (0 : Int32)), .val (.ref t), .val (.int (0 : Int32)), .val (.int (4 : Int32)), .val (.int (0 : Int32)), .unset] []))
  refine own_up (fun tx kx => XS.iload X0.here hx rfl (hb hby d13_3) rfl kx) ?_
  show OwnOk p e below _ (s₁.setTop (mkF m 5 #[.val (.ref ca), .val (.int (0 : Int32)), .val (.ref t), .val (.int (0 : Int32)), .val (.int (4 : Int32)), .val (.int (0 : Int32)), .unset] [(.int (0 : Int32))]))
  refine own_up (fun tx kx => XS.iload X0.here hx rfl (hb hby d13_5) rfl kx) ?_
  show OwnOk p e below _ (s₁.setTop (mkF m 7 #[.val (.ref ca), .val (.int (0 : Int32)), .val (.ref t), .val (.int (0 : Int32)), .val (.int (4 : Int32)), .val (.int (0 : Int32)), .unset] [(.int (4 : Int32)), (.int (0 : Int32))]))
  refine own_up (fun tx kx => XS.icmpNo X0.here hx rfl (hb hby d13_7) rfl (tlt (by decide)).2.1 kx) ?_
  show OwnOk p e below _ (s₁.setTop (mkF m 10 #[.val (.ref ca), .val (.int (0 : Int32)), .val (.ref t), .val (.int (0 : Int32)), .val (.int (4 : Int32)), .val (.int (0 : Int32)), .unset] []))
  refine own_up (fun tx kx => XS.aloadN X0.here hx rfl (hb hby d13_10) rfl rfl kx) ?_
  show OwnOk p e below _ (s₁.setTop (mkF m 11 #[.val (.ref ca), .val (.int (0 : Int32)), .val (.ref t), .val (.int (0 : Int32)), .val (.int (4 : Int32)), .val (.int (0 : Int32)), .unset] [(.ref ca)]))
  refine own_up (fun tx kx => XS.iloadN X0.here hx rfl (hb hby d13_11) rfl kx) ?_
  show OwnOk p e below _ (s₁.setTop (mkF m 12 #[.val (.ref ca), .val (.int (0 : Int32)), .val (.ref t), .val (.int (0 : Int32)), .val (.int (4 : Int32)), .val (.int (0 : Int32)), .unset] [(.int (0 : Int32)), (.ref ca)]))
  obtain ⟨cl11, Ar11, qc11, Sz11, Nn11, Hs11, Gf11⟩ := id V_ca
  have hin11 : ¬ ((0 : Int32) < 0 ∨ cl11.slots.size ≤ ((0 : Int32)).toNatClampNeg) := inb_of Sz11 ⟨by decide, by decide⟩
  have hat11 : cl11.slots[((0 : Int32)).toNatClampNeg]? = some (.int x0) := Hs11.at hin11 rfl
  refine own_up (fun tx kx => X0.caload hx (j := (0 : Int32)) (v := (.int x0)) (own_ar e0 Ar11.1) (State.isArrayOf_alike hZ.alike Ar11.2.1) Ar11.2.2 hin11 hat11 (g := (mkF m 12 #[.val (.ref ca), .val (.int (0 : Int32)), .val (.ref t), .val (.int (0 : Int32)), .val (.int (4 : Int32)), .val (.int (0 : Int32)), .unset] [(.int (0 : Int32)), (.ref ca)])) rfl rfl (hb hby d13_12) _ kx) ?_
  show OwnOk p e below _ (s₁.setTop (mkF m 13 #[.val (.ref ca), .val (.int (0 : Int32)), .val (.ref t), .val (.int (0 : Int32)), .val (.int (4 : Int32)), .val (.int (0 : Int32)), .unset] [(.int x0)]))
  refine own_up (fun tx kx => XS.istore X0.here hx rfl (hb hby d13_13) rfl (l' := #[.val (.ref ca), .val (.int (0 : Int32)), .val (.ref t), .val (.int (0 : Int32)), .val (.int (4 : Int32)), .val (.int (0 : Int32)), .val (.int x0)]) rfl kx) ?_
  show OwnOk p e below _ (s₁.setTop (mkF m 15 #[.val (.ref ca), .val (.int (0 : Int32)), .val (.ref t), .val (.int (0 : Int32)), .val (.int (4 : Int32)), .val (.int (0 : Int32)), .val (.int x0)] []))
  refine own_up (fun tx kx => XS.iload X0.here hx rfl (hb hby d13_15) rfl kx) ?_
  show OwnOk p e below _ (s₁.setTop (mkF m 17 #[.val (.ref ca), .val (.int (0 : Int32)), .val (.ref t), .val (.int (0 : Int32)), .val (.int (4 : Int32)), .val (.int (0 : Int32)), .val (.int x0)] [(.int x0)]))
  refine own_up (fun tx kx => XS.sipush X0.here hx rfl (hb hby d13_17) kx) ?_
  show OwnOk p e below _ (s₁.setTop (mkF m 20 #[.val (.ref ca), .val (.int (0 : Int32)), .val (.ref t), .val (.int (0 : Int32)), .val (.int (4 : Int32)), .val (.int (0 : Int32)), .val (.int x0)] [(.int (255 : Int32)), (.int x0)]))
  refine own_up (fun tx kx => XS.icmpYes X0.here hx rfl (pc0 := 20) (pc' := 26) rfl (hb hby d13_20) rfl (flt c0).2.2.2 (by decide) (by decide) kx) ?_
  show OwnOk p e below _ (s₁.setTop (mkF m 26 #[.val (.ref ca), .val (.int (0 : Int32)), .val (.ref t), .val (.int (0 : Int32)), .val (.int (4 : Int32)), .val (.int (0 : Int32)), .val (.int x0)] []))
  refine own_up (fun tx kx => XS.aloadN X0.here hx rfl (hb hby d13_26) rfl rfl kx) ?_
  show OwnOk p e below _ (s₁.setTop (mkF m 27 #[.val (.ref ca), .val (.int (0 : Int32)), .val (.ref t), .val (.int (0 : Int32)), .val (.int (4 : Int32)), .val (.int (0 : Int32)), .val (.int x0)] [(.ref t)]))
  refine own_up (fun tx kx => XS.iloadN X0.here hx rfl (hb hby d13_27) rfl kx) ?_
  show OwnOk p e below _ (s₁.setTop (mkF m 28 #[.val (.ref ca), .val (.int (0 : Int32)), .val (.ref t), .val (.int (0 : Int32)), .val (.int (4 : Int32)), .val (.int (0 : Int32)), .val (.int x0)] [(.int (0 : Int32)), (.ref t)]))
  refine own_up (fun tx kx => XS.iload X0.here hx rfl (hb hby d13_28) rfl kx) ?_
  show OwnOk p e below _ (s₁.setTop (mkF m 30 #[.val (.ref ca), .val (.int (0 : Int32)), .val (.ref t), .val (.int (0 : Int32)), .val (.int (4 : Int32)), .val (.int (0 : Int32)), .val (.int x0)] [(.int x0), (.int (0 : Int32)), (.ref t)]))
  refine own_up (fun tx kx => XS.i2b X0.here hx rfl (hb hby d13_30) rfl kx) ?_
  show OwnOk p e below _ (s₁.setTop (mkF m 31 #[.val (.ref ca), .val (.int (0 : Int32)), .val (.ref t), .val (.int (0 : Int32)), .val (.int (4 : Int32)), .val (.int (0 : Int32)), .val (.int x0)] [(.int (x0.toInt8.toInt32)), (.int (0 : Int32)), (.ref t)]))
  obtain ⟨cl12, Ar12, qc12, Sz12, Nn12, Hs12, Gf12⟩ := id V_t
  have hin12 : ¬ ((0 : Int32) < 0 ∨ cl12.slots.size ≤ ((0 : Int32)).toNatClampNeg) := inb_of Sz12 ⟨by decide, by decide⟩
  obtain ⟨T13, h13, X13, e13, W13, st13⟩ := stB X0 hx hZ e0 Ar12 (j := (0 : Int32)) hin12 (g := (mkF m 31 #[.val (.ref ca), .val (.int (0 : Int32)), .val (.ref t), .val (.int (0 : Int32)), .val (.int (4 : Int32)), .val (.int (0 : Int32)), .val (.int x0)] [(.int (x0.toInt8.toInt32)), (.int (0 : Int32)), (.ref t)])) rfl rfl (hb hby d13_31)
  have V_t_13 : Arv Z h13 t kt .byte (4 : Int32) [(.int (nar .byte (x0.toInt8.toInt32))), (.int (0 : Int32)), (.int (0 : Int32)), (.int (0 : Int32))] (.int (0 : Int32)) := Arv.set Ar12 qc12 Sz12 Nn12 Hs12 Gf12 (fits_nar_byte _) W13 0 rfl (Nat.le_of_ble_eq_true rfl)
  have N13 := Fr.snoc X13 N0 n0_t
  have OL14 := OL.wr W13 n0_t
  have KP14 := KP0.wr W13 (Or.inl (List.mem_of_getElem? (i := 0) rfl))
  refine own_up st13 ?_
  show OwnOk p e below _ (T13.setTop (mkF m 32 #[.val (.ref ca), .val (.int (0 : Int32)), .val (.ref t), .val (.int (0 : Int32)), .val (.int (4 : Int32)), .val (.int (0 : Int32)), .val (.int x0)] []))
  have hi32_15 : ((0 : Int32) + (1 : Int32)) = (1 : Int32) := by decide
  refine own_up (fun tx kx => XS.iinc X13.here hx rfl (hb hby d13_32) rfl (l' := #[.val (.ref ca), .val (.int ((0 : Int32) + (1 : Int32))), .val (.ref t), .val (.int (0 : Int32)), .val (.int (4 : Int32)), .val (.int (0 : Int32)), .val (.int x0)]) rfl kx) ?_
  rw [hi32_15]
  show OwnOk p e below _ (T13.setTop (mkF m 35 #[.val (.ref ca), .val (.int (1 : Int32)), .val (.ref t), .val (.int (0 : Int32)), .val (.int (4 : Int32)), .val (.int (0 : Int32)), .val (.int x0)] []))
  have hi35_16 : ((0 : Int32) + (1 : Int32)) = (1 : Int32) := by decide
  refine own_up (fun tx kx => XS.iinc X13.here hx rfl (hb hby d13_35) rfl (l' := #[.val (.ref ca), .val (.int (1 : Int32)), .val (.ref t), .val (.int ((0 : Int32) + (1 : Int32))), .val (.int (4 : Int32)), .val (.int (0 : Int32)), .val (.int x0)]) rfl kx) ?_
  rw [hi35_16]
  show OwnOk p e below _ (T13.setTop (mkF m 38 #[.val (.ref ca), .val (.int (1 : Int32)), .val (.ref t), .val (.int (1 : Int32)), .val (.int (4 : Int32)), .val (.int (0 : Int32)), .val (.int x0)] []))
  have hi38_17 : ((0 : Int32) + (1 : Int32)) = (1 : Int32) := by decide
  refine own_up (fun tx kx => XS.iinc X13.here hx rfl (hb hby d13_38) rfl (l' := #[.val (.ref ca), .val (.int (1 : Int32)), .val (.ref t), .val (.int (1 : Int32)), .val (.int (4 : Int32)), .val (.int ((0 : Int32) + (1 : Int32))), .val (.int x0)]) rfl kx) ?_
  rw [hi38_17]
  show OwnOk p e below _ (T13.setTop (mkF m 41 #[.val (.ref ca), .val (.int (1 : Int32)), .val (.ref t), .val (.int (1 : Int32)), .val (.int (4 : Int32)), .val (.int (1 : Int32)), .val (.int x0)] []))
  refine own_up (fun tx kx => XS.goto X13.here hx rfl (pc0 := 41) (pc' := 3) rfl (hb hby d13_41) (by decide) (by decide) kx) ?_
  show OwnOk p e below _ (T13.setTop (mkF m 3 #[.val (.ref ca), .val (.int (1 : Int32)), .val (.ref t), .val (.int (1 : Int32)), .val (.int (4 : Int32)), .val (.int (1 : Int32)), .val (.int x0)] []))
  refine own_up (fun tx kx => XS.iload X13.here hx rfl (hb hby d13_3) rfl kx) ?_
  show OwnOk p e below _ (T13.setTop (mkF m 5 #[.val (.ref ca), .val (.int (1 : Int32)), .val (.ref t), .val (.int (1 : Int32)), .val (.int (4 : Int32)), .val (.int (1 : Int32)), .val (.int x0)] [(.int (1 : Int32))]))
  refine own_up (fun tx kx => XS.iload X13.here hx rfl (hb hby d13_5) rfl kx) ?_
  show OwnOk p e below _ (T13.setTop (mkF m 7 #[.val (.ref ca), .val (.int (1 : Int32)), .val (.ref t), .val (.int (1 : Int32)), .val (.int (4 : Int32)), .val (.int (1 : Int32)), .val (.int x0)] [(.int (4 : Int32)), (.int (1 : Int32))]))
  refine own_up (fun tx kx => XS.icmpNo X13.here hx rfl (hb hby d13_7) rfl (tlt (by decide)).2.1 kx) ?_
  show OwnOk p e below _ (T13.setTop (mkF m 10 #[.val (.ref ca), .val (.int (1 : Int32)), .val (.ref t), .val (.int (1 : Int32)), .val (.int (4 : Int32)), .val (.int (1 : Int32)), .val (.int x0)] []))
  refine own_up (fun tx kx => XS.aloadN X13.here hx rfl (hb hby d13_10) rfl rfl kx) ?_
  show OwnOk p e below _ (T13.setTop (mkF m 11 #[.val (.ref ca), .val (.int (1 : Int32)), .val (.ref t), .val (.int (1 : Int32)), .val (.int (4 : Int32)), .val (.int (1 : Int32)), .val (.int x0)] [(.ref ca)]))
  refine own_up (fun tx kx => XS.iloadN X13.here hx rfl (hb hby d13_11) rfl kx) ?_
  show OwnOk p e below _ (T13.setTop (mkF m 12 #[.val (.ref ca), .val (.int (1 : Int32)), .val (.ref t), .val (.int (1 : Int32)), .val (.int (4 : Int32)), .val (.int (1 : Int32)), .val (.int x0)] [(.int (1 : Int32)), (.ref ca)]))
  have V_ca_18 := (V_ca.other W13 ne_ca_t)
  obtain ⟨cl19, Ar19, qc19, Sz19, Nn19, Hs19, Gf19⟩ := id V_ca_18
  have hin19 : ¬ ((1 : Int32) < 0 ∨ cl19.slots.size ≤ ((1 : Int32)).toNatClampNeg) := inb_of Sz19 ⟨by decide, by decide⟩
  have hat19 : cl19.slots[((1 : Int32)).toNatClampNeg]? = some (.int x1) := Hs19.at hin19 rfl
  refine own_up (fun tx kx => X13.caload hx (j := (1 : Int32)) (v := (.int x1)) (own_ar e13 Ar19.1) (State.isArrayOf_alike hZ.alike Ar19.2.1) Ar19.2.2 hin19 hat19 (g := (mkF m 12 #[.val (.ref ca), .val (.int (1 : Int32)), .val (.ref t), .val (.int (1 : Int32)), .val (.int (4 : Int32)), .val (.int (1 : Int32)), .val (.int x0)] [(.int (1 : Int32)), (.ref ca)])) rfl rfl (hb hby d13_12) _ kx) ?_
  show OwnOk p e below _ (T13.setTop (mkF m 13 #[.val (.ref ca), .val (.int (1 : Int32)), .val (.ref t), .val (.int (1 : Int32)), .val (.int (4 : Int32)), .val (.int (1 : Int32)), .val (.int x0)] [(.int x1)]))
  refine own_up (fun tx kx => XS.istore X13.here hx rfl (hb hby d13_13) rfl (l' := #[.val (.ref ca), .val (.int (1 : Int32)), .val (.ref t), .val (.int (1 : Int32)), .val (.int (4 : Int32)), .val (.int (1 : Int32)), .val (.int x1)]) rfl kx) ?_
  show OwnOk p e below _ (T13.setTop (mkF m 15 #[.val (.ref ca), .val (.int (1 : Int32)), .val (.ref t), .val (.int (1 : Int32)), .val (.int (4 : Int32)), .val (.int (1 : Int32)), .val (.int x1)] []))
  refine own_up (fun tx kx => XS.iload X13.here hx rfl (hb hby d13_15) rfl kx) ?_
  show OwnOk p e below _ (T13.setTop (mkF m 17 #[.val (.ref ca), .val (.int (1 : Int32)), .val (.ref t), .val (.int (1 : Int32)), .val (.int (4 : Int32)), .val (.int (1 : Int32)), .val (.int x1)] [(.int x1)]))
  refine own_up (fun tx kx => XS.sipush X13.here hx rfl (hb hby d13_17) kx) ?_
  show OwnOk p e below _ (T13.setTop (mkF m 20 #[.val (.ref ca), .val (.int (1 : Int32)), .val (.ref t), .val (.int (1 : Int32)), .val (.int (4 : Int32)), .val (.int (1 : Int32)), .val (.int x1)] [(.int (255 : Int32)), (.int x1)]))
  refine own_up (fun tx kx => XS.icmpYes X13.here hx rfl (pc0 := 20) (pc' := 26) rfl (hb hby d13_20) rfl (flt c1).2.2.2 (by decide) (by decide) kx) ?_
  show OwnOk p e below _ (T13.setTop (mkF m 26 #[.val (.ref ca), .val (.int (1 : Int32)), .val (.ref t), .val (.int (1 : Int32)), .val (.int (4 : Int32)), .val (.int (1 : Int32)), .val (.int x1)] []))
  refine own_up (fun tx kx => XS.aloadN X13.here hx rfl (hb hby d13_26) rfl rfl kx) ?_
  show OwnOk p e below _ (T13.setTop (mkF m 27 #[.val (.ref ca), .val (.int (1 : Int32)), .val (.ref t), .val (.int (1 : Int32)), .val (.int (4 : Int32)), .val (.int (1 : Int32)), .val (.int x1)] [(.ref t)]))
  refine own_up (fun tx kx => XS.iloadN X13.here hx rfl (hb hby d13_27) rfl kx) ?_
  show OwnOk p e below _ (T13.setTop (mkF m 28 #[.val (.ref ca), .val (.int (1 : Int32)), .val (.ref t), .val (.int (1 : Int32)), .val (.int (4 : Int32)), .val (.int (1 : Int32)), .val (.int x1)] [(.int (1 : Int32)), (.ref t)]))
  refine own_up (fun tx kx => XS.iload X13.here hx rfl (hb hby d13_28) rfl kx) ?_
  show OwnOk p e below _ (T13.setTop (mkF m 30 #[.val (.ref ca), .val (.int (1 : Int32)), .val (.ref t), .val (.int (1 : Int32)), .val (.int (4 : Int32)), .val (.int (1 : Int32)), .val (.int x1)] [(.int x1), (.int (1 : Int32)), (.ref t)]))
  refine own_up (fun tx kx => XS.i2b X13.here hx rfl (hb hby d13_30) rfl kx) ?_
  show OwnOk p e below _ (T13.setTop (mkF m 31 #[.val (.ref ca), .val (.int (1 : Int32)), .val (.ref t), .val (.int (1 : Int32)), .val (.int (4 : Int32)), .val (.int (1 : Int32)), .val (.int x1)] [(.int (x1.toInt8.toInt32)), (.int (1 : Int32)), (.ref t)]))
  obtain ⟨cl20, Ar20, qc20, Sz20, Nn20, Hs20, Gf20⟩ := id V_t_13
  have hin20 : ¬ ((1 : Int32) < 0 ∨ cl20.slots.size ≤ ((1 : Int32)).toNatClampNeg) := inb_of Sz20 ⟨by decide, by decide⟩
  obtain ⟨T21, h21, X21, e21, W21, st21⟩ := stB X13 hx hZ e13 Ar20 (j := (1 : Int32)) hin20 (g := (mkF m 31 #[.val (.ref ca), .val (.int (1 : Int32)), .val (.ref t), .val (.int (1 : Int32)), .val (.int (4 : Int32)), .val (.int (1 : Int32)), .val (.int x1)] [(.int (x1.toInt8.toInt32)), (.int (1 : Int32)), (.ref t)])) rfl rfl (hb hby d13_31)
  have V_t_21 : Arv Z h21 t kt .byte (4 : Int32) [(.int (nar .byte (x0.toInt8.toInt32))), (.int (nar .byte (x1.toInt8.toInt32))), (.int (0 : Int32)), (.int (0 : Int32))] (.int (0 : Int32)) := Arv.set Ar20 qc20 Sz20 Nn20 Hs20 Gf20 (fits_nar_byte _) W21 1 rfl (Nat.le_of_ble_eq_true rfl)
  have N21 := Fr.snoc X21 N13 n0_t
  have OL22 := OL14.wr W21 n0_t
  have KP22 := KP14.wr W21 (Or.inl (List.mem_of_getElem? (i := 0) rfl))
  refine own_up st21 ?_
  show OwnOk p e below _ (T21.setTop (mkF m 32 #[.val (.ref ca), .val (.int (1 : Int32)), .val (.ref t), .val (.int (1 : Int32)), .val (.int (4 : Int32)), .val (.int (1 : Int32)), .val (.int x1)] []))
  have hi32_23 : ((1 : Int32) + (1 : Int32)) = (2 : Int32) := by decide
  refine own_up (fun tx kx => XS.iinc X21.here hx rfl (hb hby d13_32) rfl (l' := #[.val (.ref ca), .val (.int ((1 : Int32) + (1 : Int32))), .val (.ref t), .val (.int (1 : Int32)), .val (.int (4 : Int32)), .val (.int (1 : Int32)), .val (.int x1)]) rfl kx) ?_
  rw [hi32_23]
  show OwnOk p e below _ (T21.setTop (mkF m 35 #[.val (.ref ca), .val (.int (2 : Int32)), .val (.ref t), .val (.int (1 : Int32)), .val (.int (4 : Int32)), .val (.int (1 : Int32)), .val (.int x1)] []))
  have hi35_24 : ((1 : Int32) + (1 : Int32)) = (2 : Int32) := by decide
  refine own_up (fun tx kx => XS.iinc X21.here hx rfl (hb hby d13_35) rfl (l' := #[.val (.ref ca), .val (.int (2 : Int32)), .val (.ref t), .val (.int ((1 : Int32) + (1 : Int32))), .val (.int (4 : Int32)), .val (.int (1 : Int32)), .val (.int x1)]) rfl kx) ?_
  rw [hi35_24]
  show OwnOk p e below _ (T21.setTop (mkF m 38 #[.val (.ref ca), .val (.int (2 : Int32)), .val (.ref t), .val (.int (2 : Int32)), .val (.int (4 : Int32)), .val (.int (1 : Int32)), .val (.int x1)] []))
  have hi38_25 : ((1 : Int32) + (1 : Int32)) = (2 : Int32) := by decide
  refine own_up (fun tx kx => XS.iinc X21.here hx rfl (hb hby d13_38) rfl (l' := #[.val (.ref ca), .val (.int (2 : Int32)), .val (.ref t), .val (.int (2 : Int32)), .val (.int (4 : Int32)), .val (.int ((1 : Int32) + (1 : Int32))), .val (.int x1)]) rfl kx) ?_
  rw [hi38_25]
  show OwnOk p e below _ (T21.setTop (mkF m 41 #[.val (.ref ca), .val (.int (2 : Int32)), .val (.ref t), .val (.int (2 : Int32)), .val (.int (4 : Int32)), .val (.int (2 : Int32)), .val (.int x1)] []))
  refine own_up (fun tx kx => XS.goto X21.here hx rfl (pc0 := 41) (pc' := 3) rfl (hb hby d13_41) (by decide) (by decide) kx) ?_
  show OwnOk p e below _ (T21.setTop (mkF m 3 #[.val (.ref ca), .val (.int (2 : Int32)), .val (.ref t), .val (.int (2 : Int32)), .val (.int (4 : Int32)), .val (.int (2 : Int32)), .val (.int x1)] []))
  refine own_up (fun tx kx => XS.iload X21.here hx rfl (hb hby d13_3) rfl kx) ?_
  show OwnOk p e below _ (T21.setTop (mkF m 5 #[.val (.ref ca), .val (.int (2 : Int32)), .val (.ref t), .val (.int (2 : Int32)), .val (.int (4 : Int32)), .val (.int (2 : Int32)), .val (.int x1)] [(.int (2 : Int32))]))
  refine own_up (fun tx kx => XS.iload X21.here hx rfl (hb hby d13_5) rfl kx) ?_
  show OwnOk p e below _ (T21.setTop (mkF m 7 #[.val (.ref ca), .val (.int (2 : Int32)), .val (.ref t), .val (.int (2 : Int32)), .val (.int (4 : Int32)), .val (.int (2 : Int32)), .val (.int x1)] [(.int (4 : Int32)), (.int (2 : Int32))]))
  refine own_up (fun tx kx => XS.icmpNo X21.here hx rfl (hb hby d13_7) rfl (tlt (by decide)).2.1 kx) ?_
  show OwnOk p e below _ (T21.setTop (mkF m 10 #[.val (.ref ca), .val (.int (2 : Int32)), .val (.ref t), .val (.int (2 : Int32)), .val (.int (4 : Int32)), .val (.int (2 : Int32)), .val (.int x1)] []))
  refine own_up (fun tx kx => XS.aloadN X21.here hx rfl (hb hby d13_10) rfl rfl kx) ?_
  show OwnOk p e below _ (T21.setTop (mkF m 11 #[.val (.ref ca), .val (.int (2 : Int32)), .val (.ref t), .val (.int (2 : Int32)), .val (.int (4 : Int32)), .val (.int (2 : Int32)), .val (.int x1)] [(.ref ca)]))
  refine own_up (fun tx kx => XS.iloadN X21.here hx rfl (hb hby d13_11) rfl kx) ?_
  show OwnOk p e below _ (T21.setTop (mkF m 12 #[.val (.ref ca), .val (.int (2 : Int32)), .val (.ref t), .val (.int (2 : Int32)), .val (.int (4 : Int32)), .val (.int (2 : Int32)), .val (.int x1)] [(.int (2 : Int32)), (.ref ca)]))
  have V_ca_26 := (V_ca_18.other W21 ne_ca_t)
  obtain ⟨cl27, Ar27, qc27, Sz27, Nn27, Hs27, Gf27⟩ := id V_ca_26
  have hin27 : ¬ ((2 : Int32) < 0 ∨ cl27.slots.size ≤ ((2 : Int32)).toNatClampNeg) := inb_of Sz27 ⟨by decide, by decide⟩
  have hat27 : cl27.slots[((2 : Int32)).toNatClampNeg]? = some (.int x2) := Hs27.at hin27 rfl
  refine own_up (fun tx kx => X21.caload hx (j := (2 : Int32)) (v := (.int x2)) (own_ar e21 Ar27.1) (State.isArrayOf_alike hZ.alike Ar27.2.1) Ar27.2.2 hin27 hat27 (g := (mkF m 12 #[.val (.ref ca), .val (.int (2 : Int32)), .val (.ref t), .val (.int (2 : Int32)), .val (.int (4 : Int32)), .val (.int (2 : Int32)), .val (.int x1)] [(.int (2 : Int32)), (.ref ca)])) rfl rfl (hb hby d13_12) _ kx) ?_
  show OwnOk p e below _ (T21.setTop (mkF m 13 #[.val (.ref ca), .val (.int (2 : Int32)), .val (.ref t), .val (.int (2 : Int32)), .val (.int (4 : Int32)), .val (.int (2 : Int32)), .val (.int x1)] [(.int x2)]))
  refine own_up (fun tx kx => XS.istore X21.here hx rfl (hb hby d13_13) rfl (l' := #[.val (.ref ca), .val (.int (2 : Int32)), .val (.ref t), .val (.int (2 : Int32)), .val (.int (4 : Int32)), .val (.int (2 : Int32)), .val (.int x2)]) rfl kx) ?_
  show OwnOk p e below _ (T21.setTop (mkF m 15 #[.val (.ref ca), .val (.int (2 : Int32)), .val (.ref t), .val (.int (2 : Int32)), .val (.int (4 : Int32)), .val (.int (2 : Int32)), .val (.int x2)] []))
  refine own_up (fun tx kx => XS.iload X21.here hx rfl (hb hby d13_15) rfl kx) ?_
  show OwnOk p e below _ (T21.setTop (mkF m 17 #[.val (.ref ca), .val (.int (2 : Int32)), .val (.ref t), .val (.int (2 : Int32)), .val (.int (4 : Int32)), .val (.int (2 : Int32)), .val (.int x2)] [(.int x2)]))
  refine own_up (fun tx kx => XS.sipush X21.here hx rfl (hb hby d13_17) kx) ?_
  show OwnOk p e below _ (T21.setTop (mkF m 20 #[.val (.ref ca), .val (.int (2 : Int32)), .val (.ref t), .val (.int (2 : Int32)), .val (.int (4 : Int32)), .val (.int (2 : Int32)), .val (.int x2)] [(.int (255 : Int32)), (.int x2)]))
  refine own_up (fun tx kx => XS.icmpYes X21.here hx rfl (pc0 := 20) (pc' := 26) rfl (hb hby d13_20) rfl (flt c2).2.2.2 (by decide) (by decide) kx) ?_
  show OwnOk p e below _ (T21.setTop (mkF m 26 #[.val (.ref ca), .val (.int (2 : Int32)), .val (.ref t), .val (.int (2 : Int32)), .val (.int (4 : Int32)), .val (.int (2 : Int32)), .val (.int x2)] []))
  refine own_up (fun tx kx => XS.aloadN X21.here hx rfl (hb hby d13_26) rfl rfl kx) ?_
  show OwnOk p e below _ (T21.setTop (mkF m 27 #[.val (.ref ca), .val (.int (2 : Int32)), .val (.ref t), .val (.int (2 : Int32)), .val (.int (4 : Int32)), .val (.int (2 : Int32)), .val (.int x2)] [(.ref t)]))
  refine own_up (fun tx kx => XS.iloadN X21.here hx rfl (hb hby d13_27) rfl kx) ?_
  show OwnOk p e below _ (T21.setTop (mkF m 28 #[.val (.ref ca), .val (.int (2 : Int32)), .val (.ref t), .val (.int (2 : Int32)), .val (.int (4 : Int32)), .val (.int (2 : Int32)), .val (.int x2)] [(.int (2 : Int32)), (.ref t)]))
  refine own_up (fun tx kx => XS.iload X21.here hx rfl (hb hby d13_28) rfl kx) ?_
  show OwnOk p e below _ (T21.setTop (mkF m 30 #[.val (.ref ca), .val (.int (2 : Int32)), .val (.ref t), .val (.int (2 : Int32)), .val (.int (4 : Int32)), .val (.int (2 : Int32)), .val (.int x2)] [(.int x2), (.int (2 : Int32)), (.ref t)]))
  refine own_up (fun tx kx => XS.i2b X21.here hx rfl (hb hby d13_30) rfl kx) ?_
  show OwnOk p e below _ (T21.setTop (mkF m 31 #[.val (.ref ca), .val (.int (2 : Int32)), .val (.ref t), .val (.int (2 : Int32)), .val (.int (4 : Int32)), .val (.int (2 : Int32)), .val (.int x2)] [(.int (x2.toInt8.toInt32)), (.int (2 : Int32)), (.ref t)]))
  obtain ⟨cl28, Ar28, qc28, Sz28, Nn28, Hs28, Gf28⟩ := id V_t_21
  have hin28 : ¬ ((2 : Int32) < 0 ∨ cl28.slots.size ≤ ((2 : Int32)).toNatClampNeg) := inb_of Sz28 ⟨by decide, by decide⟩
  obtain ⟨T29, h29, X29, e29, W29, st29⟩ := stB X21 hx hZ e21 Ar28 (j := (2 : Int32)) hin28 (g := (mkF m 31 #[.val (.ref ca), .val (.int (2 : Int32)), .val (.ref t), .val (.int (2 : Int32)), .val (.int (4 : Int32)), .val (.int (2 : Int32)), .val (.int x2)] [(.int (x2.toInt8.toInt32)), (.int (2 : Int32)), (.ref t)])) rfl rfl (hb hby d13_31)
  have V_t_29 : Arv Z h29 t kt .byte (4 : Int32) [(.int (nar .byte (x0.toInt8.toInt32))), (.int (nar .byte (x1.toInt8.toInt32))), (.int (nar .byte (x2.toInt8.toInt32))), (.int (0 : Int32))] (.int (0 : Int32)) := Arv.set Ar28 qc28 Sz28 Nn28 Hs28 Gf28 (fits_nar_byte _) W29 2 rfl (Nat.le_of_ble_eq_true rfl)
  have N29 := Fr.snoc X29 N21 n0_t
  have OL30 := OL22.wr W29 n0_t
  have KP30 := KP22.wr W29 (Or.inl (List.mem_of_getElem? (i := 0) rfl))
  refine own_up st29 ?_
  show OwnOk p e below _ (T29.setTop (mkF m 32 #[.val (.ref ca), .val (.int (2 : Int32)), .val (.ref t), .val (.int (2 : Int32)), .val (.int (4 : Int32)), .val (.int (2 : Int32)), .val (.int x2)] []))
  have hi32_31 : ((2 : Int32) + (1 : Int32)) = (3 : Int32) := by decide
  refine own_up (fun tx kx => XS.iinc X29.here hx rfl (hb hby d13_32) rfl (l' := #[.val (.ref ca), .val (.int ((2 : Int32) + (1 : Int32))), .val (.ref t), .val (.int (2 : Int32)), .val (.int (4 : Int32)), .val (.int (2 : Int32)), .val (.int x2)]) rfl kx) ?_
  rw [hi32_31]
  show OwnOk p e below _ (T29.setTop (mkF m 35 #[.val (.ref ca), .val (.int (3 : Int32)), .val (.ref t), .val (.int (2 : Int32)), .val (.int (4 : Int32)), .val (.int (2 : Int32)), .val (.int x2)] []))
  have hi35_32 : ((2 : Int32) + (1 : Int32)) = (3 : Int32) := by decide
  refine own_up (fun tx kx => XS.iinc X29.here hx rfl (hb hby d13_35) rfl (l' := #[.val (.ref ca), .val (.int (3 : Int32)), .val (.ref t), .val (.int ((2 : Int32) + (1 : Int32))), .val (.int (4 : Int32)), .val (.int (2 : Int32)), .val (.int x2)]) rfl kx) ?_
  rw [hi35_32]
  show OwnOk p e below _ (T29.setTop (mkF m 38 #[.val (.ref ca), .val (.int (3 : Int32)), .val (.ref t), .val (.int (3 : Int32)), .val (.int (4 : Int32)), .val (.int (2 : Int32)), .val (.int x2)] []))
  have hi38_33 : ((2 : Int32) + (1 : Int32)) = (3 : Int32) := by decide
  refine own_up (fun tx kx => XS.iinc X29.here hx rfl (hb hby d13_38) rfl (l' := #[.val (.ref ca), .val (.int (3 : Int32)), .val (.ref t), .val (.int (3 : Int32)), .val (.int (4 : Int32)), .val (.int ((2 : Int32) + (1 : Int32))), .val (.int x2)]) rfl kx) ?_
  rw [hi38_33]
  show OwnOk p e below _ (T29.setTop (mkF m 41 #[.val (.ref ca), .val (.int (3 : Int32)), .val (.ref t), .val (.int (3 : Int32)), .val (.int (4 : Int32)), .val (.int (3 : Int32)), .val (.int x2)] []))
  refine own_up (fun tx kx => XS.goto X29.here hx rfl (pc0 := 41) (pc' := 3) rfl (hb hby d13_41) (by decide) (by decide) kx) ?_
  show OwnOk p e below _ (T29.setTop (mkF m 3 #[.val (.ref ca), .val (.int (3 : Int32)), .val (.ref t), .val (.int (3 : Int32)), .val (.int (4 : Int32)), .val (.int (3 : Int32)), .val (.int x2)] []))
  refine own_up (fun tx kx => XS.iload X29.here hx rfl (hb hby d13_3) rfl kx) ?_
  show OwnOk p e below _ (T29.setTop (mkF m 5 #[.val (.ref ca), .val (.int (3 : Int32)), .val (.ref t), .val (.int (3 : Int32)), .val (.int (4 : Int32)), .val (.int (3 : Int32)), .val (.int x2)] [(.int (3 : Int32))]))
  refine own_up (fun tx kx => XS.iload X29.here hx rfl (hb hby d13_5) rfl kx) ?_
  show OwnOk p e below _ (T29.setTop (mkF m 7 #[.val (.ref ca), .val (.int (3 : Int32)), .val (.ref t), .val (.int (3 : Int32)), .val (.int (4 : Int32)), .val (.int (3 : Int32)), .val (.int x2)] [(.int (4 : Int32)), (.int (3 : Int32))]))
  refine own_up (fun tx kx => XS.icmpNo X29.here hx rfl (hb hby d13_7) rfl (tlt (by decide)).2.1 kx) ?_
  show OwnOk p e below _ (T29.setTop (mkF m 10 #[.val (.ref ca), .val (.int (3 : Int32)), .val (.ref t), .val (.int (3 : Int32)), .val (.int (4 : Int32)), .val (.int (3 : Int32)), .val (.int x2)] []))
  refine own_up (fun tx kx => XS.aloadN X29.here hx rfl (hb hby d13_10) rfl rfl kx) ?_
  show OwnOk p e below _ (T29.setTop (mkF m 11 #[.val (.ref ca), .val (.int (3 : Int32)), .val (.ref t), .val (.int (3 : Int32)), .val (.int (4 : Int32)), .val (.int (3 : Int32)), .val (.int x2)] [(.ref ca)]))
  refine own_up (fun tx kx => XS.iloadN X29.here hx rfl (hb hby d13_11) rfl kx) ?_
  show OwnOk p e below _ (T29.setTop (mkF m 12 #[.val (.ref ca), .val (.int (3 : Int32)), .val (.ref t), .val (.int (3 : Int32)), .val (.int (4 : Int32)), .val (.int (3 : Int32)), .val (.int x2)] [(.int (3 : Int32)), (.ref ca)]))
  have V_ca_34 := (V_ca_26.other W29 ne_ca_t)
  obtain ⟨cl35, Ar35, qc35, Sz35, Nn35, Hs35, Gf35⟩ := id V_ca_34
  have hin35 : ¬ ((3 : Int32) < 0 ∨ cl35.slots.size ≤ ((3 : Int32)).toNatClampNeg) := inb_of Sz35 ⟨by decide, by decide⟩
  have hat35 : cl35.slots[((3 : Int32)).toNatClampNeg]? = some (.int x3) := Hs35.at hin35 rfl
  refine own_up (fun tx kx => X29.caload hx (j := (3 : Int32)) (v := (.int x3)) (own_ar e29 Ar35.1) (State.isArrayOf_alike hZ.alike Ar35.2.1) Ar35.2.2 hin35 hat35 (g := (mkF m 12 #[.val (.ref ca), .val (.int (3 : Int32)), .val (.ref t), .val (.int (3 : Int32)), .val (.int (4 : Int32)), .val (.int (3 : Int32)), .val (.int x2)] [(.int (3 : Int32)), (.ref ca)])) rfl rfl (hb hby d13_12) _ kx) ?_
  show OwnOk p e below _ (T29.setTop (mkF m 13 #[.val (.ref ca), .val (.int (3 : Int32)), .val (.ref t), .val (.int (3 : Int32)), .val (.int (4 : Int32)), .val (.int (3 : Int32)), .val (.int x2)] [(.int x3)]))
  refine own_up (fun tx kx => XS.istore X29.here hx rfl (hb hby d13_13) rfl (l' := #[.val (.ref ca), .val (.int (3 : Int32)), .val (.ref t), .val (.int (3 : Int32)), .val (.int (4 : Int32)), .val (.int (3 : Int32)), .val (.int x3)]) rfl kx) ?_
  show OwnOk p e below _ (T29.setTop (mkF m 15 #[.val (.ref ca), .val (.int (3 : Int32)), .val (.ref t), .val (.int (3 : Int32)), .val (.int (4 : Int32)), .val (.int (3 : Int32)), .val (.int x3)] []))
  refine own_up (fun tx kx => XS.iload X29.here hx rfl (hb hby d13_15) rfl kx) ?_
  show OwnOk p e below _ (T29.setTop (mkF m 17 #[.val (.ref ca), .val (.int (3 : Int32)), .val (.ref t), .val (.int (3 : Int32)), .val (.int (4 : Int32)), .val (.int (3 : Int32)), .val (.int x3)] [(.int x3)]))
  refine own_up (fun tx kx => XS.sipush X29.here hx rfl (hb hby d13_17) kx) ?_
  show OwnOk p e below _ (T29.setTop (mkF m 20 #[.val (.ref ca), .val (.int (3 : Int32)), .val (.ref t), .val (.int (3 : Int32)), .val (.int (4 : Int32)), .val (.int (3 : Int32)), .val (.int x3)] [(.int (255 : Int32)), (.int x3)]))
  refine own_up (fun tx kx => XS.icmpYes X29.here hx rfl (pc0 := 20) (pc' := 26) rfl (hb hby d13_20) rfl (flt c3).2.2.2 (by decide) (by decide) kx) ?_
  show OwnOk p e below _ (T29.setTop (mkF m 26 #[.val (.ref ca), .val (.int (3 : Int32)), .val (.ref t), .val (.int (3 : Int32)), .val (.int (4 : Int32)), .val (.int (3 : Int32)), .val (.int x3)] []))
  refine own_up (fun tx kx => XS.aloadN X29.here hx rfl (hb hby d13_26) rfl rfl kx) ?_
  show OwnOk p e below _ (T29.setTop (mkF m 27 #[.val (.ref ca), .val (.int (3 : Int32)), .val (.ref t), .val (.int (3 : Int32)), .val (.int (4 : Int32)), .val (.int (3 : Int32)), .val (.int x3)] [(.ref t)]))
  refine own_up (fun tx kx => XS.iloadN X29.here hx rfl (hb hby d13_27) rfl kx) ?_
  show OwnOk p e below _ (T29.setTop (mkF m 28 #[.val (.ref ca), .val (.int (3 : Int32)), .val (.ref t), .val (.int (3 : Int32)), .val (.int (4 : Int32)), .val (.int (3 : Int32)), .val (.int x3)] [(.int (3 : Int32)), (.ref t)]))
  refine own_up (fun tx kx => XS.iload X29.here hx rfl (hb hby d13_28) rfl kx) ?_
  show OwnOk p e below _ (T29.setTop (mkF m 30 #[.val (.ref ca), .val (.int (3 : Int32)), .val (.ref t), .val (.int (3 : Int32)), .val (.int (4 : Int32)), .val (.int (3 : Int32)), .val (.int x3)] [(.int x3), (.int (3 : Int32)), (.ref t)]))
  refine own_up (fun tx kx => XS.i2b X29.here hx rfl (hb hby d13_30) rfl kx) ?_
  show OwnOk p e below _ (T29.setTop (mkF m 31 #[.val (.ref ca), .val (.int (3 : Int32)), .val (.ref t), .val (.int (3 : Int32)), .val (.int (4 : Int32)), .val (.int (3 : Int32)), .val (.int x3)] [(.int (x3.toInt8.toInt32)), (.int (3 : Int32)), (.ref t)]))
  obtain ⟨cl36, Ar36, qc36, Sz36, Nn36, Hs36, Gf36⟩ := id V_t_29
  have hin36 : ¬ ((3 : Int32) < 0 ∨ cl36.slots.size ≤ ((3 : Int32)).toNatClampNeg) := inb_of Sz36 ⟨by decide, by decide⟩
  obtain ⟨T37, h37, X37, e37, W37, st37⟩ := stB X29 hx hZ e29 Ar36 (j := (3 : Int32)) hin36 (g := (mkF m 31 #[.val (.ref ca), .val (.int (3 : Int32)), .val (.ref t), .val (.int (3 : Int32)), .val (.int (4 : Int32)), .val (.int (3 : Int32)), .val (.int x3)] [(.int (x3.toInt8.toInt32)), (.int (3 : Int32)), (.ref t)])) rfl rfl (hb hby d13_31)
  have V_t_37 : Arv Z h37 t kt .byte (4 : Int32) [(.int (nar .byte (x0.toInt8.toInt32))), (.int (nar .byte (x1.toInt8.toInt32))), (.int (nar .byte (x2.toInt8.toInt32))), (.int (nar .byte (x3.toInt8.toInt32)))] (.int (0 : Int32)) := Arv.set Ar36 qc36 Sz36 Nn36 Hs36 Gf36 (fits_nar_byte _) W37 3 rfl (Nat.le_of_ble_eq_true rfl)
  have N37 := Fr.snoc X37 N29 n0_t
  have OL38 := OL30.wr W37 n0_t
  have KP38 := KP30.wr W37 (Or.inl (List.mem_of_getElem? (i := 0) rfl))
  refine own_up st37 ?_
  show OwnOk p e below _ (T37.setTop (mkF m 32 #[.val (.ref ca), .val (.int (3 : Int32)), .val (.ref t), .val (.int (3 : Int32)), .val (.int (4 : Int32)), .val (.int (3 : Int32)), .val (.int x3)] []))
  have hi32_39 : ((3 : Int32) + (1 : Int32)) = (4 : Int32) := by decide
  refine own_up (fun tx kx => XS.iinc X37.here hx rfl (hb hby d13_32) rfl (l' := #[.val (.ref ca), .val (.int ((3 : Int32) + (1 : Int32))), .val (.ref t), .val (.int (3 : Int32)), .val (.int (4 : Int32)), .val (.int (3 : Int32)), .val (.int x3)]) rfl kx) ?_
  rw [hi32_39]
  show OwnOk p e below _ (T37.setTop (mkF m 35 #[.val (.ref ca), .val (.int (4 : Int32)), .val (.ref t), .val (.int (3 : Int32)), .val (.int (4 : Int32)), .val (.int (3 : Int32)), .val (.int x3)] []))
  have hi35_40 : ((3 : Int32) + (1 : Int32)) = (4 : Int32) := by decide
  refine own_up (fun tx kx => XS.iinc X37.here hx rfl (hb hby d13_35) rfl (l' := #[.val (.ref ca), .val (.int (4 : Int32)), .val (.ref t), .val (.int ((3 : Int32) + (1 : Int32))), .val (.int (4 : Int32)), .val (.int (3 : Int32)), .val (.int x3)]) rfl kx) ?_
  rw [hi35_40]
  show OwnOk p e below _ (T37.setTop (mkF m 38 #[.val (.ref ca), .val (.int (4 : Int32)), .val (.ref t), .val (.int (4 : Int32)), .val (.int (4 : Int32)), .val (.int (3 : Int32)), .val (.int x3)] []))
  have hi38_41 : ((3 : Int32) + (1 : Int32)) = (4 : Int32) := by decide
  refine own_up (fun tx kx => XS.iinc X37.here hx rfl (hb hby d13_38) rfl (l' := #[.val (.ref ca), .val (.int (4 : Int32)), .val (.ref t), .val (.int (4 : Int32)), .val (.int (4 : Int32)), .val (.int ((3 : Int32) + (1 : Int32))), .val (.int x3)]) rfl kx) ?_
  rw [hi38_41]
  show OwnOk p e below _ (T37.setTop (mkF m 41 #[.val (.ref ca), .val (.int (4 : Int32)), .val (.ref t), .val (.int (4 : Int32)), .val (.int (4 : Int32)), .val (.int (4 : Int32)), .val (.int x3)] []))
  refine own_up (fun tx kx => XS.goto X37.here hx rfl (pc0 := 41) (pc' := 3) rfl (hb hby d13_41) (by decide) (by decide) kx) ?_
  show OwnOk p e below _ (T37.setTop (mkF m 3 #[.val (.ref ca), .val (.int (4 : Int32)), .val (.ref t), .val (.int (4 : Int32)), .val (.int (4 : Int32)), .val (.int (4 : Int32)), .val (.int x3)] []))
  refine own_up (fun tx kx => XS.iload X37.here hx rfl (hb hby d13_3) rfl kx) ?_
  show OwnOk p e below _ (T37.setTop (mkF m 5 #[.val (.ref ca), .val (.int (4 : Int32)), .val (.ref t), .val (.int (4 : Int32)), .val (.int (4 : Int32)), .val (.int (4 : Int32)), .val (.int x3)] [(.int (4 : Int32))]))
  refine own_up (fun tx kx => XS.iload X37.here hx rfl (hb hby d13_5) rfl kx) ?_
  show OwnOk p e below _ (T37.setTop (mkF m 7 #[.val (.ref ca), .val (.int (4 : Int32)), .val (.ref t), .val (.int (4 : Int32)), .val (.int (4 : Int32)), .val (.int (4 : Int32)), .val (.int x3)] [(.int (4 : Int32)), (.int (4 : Int32))]))
  refine own_up (fun tx kx => XS.icmpYes X37.here hx rfl (pc0 := 7) (pc' := 44) rfl (hb hby d13_7) rfl (flt (by decide)).2.1 (by decide) (by decide) kx) ?_
  show OwnOk p e below _ (T37.setTop (mkF m 44 #[.val (.ref ca), .val (.int (4 : Int32)), .val (.ref t), .val (.int (4 : Int32)), .val (.int (4 : Int32)), .val (.int (4 : Int32)), .val (.int x3)] []))
  refine own_up (fun tx kx => XS.iload X37.here hx rfl (hb hby d13_44) rfl kx) ?_
  show OwnOk p e below _ (T37.setTop (mkF m 46 #[.val (.ref ca), .val (.int (4 : Int32)), .val (.ref t), .val (.int (4 : Int32)), .val (.int (4 : Int32)), .val (.int (4 : Int32)), .val (.int x3)] [(.int (4 : Int32))]))
  refine own_retI X37 hx (show meth.sig.returnType = some .int from hret) hlk (hb hby d13_46) e37 (Nat.le_of_ble_eq_true rfl) (Nat.le_of_ble_eq_true rfl) ?_
  exact ⟨rfl, N37, KP38, V_t_37⟩
def Q_c_cmp4_4 (Z : State) (x0 x1 x2 x3 : Int32) (h0 : Heap) (n0 : Nat) (v : Option Value) (h : Heap) (L : List Loc) : Prop := ∃ (t : Addr) (kt : ClassId), v = some (.ref t) ∧ Fr n0 L ∧ Keep h0 h [] ∧ h0.size ≤ t ∧ Arv Z h t kt .byte (4 : Int32) [(.int (nar .byte (x0.toInt8.toInt32))), (.int (nar .byte (x1.toInt8.toInt32))), (.int (nar .byte (x2.toInt8.toInt32))), (.int (nar .byte (x3.toInt8.toInt32)))] (.int (0 : Int32))
set_option maxRecDepth 65536 in
set_option maxHeartbeats 40000000 in
theorem c_cmp4_4 (l : Launch) (Z : State) (a0 : Array Value) (hw : ∀ d ∈ tables_1, d.before a0 Z = true) (ca : Addr) (kc : ClassId) (x0 x1 x2 x3 : Int32) (h0 : Heap) (n0 : Nat) (OL : Old Z n0 h0) (V_ca : Arv Z h0 ca kc .char (4 : Int32) [(.int x0), (.int x1), (.int x2), (.int x3)] (.int (0 : Int32))) (c0 : ¬ (255 : Int32) < x0) (c1 : ¬ (255 : Int32) < x1) (c2 : ¬ (255 : Int32) < x2) (c3 : ¬ (255 : Int32) < x3) :
    own_Met l Z (⟨"java/lang/StringUTF16", "compress", "([CII)[B"⟩ : MethodName) jdk_52_method_16_code 6 (some (.array .byte)) ({ frames := 1, cells := 1, slots := 4, locals := 20 } : Room) #[(.ref ca), (.int (0 : Int32)), (.int (4 : Int32))] h0 (Q_c_cmp4_4 Z x0 x1 x2 x3 h0 n0) := by
  refine own_body (L0 := #[.val (.ref ca), .val (.int (0 : Int32)), .val (.int (4 : Int32)), .unset, .unset, .unset]) (plainFor_of_name (by first | (simp [plainName, overriddenIn]; done) | decide +kernel)) (fun m => by first | (simp [entryFrame, mkF, argsToLocals, Value.category]; done) | rfl) ?_
  intro p e s m below meth c s₁ hx hby hml hZ hown hnm hret hlk X0 e0
  have N0 := Fr.nil n0
  have Z0 : n0 ≤ h0.size := OL.1 ▸ OL.2.1
  show OwnOk p e below _ (s₁.setTop (mkF m 0 #[.val (.ref ca), .val (.int (0 : Int32)), .val (.int (4 : Int32)), .unset, .unset, .unset] []))
  have KP0 : Keep h0 h0 [] := Keep.refl h0 _
  refine own_up (fun tx kx => XS.iloadN X0.here hx rfl (hb hby d12_0) rfl kx) ?_
  show OwnOk p e below _ (s₁.setTop (mkF m 1 #[.val (.ref ca), .val (.int (0 : Int32)), .val (.int (4 : Int32)), .unset, .unset, .unset] [(.int (4 : Int32))]))
  obtain ⟨T11, h11, k11, X11, e11, E11, A11, st11⟩ := newP (aty := .byte) X0 hx hZ (wd_20 hw) e0 (g := (mkF m 1 #[.val (.ref ca), .val (.int (0 : Int32)), .val (.int (4 : Int32)), .unset, .unset, .unset] [(.int (4 : Int32))])) rfl (hb hby d12_1) rfl (by decide) (cap := 4) (by decide) (by decide) (by decide) (by decide)
  obtain ⟨b11, g11⟩ : ∃ z, z = h0.size := ⟨_, rfl⟩
  rw [← g11] at A11 st11
  have sz_b11 : h0.size ≤ b11 := Nat.le_of_eq g11.symm
  have lt_ca_b11 : ca < b11 := Nat.lt_of_lt_of_le V_ca.lt sz_b11
  have n0_b11 : n0 ≤ b11 := Nat.le_trans (own_n0 OL) sz_b11
  have ws_b11 : h0.size ≤ b11 := Nat.le_trans KP0.1 sz_b11
  have V_b11 : Arv Z h11 b11 k11 .byte (4 : Int32) [(.int (0 : Int32)), (.int (0 : Int32)), (.int (0 : Int32)), (.int (0 : Int32))] (.int (0 : Int32)) := (Arv.new A11 (by decide)).pad (pad_rep [] (.int (0 : Int32)) 4)
  have OL13 := OL.ext E11
  have KP13 := KP0.ext E11
  refine own_up st11 ?_
  show OwnOk p e below _ (T11.setTop (mkF m 3 #[.val (.ref ca), .val (.int (0 : Int32)), .val (.int (4 : Int32)), .unset, .unset, .unset] [(.ref b11)]))
  refine own_up (fun tx kx => XS.astoreN X11.here hx rfl (hb hby d12_3) rfl rfl (l' := #[.val (.ref ca), .val (.int (0 : Int32)), .val (.int (4 : Int32)), .val (.ref b11), .unset, .unset]) rfl kx) ?_
  show OwnOk p e below _ (T11.setTop (mkF m 4 #[.val (.ref ca), .val (.int (0 : Int32)), .val (.int (4 : Int32)), .val (.ref b11), .unset, .unset] []))
  refine own_up (fun tx kx => XS.aloadN X11.here hx rfl (hb hby d12_4) rfl rfl kx) ?_
  show OwnOk p e below _ (T11.setTop (mkF m 5 #[.val (.ref ca), .val (.int (0 : Int32)), .val (.int (4 : Int32)), .val (.ref b11), .unset, .unset] [(.ref ca)]))
  refine own_up (fun tx kx => XS.iloadN X11.here hx rfl (hb hby d12_5) rfl kx) ?_
  show OwnOk p e below _ (T11.setTop (mkF m 6 #[.val (.ref ca), .val (.int (0 : Int32)), .val (.int (4 : Int32)), .val (.ref b11), .unset, .unset] [(.int (0 : Int32)), (.ref ca)]))
  refine own_up (fun tx kx => XS.aloadN X11.here hx rfl (hb hby d12_6) rfl rfl kx) ?_
  show OwnOk p e below _ (T11.setTop (mkF m 7 #[.val (.ref ca), .val (.int (0 : Int32)), .val (.int (4 : Int32)), .val (.ref b11), .unset, .unset] [(.ref b11), (.int (0 : Int32)), (.ref ca)]))
  refine own_up (fun tx kx => XS.iconst X11.here hx rfl (hb hby d12_7) kx) ?_
  show OwnOk p e below _ (T11.setTop (mkF m 8 #[.val (.ref ca), .val (.int (0 : Int32)), .val (.int (4 : Int32)), .val (.ref b11), .unset, .unset] [(.int (0 : Int32)), (.ref b11), (.int (0 : Int32)), (.ref ca)]))
  refine own_up (fun tx kx => XS.iloadN X11.here hx rfl (hb hby d12_8) rfl kx) ?_
  show OwnOk p e below _ (T11.setTop (mkF m 9 #[.val (.ref ca), .val (.int (0 : Int32)), .val (.int (4 : Int32)), .val (.ref b11), .unset, .unset] [(.int (4 : Int32)), (.int (0 : Int32)), (.ref b11), (.int (0 : Int32)), (.ref ca)]))
  have V_ca_14 := (V_ca.ext E11)
  refine own_callS X11 hx hZ (y := (⟨"java/lang/StringUTF16", "compress", "([CI[BII)I"⟩ : MethodName)) hown (wd_64 hw) (wd_65 hw) (wd_62 hw) (wd_66 hw) (by decide) (c_cmp5_4 l Z a0 hw ca b11 kc k11 x0 x1 x2 x3 h11 n0 OL13 V_ca_14 V_b11 n0_b11 (Nat.ne_of_lt lt_ca_b11) c0 c1 c2 c3) e11 (argsL := [(.ref ca), (.int (0 : Int32)), (.ref b11), (.int (0 : Int32)), (.int (4 : Int32))]) (rest := []) (by rw [hml]; rfl) (lenOf pd_7 rfl) rfl rfl (W := 0) rfl (hb hby d12_9) (by decide) (by decide) (by decide) (by decide) (fun T15 v15 L15 X15 hQ15 => ?_)
  obtain ⟨rfl, Nq15, Kq15, Vq15⟩ := hQ15
  have N15 := Fr.app N0 Nq15
  have OL15 := OL13.keep Kq15 (allS n0_b11 all0)
  have KP15 := KP13.trans Kq15 (allS (Or.inr ws_b11) all0)
  show OwnOk p e below _ (T15.setTop (mkF m 12 #[.val (.ref ca), .val (.int (0 : Int32)), .val (.int (4 : Int32)), .val (.ref b11), .unset, .unset] [(.int (4 : Int32))]))
  refine own_up (fun tx kx => XS.istore X15.here hx rfl (hb hby d12_12) rfl (l' := #[.val (.ref ca), .val (.int (0 : Int32)), .val (.int (4 : Int32)), .val (.ref b11), .val (.int (4 : Int32)), .unset]) rfl kx) ?_
  show OwnOk p e below _ (T15.setTop (mkF m 14 #[.val (.ref ca), .val (.int (0 : Int32)), .val (.int (4 : Int32)), .val (.ref b11), .val (.int (4 : Int32)), .unset] []))
  refine own_up (fun tx kx => XS.iload X15.here hx rfl (hb hby d12_14) rfl kx) ?_
  show OwnOk p e below _ (T15.setTop (mkF m 16 #[.val (.ref ca), .val (.int (0 : Int32)), .val (.int (4 : Int32)), .val (.ref b11), .val (.int (4 : Int32)), .unset] [(.int (4 : Int32))]))
  refine own_up (fun tx kx => XS.iloadN X15.here hx rfl (hb hby d12_16) rfl kx) ?_
  show OwnOk p e below _ (T15.setTop (mkF m 17 #[.val (.ref ca), .val (.int (0 : Int32)), .val (.int (4 : Int32)), .val (.ref b11), .val (.int (4 : Int32)), .unset] [(.int (4 : Int32)), (.int (4 : Int32))]))
  refine own_up (fun tx kx => XS.icmpYes X15.here hx rfl (pc0 := 17) (pc' := 57) rfl (hb hby d12_17) rfl (teq rfl).1 (by decide) (by decide) kx) ?_
  show OwnOk p e below _ (T15.setTop (mkF m 57 #[.val (.ref ca), .val (.int (0 : Int32)), .val (.int (4 : Int32)), .val (.ref b11), .val (.int (4 : Int32)), .unset] []))
  refine own_up (fun tx kx => XS.aloadN X15.here hx rfl (hb hby d12_57) rfl rfl kx) ?_
  show OwnOk p e below _ (T15.setTop (mkF m 58 #[.val (.ref ca), .val (.int (0 : Int32)), .val (.int (4 : Int32)), .val (.ref b11), .val (.int (4 : Int32)), .unset] [(.ref b11)]))
  refine own_retR X15 hx (t := (.array .byte)) (show meth.sig.returnType = some (.array .byte) from hret) rfl hlk rfl (hb hby d12_58) rfl (Nat.le_of_ble_eq_true rfl) (Nat.le_of_ble_eq_true rfl) ?_
  exact ⟨b11, _, rfl, N15, KP15, ws_b11, Vq15⟩
def Q_c_coder_4 (h0 : Heap) (n0 : Nat) (v : Option Value) (h : Heap) (L : List Loc) : Prop := v = some (.int 0) ∧ Fr n0 L ∧ h = h0
set_option maxRecDepth 65536 in
set_option maxHeartbeats 40000000 in
theorem c_coder_4 (l : Launch) (Z : State) (a0 : Array Value) (hw : ∀ d ∈ tables_1, d.before a0 Z = true) (t : Addr) (kt : ClassId) (x0 x1 x2 x3 : Int32) (h0 : Heap) (n0 : Nat) (OL : Old Z n0 h0) (V_t : Arv Z h0 t kt .byte (4 : Int32) [(.int (nar .byte (x0.toInt8.toInt32))), (.int (nar .byte (x1.toInt8.toInt32))), (.int (nar .byte (x2.toInt8.toInt32))), (.int (nar .byte (x3.toInt8.toInt32)))] (.int (0 : Int32))) :
    own_Met l Z (⟨"java/lang/StringUTF16", "coderFromArrayLen", "([BI)B"⟩ : MethodName) jdk_52_method_15_code 2 (some .byte) ({ frames := 0, cells := 0, slots := 0, locals := 0 } : Room) #[(.ref t), (.int (4 : Int32))] h0 (Q_c_coder_4 h0 n0) := by
  refine own_body (L0 := #[.val (.ref t), .val (.int (4 : Int32))]) (plainFor_of_name (by first | (simp [plainName, overriddenIn]; done) | decide +kernel)) (fun m => by first | (simp [entryFrame, mkF, argsToLocals, Value.category]; done) | rfl) ?_
  intro p e s m below meth c s₁ hx hby hml hZ hown hnm hret hlk X0 e0
  have N0 := Fr.nil n0
  have Z0 : n0 ≤ h0.size := OL.1 ▸ OL.2.1
  show OwnOk p e below _ (s₁.setTop (mkF m 0 #[.val (.ref t), .val (.int (4 : Int32))] []))
  refine own_up (fun tx kx => XS.iloadN X0.here hx rfl (hb hby d14_0) rfl kx) ?_
  show OwnOk p e below _ (s₁.setTop (mkF m 1 #[.val (.ref t), .val (.int (4 : Int32))] [(.int (4 : Int32))]))
  refine own_up (fun tx kx => XS.aloadN X0.here hx rfl (hb hby d14_1) rfl rfl kx) ?_
  show OwnOk p e below _ (s₁.setTop (mkF m 2 #[.val (.ref t), .val (.int (4 : Int32))] [(.ref t), (.int (4 : Int32))]))
  obtain ⟨cl11, Ar11, qc11, Sz11, Nn11, Hs11, Gf11⟩ := id V_t
  have hlen11 : cl11.slots.size.toInt32 = (4 : Int32) := len_of Sz11 Nn11
  refine own_up (fun tx kx => X0.arraylength hx (own_ar e0 Ar11.1) (State.isArrayOf_alike hZ.alike Ar11.2.1) (g := (mkF m 2 #[.val (.ref t), .val (.int (4 : Int32))] [(.ref t), (.int (4 : Int32))])) rfl rfl (hb hby d14_2) _ kx) ?_
  rw [hlen11]
  show OwnOk p e below _ (s₁.setTop (mkF m 3 #[.val (.ref t), .val (.int (4 : Int32))] [(.int (4 : Int32)), (.int (4 : Int32))]))
  have hc3_12 : ((4 : Int32) - (4 : Int32)) = (0 : Int32) := by decide
  refine own_up (fun tx kx => XS.isub X0.here hx rfl (hb hby d14_3) rfl kx) ?_
  show OwnOk p e below _ (s₁.setTop (mkF m 4 #[.val (.ref t), .val (.int (4 : Int32))] [(.int ((4 : Int32) - (4 : Int32)))]))
  rw [hc3_12]
  show OwnOk p e below _ (s₁.setTop (mkF m 4 #[.val (.ref t), .val (.int (4 : Int32))] [(.int (0 : Int32))]))
  refine own_up (fun tx kx => XS.bipush X0.here hx rfl (hb hby d14_4) kx) ?_
  show OwnOk p e below _ (s₁.setTop (mkF m 6 #[.val (.ref t), .val (.int (4 : Int32))] [(.int (31 : Int32)), (.int (0 : Int32))]))
  refine own_up (fun tx kx => XS.iushr X0.here hx rfl (hb hby d14_6) rfl kx) ?_
  show OwnOk p e below _ (s₁.setTop (mkF m 7 #[.val (.ref t), .val (.int (4 : Int32))] [(.int (((0 : Int32).toUInt32 >>> ((31 : Int32) &&& 31).toUInt32).toInt32))]))
  refine own_up (fun tx kx => XS.i2b X0.here hx rfl (hb hby d14_7) rfl kx) ?_
  show OwnOk p e below _ (s₁.setTop (mkF m 8 #[.val (.ref t), .val (.int (4 : Int32))] [(.int ((((0 : Int32).toUInt32 >>> ((31 : Int32) &&& 31).toUInt32).toInt32).toInt8.toInt32))]))
  refine own_retN X0 hx (t := .byte) (show meth.sig.returnType = some .byte from hret) (by simp) hlk (hb hby d14_8) (z' := 0) (by decide) e0 (Nat.le_of_ble_eq_true rfl) (Nat.le_of_ble_eq_true rfl) ?_
  exact ⟨rfl, N0, rfl⟩
def Q_c_init2_4 (Z : State) (a : Addr) (x0 x1 x2 x3 : Int32) (h0 : Heap) (n0 : Nat) (v : Option Value) (h : Heap) (L : List Loc) : Prop := v = none ∧ Fr n0 L ∧ Keep h0 h [a] ∧ ∃ (u : Addr) (ku : ClassId), h0.size ≤ u ∧ (Exa Z h a "java/lang/String") ∧ (Fld Z h a "java/lang/String" "value" "[B" (.ref u)) ∧ (Fld Z h a "java/lang/String" "coder" "B" (.int (0 : Int32))) ∧ (Arv Z h u ku .byte (Int32.ofNat 4) (own_F 4 (fun j => [(nar .byte (x0.toInt8.toInt32)), (nar .byte (x1.toInt8.toInt32)), (nar .byte (x2.toInt8.toInt32)), (nar .byte (x3.toInt8.toInt32))].getD j 0)) (.int (0 : Int32)))
set_option maxRecDepth 65536 in
set_option maxHeartbeats 40000000 in
theorem c_init2_4 (l : Launch) (Z : State) (a0 : Array Value) (hw : ∀ d ∈ tables_1, d.before a0 Z = true) (a ca : Addr) (kc : ClassId) (x0 x1 x2 x3 : Int32) (cz : Int32) (h0 : Heap) (n0 : Nat) (OL : Old Z n0 h0) (SC : Sta Z Z.heap "java/lang/String" "COMPACT_STRINGS" "Z" (.int cz)) (hcz : ¬ cz = 0) (E_a : Exa Z h0 a "java/lang/String") (F_value_a : Fld Z h0 a "java/lang/String" "value" "[B" .null) (F_coder_a : Fld Z h0 a "java/lang/String" "coder" "B" (.int (0 : Int32))) (n0_a : n0 ≤ a) (V_ca : Arv Z h0 ca kc .char (4 : Int32) [(.int x0), (.int x1), (.int x2), (.int x3)] (.int (0 : Int32))) (ne_a_ca : a ≠ ca) (c0 : ¬ (255 : Int32) < x0) (c1 : ¬ (255 : Int32) < x1) (c2 : ¬ (255 : Int32) < x2) (c3 : ¬ (255 : Int32) < x3) :
    own_Met l Z (⟨"java/lang/String", "<init>", "([CIILjava/lang/Void;)V"⟩ : MethodName) jdk_42_method_149_code 6 none ({ frames := 2, cells := 1, slots := 4, locals := 45 } : Room) #[(.ref a), (.ref ca), (.int (0 : Int32)), (.int (4 : Int32)), .null] h0 (Q_c_init2_4 Z a x0 x1 x2 x3 h0 n0) := by
  refine own_body (L0 := #[.val (.ref a), .val (.ref ca), .val (.int (0 : Int32)), .val (.int (4 : Int32)), .val .null, .unset]) (plainFor_of_name (by first | (simp [plainName, overriddenIn]; done) | decide +kernel)) (fun m => by first | (simp [entryFrame, mkF, argsToLocals, Value.category]; done) | rfl) ?_
  intro p e s m below meth c s₁ hx hby hml hZ hown hnm hret hlk X0 e0
  have N0 := Fr.nil n0
  have Z0 : n0 ≤ h0.size := OL.1 ▸ OL.2.1
  show OwnOk p e below _ (s₁.setTop (mkF m 0 #[.val (.ref a), .val (.ref ca), .val (.int (0 : Int32)), .val (.int (4 : Int32)), .val .null, .unset] []))
  have KP0 : Keep h0 h0 [a] := Keep.refl h0 _
  refine own_up (fun tx kx => XS.aloadN X0.here hx rfl (hb hby d3_0) rfl rfl kx) ?_
  show OwnOk p e below _ (s₁.setTop (mkF m 1 #[.val (.ref a), .val (.ref ca), .val (.int (0 : Int32)), .val (.int (4 : Int32)), .val .null, .unset] [(.ref a)]))
  obtain ⟨T11, X11, e11, st11⟩ := initO X0 hx hZ hown (wd_16 hw) (wd_17 hw) (wd_18 hw) e0 (g := (mkF m 1 #[.val (.ref a), .val (.ref ca), .val (.int (0 : Int32)), .val (.int (4 : Int32)), .val .null, .unset] [(.ref a)])) rfl (by rw [hml]; rfl) rfl (hb hby d3_1) (by decide) (W := 0) (by show 2 * 0 + _ ≤ _; exact Nat.le_of_eq rfl) (by decide)
  refine own_up st11 ?_
  show OwnOk p e below _ (T11.setTop (mkF m 4 #[.val (.ref a), .val (.ref ca), .val (.int (0 : Int32)), .val (.int (4 : Int32)), .val .null, .unset] []))
  refine own_up (fun tx kx => XS.iloadN X11.here hx rfl (hb hby d3_4) rfl kx) ?_
  show OwnOk p e below _ (T11.setTop (mkF m 5 #[.val (.ref a), .val (.ref ca), .val (.int (0 : Int32)), .val (.int (4 : Int32)), .val .null, .unset] [(.int (4 : Int32))]))
  refine own_up (fun tx kx => XS.ifYes X11.here hx rfl (pc0 := 5) (pc' := 27) rfl (hb hby d3_5) rfl ((if0 _ _).trans (feq (by decide)).2) (by decide) (by decide) kx) ?_
  show OwnOk p e below _ (T11.setTop (mkF m 27 #[.val (.ref a), .val (.ref ca), .val (.int (0 : Int32)), .val (.int (4 : Int32)), .val .null, .unset] []))
  obtain ⟨T12, X12, e12, st12⟩ := getS2 X11 hx hZ hown (host := "") (Or.inl (wd_41 hw)) Via.refl e11 (SC.ext OL.2) (g := (mkF m 27 #[.val (.ref a), .val (.ref ca), .val (.int (0 : Int32)), .val (.int (4 : Int32)), .val .null, .unset] [])) rfl (hb hby d3_27)
  refine own_up st12 ?_
  show OwnOk p e below _ (T12.setTop (mkF m 30 #[.val (.ref a), .val (.ref ca), .val (.int (0 : Int32)), .val (.int (4 : Int32)), .val .null, .unset] [(.int cz)]))
  refine own_up (fun tx kx => XS.ifNo X12.here hx rfl (hb hby d3_30) rfl ((if0 _ _).trans (feq hcz).1) kx) ?_
  show OwnOk p e below _ (T12.setTop (mkF m 33 #[.val (.ref a), .val (.ref ca), .val (.int (0 : Int32)), .val (.int (4 : Int32)), .val .null, .unset] []))
  refine own_up (fun tx kx => XS.aloadN X12.here hx rfl (hb hby d3_33) rfl rfl kx) ?_
  show OwnOk p e below _ (T12.setTop (mkF m 34 #[.val (.ref a), .val (.ref ca), .val (.int (0 : Int32)), .val (.int (4 : Int32)), .val .null, .unset] [(.ref ca)]))
  refine own_up (fun tx kx => XS.iloadN X12.here hx rfl (hb hby d3_34) rfl kx) ?_
  show OwnOk p e below _ (T12.setTop (mkF m 35 #[.val (.ref a), .val (.ref ca), .val (.int (0 : Int32)), .val (.int (4 : Int32)), .val .null, .unset] [(.int (0 : Int32)), (.ref ca)]))
  refine own_up (fun tx kx => XS.iloadN X12.here hx rfl (hb hby d3_35) rfl kx) ?_
  show OwnOk p e below _ (T12.setTop (mkF m 36 #[.val (.ref a), .val (.ref ca), .val (.int (0 : Int32)), .val (.int (4 : Int32)), .val .null, .unset] [(.int (4 : Int32)), (.int (0 : Int32)), (.ref ca)]))
  refine own_callS X12 hx hZ (y := (⟨"java/lang/StringUTF16", "compress", "([CII)[B"⟩ : MethodName)) hown (wd_60 hw) (wd_61 hw) (wd_62 hw) (wd_63 hw) (by decide) (c_cmp4_4 l Z a0 hw ca kc x0 x1 x2 x3 h0 n0 OL V_ca c0 c1 c2 c3) e12 (argsL := [(.ref ca), (.int (0 : Int32)), (.int (4 : Int32))]) (rest := []) (by rw [hml]; rfl) (lenOf pd_8 rfl) rfl rfl (W := 0) rfl (hb hby d3_36) (by decide) (by decide) (by decide) (by decide) (fun T13 v13 L13 X13 hQ13 => ?_)
  obtain ⟨tt13, kt13, rfl, Nq13, Kq13, gt13, vt13⟩ := hQ13
  have N13 := Fr.app N0 Nq13
  have lt_a_tt13 : a < tt13 := Nat.lt_of_lt_of_le E_a.lt gt13
  have lt_ca_tt13 : ca < tt13 := Nat.lt_of_lt_of_le V_ca.lt gt13
  have n0_tt13 : n0 ≤ tt13 := Nat.le_trans (own_n0 OL) gt13
  have ws_tt13 : h0.size ≤ tt13 := Nat.le_trans KP0.1 gt13
  have OL13 := OL.keep Kq13 all0
  have KP13 := KP0.trans Kq13 all0
  show OwnOk p e below _ (T13.setTop (mkF m 39 #[.val (.ref a), .val (.ref ca), .val (.int (0 : Int32)), .val (.int (4 : Int32)), .val .null, .unset] [(.ref tt13)]))
  refine own_up (fun tx kx => XS.astore X13.here hx rfl (hb hby d3_39) rfl rfl (l' := #[.val (.ref a), .val (.ref ca), .val (.int (0 : Int32)), .val (.int (4 : Int32)), .val .null, .val (.ref tt13)]) rfl kx) ?_
  show OwnOk p e below _ (T13.setTop (mkF m 41 #[.val (.ref a), .val (.ref ca), .val (.int (0 : Int32)), .val (.int (4 : Int32)), .val .null, .val (.ref tt13)] []))
  refine own_up (fun tx kx => XS.aloadN X13.here hx rfl (hb hby d3_41) rfl rfl kx) ?_
  show OwnOk p e below _ (T13.setTop (mkF m 42 #[.val (.ref a), .val (.ref ca), .val (.int (0 : Int32)), .val (.int (4 : Int32)), .val .null, .val (.ref tt13)] [(.ref a)]))
  refine own_up (fun tx kx => XS.aload X13.here hx rfl (hb hby d3_42) rfl rfl kx) ?_
  show OwnOk p e below _ (T13.setTop (mkF m 44 #[.val (.ref a), .val (.ref ca), .val (.int (0 : Int32)), .val (.int (4 : Int32)), .val .null, .val (.ref tt13)] [(.ref tt13), (.ref a)]))
  refine own_up (fun tx kx => XS.iloadN X13.here hx rfl (hb hby d3_44) rfl kx) ?_
  show OwnOk p e below _ (T13.setTop (mkF m 45 #[.val (.ref a), .val (.ref ca), .val (.int (0 : Int32)), .val (.int (4 : Int32)), .val .null, .val (.ref tt13)] [(.int (4 : Int32)), (.ref tt13), (.ref a)]))
  refine own_callS X13 hx hZ (y := (⟨"java/lang/StringUTF16", "coderFromArrayLen", "([BI)B"⟩ : MethodName)) hown (wd_67 hw) (wd_68 hw) (wd_62 hw) (wd_69 hw) (by decide) (c_coder_4 l Z a0 hw tt13 kt13 x0 x1 x2 x3 T13.heap n0 OL13 vt13) rfl (argsL := [(.ref tt13), (.int (4 : Int32))]) (rest := [(.ref a)]) (by rw [hml]; rfl) (lenOf pd_9 rfl) rfl rfl (W := 1) rfl (hb hby d3_45) (by decide) (by decide) (by decide) (by decide) (fun T14 v14 L14 X14 hQ14 => ?_)
  obtain ⟨rfl, Nq14, hh14⟩ := hQ14
  have N14 := Fr.app N13 Nq14
  show OwnOk p e below _ (T14.setTop (mkF m 48 #[.val (.ref a), .val (.ref ca), .val (.int (0 : Int32)), .val (.int (4 : Int32)), .val .null, .val (.ref tt13)] [(.int (0 : Int32)), (.ref a)]))
  have F_coder_a_15 := (F_coder_a.keep Kq13 nin0)
  have E_a_16 := (E_a.keep Kq13)
  obtain ⟨T17, h17, X17, e17, W17, st17⟩ := putFN X14 hx hZ hown (wd_26 hw) Via.refl hh14 F_coder_a_15 E_a_16 (Or.inr ⟨(wd_22 hw), rfl, hnm⟩) (wd_7 hw) (ty := .byte) (v := (.int (0 : Int32))) (v' := (.int (0 : Int32))) (by decide) (by decide) (by decide) (g := (mkF m 48 #[.val (.ref a), .val (.ref ca), .val (.int (0 : Int32)), .val (.int (4 : Int32)), .val .null, .val (.ref tt13)] [(.int (0 : Int32)), (.ref a)])) rfl rfl (hb hby d3_48)
  have Fw17 := Fld.same W17 F_coder_a_15
  have N17 := Fr.snoc X17 N14 n0_a
  have OL18 := OL13.wr W17 n0_a
  have KP18 := KP13.wr W17 (Or.inl (List.mem_of_getElem? (i := 0) rfl))
  refine own_up st17 ?_
  show OwnOk p e below _ (T17.setTop (mkF m 51 #[.val (.ref a), .val (.ref ca), .val (.int (0 : Int32)), .val (.int (4 : Int32)), .val .null, .val (.ref tt13)] []))
  refine own_up (fun tx kx => XS.aloadN X17.here hx rfl (hb hby d3_51) rfl rfl kx) ?_
  show OwnOk p e below _ (T17.setTop (mkF m 52 #[.val (.ref a), .val (.ref ca), .val (.int (0 : Int32)), .val (.int (4 : Int32)), .val .null, .val (.ref tt13)] [(.ref a)]))
  refine own_up (fun tx kx => XS.aload X17.here hx rfl (hb hby d3_52) rfl rfl kx) ?_
  show OwnOk p e below _ (T17.setTop (mkF m 54 #[.val (.ref a), .val (.ref ca), .val (.int (0 : Int32)), .val (.int (4 : Int32)), .val .null, .val (.ref tt13)] [(.ref tt13), (.ref a)]))
  have F_value_a_19 := ((F_value_a.keep Kq13 nin0).other W17 (Or.inr (slot_ne (Or.inr (wd_21 hw)) (Or.inr (wd_22 hw)) (by decide) (t := (.array .byte)) (t' := .byte) (by decide) (by decide))))
  have E_a_20 := (E_a_16.wr W17)
  obtain ⟨T21, h21, X21, e21, W21, st21⟩ := putF X17 hx hZ hown (host := "") (Or.inl (wd_25 hw)) Via.refl e17 F_value_a_19 E_a_20 (Or.inr ⟨(wd_21 hw), rfl, hnm⟩) (wd_7 hw) (ty := (.array .byte)) (by decide) rfl rfl (g := (mkF m 54 #[.val (.ref a), .val (.ref ca), .val (.int (0 : Int32)), .val (.int (4 : Int32)), .val .null, .val (.ref tt13)] [(.ref tt13), (.ref a)])) rfl rfl (hb hby d3_54)
  have Fw21 := Fld.same W21 F_value_a_19
  have N21 := Fr.snoc X21 N17 n0_a
  have OL22 := OL18.wr W21 n0_a
  have KP22 := KP18.wr W21 (Or.inl (List.mem_of_getElem? (i := 0) rfl))
  refine own_up st21 ?_
  show OwnOk p e below _ (T21.setTop (mkF m 57 #[.val (.ref a), .val (.ref ca), .val (.int (0 : Int32)), .val (.int (4 : Int32)), .val .null, .val (.ref tt13)] []))
  have E_a_23 := (E_a_20.wr W21)
  have F_coder_a_24 := (Fw17.other W21 (Or.inr (slot_ne (Or.inr (wd_22 hw)) (Or.inr (wd_21 hw)) (by decide) (t := .byte) (t' := (.array .byte)) (by decide) (by decide))))
  have V_tt13_25 := ((vt13.other W17 (Nat.ne_of_gt lt_a_tt13)).other W21 (Nat.ne_of_gt lt_a_tt13))
  refine own_retV X21 hx (show meth.sig.returnType = none from hret) hlk (hb hby d3_57) e21 (Nat.le_of_ble_eq_true rfl) (Nat.le_of_ble_eq_true rfl) ?_
  exact ⟨rfl, N21, KP22, tt13, _, ws_tt13, E_a_23, Fw21, F_coder_a_24, V_tt13_25⟩
def Q_c_init1_4 (Z : State) (a : Addr) (x0 x1 x2 x3 : Int32) (h0 : Heap) (n0 : Nat) (v : Option Value) (h : Heap) (L : List Loc) : Prop := v = none ∧ Fr n0 L ∧ Keep h0 h [a] ∧ ∃ (u : Addr) (ku : ClassId), h0.size ≤ u ∧ (Exa Z h a "java/lang/String") ∧ (Fld Z h a "java/lang/String" "value" "[B" (.ref u)) ∧ (Fld Z h a "java/lang/String" "coder" "B" (.int (0 : Int32))) ∧ (Arv Z h u ku .byte (Int32.ofNat 4) (own_F 4 (fun j => [(nar .byte (x0.toInt8.toInt32)), (nar .byte (x1.toInt8.toInt32)), (nar .byte (x2.toInt8.toInt32)), (nar .byte (x3.toInt8.toInt32))].getD j 0)) (.int (0 : Int32)))
set_option maxRecDepth 65536 in
set_option maxHeartbeats 40000000 in
theorem c_init1_4 (l : Launch) (Z : State) (a0 : Array Value) (hw : ∀ d ∈ tables_1, d.before a0 Z = true) (a ca : Addr) (kc : ClassId) (x0 x1 x2 x3 : Int32) (cz : Int32) (h0 : Heap) (n0 : Nat) (OL : Old Z n0 h0) (SC : Sta Z Z.heap "java/lang/String" "COMPACT_STRINGS" "Z" (.int cz)) (hcz : ¬ cz = 0) (E_a : Exa Z h0 a "java/lang/String") (F_value_a : Fld Z h0 a "java/lang/String" "value" "[B" .null) (F_coder_a : Fld Z h0 a "java/lang/String" "coder" "B" (.int (0 : Int32))) (n0_a : n0 ≤ a) (V_ca : Arv Z h0 ca kc .char (4 : Int32) [(.int x0), (.int x1), (.int x2), (.int x3)] (.int (0 : Int32))) (ne_a_ca : a ≠ ca) (c0 : ¬ (255 : Int32) < x0) (c1 : ¬ (255 : Int32) < x1) (c2 : ¬ (255 : Int32) < x2) (c3 : ¬ (255 : Int32) < x3) :
    own_Met l Z (⟨"java/lang/String", "<init>", "([C)V"⟩ : MethodName) jdk_42_method_3_code 2 none ({ frames := 3, cells := 1, slots := 4, locals := 65 } : Room) #[(.ref a), (.ref ca)] h0 (Q_c_init1_4 Z a x0 x1 x2 x3 h0 n0) := by
  refine own_body (L0 := #[.val (.ref a), .val (.ref ca)]) (plainFor_of_name (by first | (simp [plainName, overriddenIn]; done) | decide +kernel)) (fun m => by first | (simp [entryFrame, mkF, argsToLocals, Value.category]; done) | rfl) ?_
  intro p e s m below meth c s₁ hx hby hml hZ hown hnm hret hlk X0 e0
  have N0 := Fr.nil n0
  have Z0 : n0 ≤ h0.size := OL.1 ▸ OL.2.1
  show OwnOk p e below _ (s₁.setTop (mkF m 0 #[.val (.ref a), .val (.ref ca)] []))
  have KP0 : Keep h0 h0 [a] := Keep.refl h0 _
  refine own_up (fun tx kx => XS.aloadN X0.here hx rfl (hb hby d2_0) rfl rfl kx) ?_
  show OwnOk p e below _ (s₁.setTop (mkF m 1 #[.val (.ref a), .val (.ref ca)] [(.ref a)]))
  refine own_up (fun tx kx => XS.aloadN X0.here hx rfl (hb hby d2_1) rfl rfl kx) ?_
  show OwnOk p e below _ (s₁.setTop (mkF m 2 #[.val (.ref a), .val (.ref ca)] [(.ref ca), (.ref a)]))
  refine own_up (fun tx kx => XS.iconst X0.here hx rfl (hb hby d2_2) kx) ?_
  show OwnOk p e below _ (s₁.setTop (mkF m 3 #[.val (.ref a), .val (.ref ca)] [(.int (0 : Int32)), (.ref ca), (.ref a)]))
  refine own_up (fun tx kx => XS.aloadN X0.here hx rfl (hb hby d2_3) rfl rfl kx) ?_
  show OwnOk p e below _ (s₁.setTop (mkF m 4 #[.val (.ref a), .val (.ref ca)] [(.ref ca), (.int (0 : Int32)), (.ref ca), (.ref a)]))
  obtain ⟨cl11, Ar11, qc11, Sz11, Nn11, Hs11, Gf11⟩ := id V_ca
  have hlen11 : cl11.slots.size.toInt32 = (4 : Int32) := len_of Sz11 Nn11
  refine own_up (fun tx kx => X0.arraylength hx (own_ar e0 Ar11.1) (State.isArrayOf_alike hZ.alike Ar11.2.1) (g := (mkF m 4 #[.val (.ref a), .val (.ref ca)] [(.ref ca), (.int (0 : Int32)), (.ref ca), (.ref a)])) rfl rfl (hb hby d2_4) _ kx) ?_
  rw [hlen11]
  show OwnOk p e below _ (s₁.setTop (mkF m 5 #[.val (.ref a), .val (.ref ca)] [(.int (4 : Int32)), (.int (0 : Int32)), (.ref ca), (.ref a)]))
  refine own_up (fun tx kx => XS.aconstNull X0.here hx rfl (hb hby d2_5) kx) ?_
  show OwnOk p e below _ (s₁.setTop (mkF m 6 #[.val (.ref a), .val (.ref ca)] [.null, (.int (4 : Int32)), (.int (0 : Int32)), (.ref ca), (.ref a)]))
  refine own_callC X0 hx hZ (y := (⟨"java/lang/String", "<init>", "([CIILjava/lang/Void;)V"⟩ : MethodName)) rfl hown (wd_12 hw) (wd_13 hw) (wd_8 hw) (wd_15 hw) (by decide) (c_init2_4 l Z a0 hw a ca kc x0 x1 x2 x3 cz h0 n0 OL SC hcz E_a F_value_a F_coder_a n0_a V_ca ne_a_ca c0 c1 c2 c3) e0 (argsL := [(.ref ca), (.int (0 : Int32)), (.int (4 : Int32)), .null]) (rest := []) (a := a) (by rw [hml]; rfl) (lenOf pd_10 rfl) rfl rfl (W := 0) rfl (hb hby d2_6) (by decide) (by decide) (by decide) (by decide) (fun T12 v12 L12 X12 hQ12 => ?_)
  obtain ⟨rfl, Nq12, Kq12, uu12, ku12, gu12, ea12, fv12, fc12, vu12⟩ := hQ12
  have N12 := Fr.app N0 Nq12
  have OL12 := OL.keep Kq12 (allS n0_a all0)
  have KP12 := KP0.trans Kq12 (allS (Or.inl (List.mem_of_getElem? (i := 0) rfl)) all0)
  show OwnOk p e below _ (T12.setTop (mkF m 9 #[.val (.ref a), .val (.ref ca)] []))
  refine own_retV X12 hx (show meth.sig.returnType = none from hret) hlk (hb hby d2_9) rfl (Nat.le_of_ble_eq_true rfl) (Nat.le_of_ble_eq_true rfl) ?_
  exact ⟨rfl, N12, KP12, uu12, ku12, gu12, ea12, fv12, fc12, vu12⟩
def Q_c_init2_0 (Z : State) (a : Addr) (h0 : Heap) (n0 : Nat) (v : Option Value) (h : Heap) (L : List Loc) : Prop := v = none ∧ Fr n0 L ∧ Keep h0 h [a] ∧ ∃ (u : Addr) (ku : ClassId) (g : Nat → Int32), (Exa Z h a "java/lang/String") ∧ (Fld Z h a "java/lang/String" "value" "[B" (.ref u)) ∧ (Fld Z h a "java/lang/String" "coder" "B" (.int (0 : Int32))) ∧ (Arv Z h u ku .byte (Int32.ofNat 0) (own_F 0 g) (.int (0 : Int32)))
set_option maxRecDepth 65536 in
set_option maxHeartbeats 40000000 in
theorem c_init2_0 (l : Launch) (Z : State) (a0 : Array Value) (hw : ∀ d ∈ tables_1, d.before a0 Z = true) (a ca : Addr) (kc : ClassId) (h0 : Heap) (n0 : Nat) (OL : Old Z n0 h0) (E_a : Exa Z h0 a "java/lang/String") (F_value_a : Fld Z h0 a "java/lang/String" "value" "[B" .null) (F_coder_a : Fld Z h0 a "java/lang/String" "coder" "B" (.int (0 : Int32))) (n0_a : n0 ≤ a) (V_ca : Arv Z h0 ca kc .char (0 : Int32) [] (.int (0 : Int32))) :
    own_MetH l Z own_EL [a] (⟨"java/lang/String", "<init>", "([CIILjava/lang/Void;)V"⟩ : MethodName) jdk_42_method_149_code 6 none ({ frames := 1, cells := 4, slots := 8, locals := 12 } : Room) #[(.ref a), (.ref ca), (.int (0 : Int32)), (.int (0 : Int32)), .null] h0 (Q_c_init2_0 Z a h0 n0) := by
  refine own_bodyH (L0 := #[.val (.ref a), .val (.ref ca), .val (.int (0 : Int32)), .val (.int (0 : Int32)), .val .null, .unset]) (plainFor_of_name (by first | (simp [plainName, overriddenIn]; done) | decide +kernel)) (fun m => by first | (simp [entryFrame, mkF, argsToLocals, Value.category]; done) | rfl) ?_
  intro p e s m below meth c s₁ hx hby hml hZ hown hnm hret hlk X0 e0 hB hsf
  have sf_a_0 := hsf a (List.mem_of_getElem? (i := 0) rfl)
  have N0 := Fr.nil n0
  have Z0 : n0 ≤ h0.size := OL.1 ▸ OL.2.1
  show OwnOk p e below _ (s₁.setTop (mkF m 0 #[.val (.ref a), .val (.ref ca), .val (.int (0 : Int32)), .val (.int (0 : Int32)), .val .null, .unset] []))
  have KP0 : Keep h0 h0 [a] := Keep.refl h0 _
  refine own_up (fun tx kx => XS.aloadN X0.here hx rfl (hb hby d3_0) rfl rfl kx) ?_
  show OwnOk p e below _ (s₁.setTop (mkF m 1 #[.val (.ref a), .val (.ref ca), .val (.int (0 : Int32)), .val (.int (0 : Int32)), .val .null, .unset] [(.ref a)]))
  obtain ⟨T11, X11, e11, st11⟩ := initO X0 hx hZ hown (wd_16 hw) (wd_17 hw) (wd_18 hw) e0 (g := (mkF m 1 #[.val (.ref a), .val (.ref ca), .val (.int (0 : Int32)), .val (.int (0 : Int32)), .val .null, .unset] [(.ref a)])) rfl (by rw [hml]; rfl) rfl (hb hby d3_1) (by decide) (W := 0) (by show 2 * 0 + _ ≤ _; exact Nat.le_of_eq rfl) (by decide)
  refine own_up st11 ?_
  show OwnOk p e below _ (T11.setTop (mkF m 4 #[.val (.ref a), .val (.ref ca), .val (.int (0 : Int32)), .val (.int (0 : Int32)), .val .null, .unset] []))
  refine own_up (fun tx kx => XS.iloadN X11.here hx rfl (hb hby d3_4) rfl kx) ?_
  show OwnOk p e below _ (T11.setTop (mkF m 5 #[.val (.ref a), .val (.ref ca), .val (.int (0 : Int32)), .val (.int (0 : Int32)), .val .null, .unset] [(.int (0 : Int32))]))
  refine own_up (fun tx kx => XS.ifNo X11.here hx rfl (hb hby d3_5) rfl ((if0 _ _).trans (teq rfl).2) kx) ?_
  show OwnOk p e below _ (T11.setTop (mkF m 8 #[.val (.ref a), .val (.ref ca), .val (.int (0 : Int32)), .val (.int (0 : Int32)), .val .null, .unset] []))
  refine own_up (fun tx kx => XS.aloadN X11.here hx rfl (hb hby d3_8) rfl rfl kx) ?_
  show OwnOk p e below _ (T11.setTop (mkF m 9 #[.val (.ref a), .val (.ref ca), .val (.int (0 : Int32)), .val (.int (0 : Int32)), .val .null, .unset] [(.ref a)]))
  refine own_ldcH X11 hB hx hZ (own_ew hw) hown (by decide) (wd_19 hw) (own_wS hw) e11 (vs := own_F 0 (fun j => [].getD j 0)) (z := Int32.ofNat 0) ⟨by decide, by decide⟩ (by decide) (by decide) (hb hby d3_9) (n := 0) (by decide) (by decide) (by decide) (by decide) (fun s12 ls12 lv12 kv12 T12 h12 X12 hB12 hZ12 hown12 e12 E12 xa12 fc12 fv12 av12 sf12 => ?_)
  have OL12 := OL.ext E12
  have KP12 := KP0.ext E12
  obtain ⟨sf_a_12, na_a_12, nb_a_12⟩ := sf12 a E_a.lt sf_a_0
  show OwnOk p e below _ (T12.setTop (mkF m 11 #[.val (.ref a), .val (.ref ca), .val (.int (0 : Int32)), .val (.int (0 : Int32)), .val .null, .unset] [(.ref ls12), (.ref a)]))
  obtain ⟨T13, X13, e13, st13⟩ := getF X12 hx hZ12 hown12 (host := "") (Or.inl (wd_25 hw)) Via.refl e12 fv12 (g := (mkF m 11 #[.val (.ref a), .val (.ref ca), .val (.int (0 : Int32)), .val (.int (0 : Int32)), .val .null, .unset] [(.ref ls12), (.ref a)])) rfl rfl (hb hby d3_11)
  refine own_up st13 ?_
  show OwnOk p e below _ (T13.setTop (mkF m 14 #[.val (.ref a), .val (.ref ca), .val (.int (0 : Int32)), .val (.int (0 : Int32)), .val .null, .unset] [(.ref lv12), (.ref a)]))
  have F_value_a_14 := (F_value_a.ext E12)
  have E_a_15 := (E_a.ext E12)
  obtain ⟨T16, h16, X16, e16, W16, st16⟩ := putF X13 hx hZ12 hown12 (host := "") (Or.inl (wd_25 hw)) Via.refl e13 F_value_a_14 E_a_15 (Or.inr ⟨(wd_21 hw), rfl, hnm⟩) (wd_7 hw) (ty := (.array .byte)) (by decide) rfl rfl (g := (mkF m 14 #[.val (.ref a), .val (.ref ca), .val (.int (0 : Int32)), .val (.int (0 : Int32)), .val .null, .unset] [(.ref lv12), (.ref a)])) rfl rfl (hb hby d3_14)
  have Fw16 := Fld.same W16 F_value_a_14
  have N16 := Fr.snoc X16 N0 n0_a
  have OL17 := OL12.wr W16 n0_a
  have KP17 := KP12.wr W16 (Or.inl (List.mem_of_getElem? (i := 0) rfl))
  have hB17 := hB12.wr W16 sf_a_12
  have sf_a_18 := hB12.sWr W16 sf_a_12 sf_a_12
  refine own_up st16 ?_
  show OwnOk p e below _ (T16.setTop (mkF m 17 #[.val (.ref a), .val (.ref ca), .val (.int (0 : Int32)), .val (.int (0 : Int32)), .val .null, .unset] []))
  refine own_up (fun tx kx => XS.aloadN X16.here hx rfl (hb hby d3_17) rfl rfl kx) ?_
  show OwnOk p e below _ (T16.setTop (mkF m 18 #[.val (.ref a), .val (.ref ca), .val (.int (0 : Int32)), .val (.int (0 : Int32)), .val .null, .unset] [(.ref a)]))
  have E_a_20 := (E_a_15.wr W16)
  have E_ls12_21 := (xa12.wr W16)
  have V_lv12_22 := (av12.other W16 (Ne.symm nb_a_12))
  refine own_ldcH X16 hB17 hx hZ12 (own_ew hw) hown12 (by decide) (wd_19 hw) (own_wS hw) e16 (vs := own_F 0 (fun j => [].getD j 0)) (z := Int32.ofNat 0) ⟨by decide, by decide⟩ (by decide) (by decide) (hb hby d3_18) (n := 0) (by decide) (by decide) (by decide) (by decide) (fun s19 ls19 lv19 kv19 T19 h19 X19 hB19 hZ19 hown19 e19 E19 xa19 fc19 fv19 av19 sf19 => ?_)
  have OL19 := OL17.ext E19
  have KP19 := KP17.ext E19
  obtain ⟨sf_a_19, na_a_19, nb_a_19⟩ := sf19 a E_a_20.lt sf_a_18
  show OwnOk p e below _ (T19.setTop (mkF m 20 #[.val (.ref a), .val (.ref ca), .val (.int (0 : Int32)), .val (.int (0 : Int32)), .val .null, .unset] [(.ref ls19), (.ref a)]))
  obtain ⟨T23, X23, e23, st23⟩ := getF X19 hx hZ19 hown19 (host := "") (Or.inl (wd_26 hw)) Via.refl e19 fc19 (g := (mkF m 20 #[.val (.ref a), .val (.ref ca), .val (.int (0 : Int32)), .val (.int (0 : Int32)), .val .null, .unset] [(.ref ls19), (.ref a)])) rfl rfl (hb hby d3_20)
  refine own_up st23 ?_
  show OwnOk p e below _ (T23.setTop (mkF m 23 #[.val (.ref a), .val (.ref ca), .val (.int (0 : Int32)), .val (.int (0 : Int32)), .val .null, .unset] [(.int (0 : Int32)), (.ref a)]))
  have F_coder_a_24 := (((F_coder_a.ext E12).other W16 (Or.inr (slot_ne (Or.inr (wd_22 hw)) (Or.inr (wd_21 hw)) (by decide) (t := .byte) (t' := (.array .byte)) (by decide) (by decide)))).ext E19)
  have E_a_25 := (E_a_20.ext E19)
  obtain ⟨T26, h26, X26, e26, W26, st26⟩ := putFN X23 hx hZ19 hown19 (wd_26 hw) Via.refl e23 F_coder_a_24 E_a_25 (Or.inr ⟨(wd_22 hw), rfl, hnm⟩) (wd_7 hw) (ty := .byte) (v := (.int (0 : Int32))) (v' := (.int (0 : Int32))) (by decide) (by decide) (by decide) (g := (mkF m 23 #[.val (.ref a), .val (.ref ca), .val (.int (0 : Int32)), .val (.int (0 : Int32)), .val .null, .unset] [(.int (0 : Int32)), (.ref a)])) rfl rfl (hb hby d3_23)
  have Fw26 := Fld.same W26 F_coder_a_24
  have N26 := Fr.snoc X26 N16 n0_a
  have OL27 := OL19.wr W26 n0_a
  have KP27 := KP19.wr W26 (Or.inl (List.mem_of_getElem? (i := 0) rfl))
  have hB27 := hB19.wr W26 sf_a_19
  have sf_a_28 := hB19.sWr W26 sf_a_19 sf_a_19
  refine own_up st26 ?_
  show OwnOk p e below _ (T26.setTop (mkF m 26 #[.val (.ref a), .val (.ref ca), .val (.int (0 : Int32)), .val (.int (0 : Int32)), .val .null, .unset] []))
  have E_a_29 := (E_a_25.wr W26)
  have F_value_a_30 := ((Fw16.ext E19).other W26 (Or.inr (slot_ne (Or.inr (wd_21 hw)) (Or.inr (wd_22 hw)) (by decide) (t := (.array .byte)) (t' := .byte) (by decide) (by decide))))
  have V_lv12_31 := ((V_lv12_22.ext E19).other W26 (Ne.symm nb_a_12))
  refine own_retVH X26 hB27 hZ19 (own_ew hw) hx (show meth.sig.returnType = none from hret) hlk (hb hby d3_26) e26 (Nat.le_of_ble_eq_true rfl) (Nat.le_of_ble_eq_true rfl) ?_
  exact ⟨rfl, N26, KP27, lv12, _, _, E_a_29, F_value_a_30, Fw26, V_lv12_31⟩
def Q_c_init1_0 (Z : State) (a : Addr) (h0 : Heap) (n0 : Nat) (v : Option Value) (h : Heap) (L : List Loc) : Prop := v = none ∧ Fr n0 L ∧ Keep h0 h [a] ∧ ∃ (u : Addr) (ku : ClassId) (g : Nat → Int32), (Exa Z h a "java/lang/String") ∧ (Fld Z h a "java/lang/String" "value" "[B" (.ref u)) ∧ (Fld Z h a "java/lang/String" "coder" "B" (.int (0 : Int32))) ∧ (Arv Z h u ku .byte (Int32.ofNat 0) (own_F 0 g) (.int (0 : Int32)))
set_option maxRecDepth 65536 in
set_option maxHeartbeats 40000000 in
theorem c_init1_0 (l : Launch) (Z : State) (a0 : Array Value) (hw : ∀ d ∈ tables_1, d.before a0 Z = true) (a ca : Addr) (kc : ClassId) (h0 : Heap) (n0 : Nat) (OL : Old Z n0 h0) (E_a : Exa Z h0 a "java/lang/String") (F_value_a : Fld Z h0 a "java/lang/String" "value" "[B" .null) (F_coder_a : Fld Z h0 a "java/lang/String" "coder" "B" (.int (0 : Int32))) (n0_a : n0 ≤ a) (V_ca : Arv Z h0 ca kc .char (0 : Int32) [] (.int (0 : Int32))) :
    own_MetH l Z own_EL [a] (⟨"java/lang/String", "<init>", "([C)V"⟩ : MethodName) jdk_42_method_3_code 2 none ({ frames := 2, cells := 4, slots := 8, locals := 35 } : Room) #[(.ref a), (.ref ca)] h0 (Q_c_init1_0 Z a h0 n0) := by
  refine own_bodyH (L0 := #[.val (.ref a), .val (.ref ca)]) (plainFor_of_name (by first | (simp [plainName, overriddenIn]; done) | decide +kernel)) (fun m => by first | (simp [entryFrame, mkF, argsToLocals, Value.category]; done) | rfl) ?_
  intro p e s m below meth c s₁ hx hby hml hZ hown hnm hret hlk X0 e0 hB hsf
  have sf_a_0 := hsf a (List.mem_of_getElem? (i := 0) rfl)
  have N0 := Fr.nil n0
  have Z0 : n0 ≤ h0.size := OL.1 ▸ OL.2.1
  show OwnOk p e below _ (s₁.setTop (mkF m 0 #[.val (.ref a), .val (.ref ca)] []))
  have KP0 : Keep h0 h0 [a] := Keep.refl h0 _
  refine own_up (fun tx kx => XS.aloadN X0.here hx rfl (hb hby d2_0) rfl rfl kx) ?_
  show OwnOk p e below _ (s₁.setTop (mkF m 1 #[.val (.ref a), .val (.ref ca)] [(.ref a)]))
  refine own_up (fun tx kx => XS.aloadN X0.here hx rfl (hb hby d2_1) rfl rfl kx) ?_
  show OwnOk p e below _ (s₁.setTop (mkF m 2 #[.val (.ref a), .val (.ref ca)] [(.ref ca), (.ref a)]))
  refine own_up (fun tx kx => XS.iconst X0.here hx rfl (hb hby d2_2) kx) ?_
  show OwnOk p e below _ (s₁.setTop (mkF m 3 #[.val (.ref a), .val (.ref ca)] [(.int (0 : Int32)), (.ref ca), (.ref a)]))
  refine own_up (fun tx kx => XS.aloadN X0.here hx rfl (hb hby d2_3) rfl rfl kx) ?_
  show OwnOk p e below _ (s₁.setTop (mkF m 4 #[.val (.ref a), .val (.ref ca)] [(.ref ca), (.int (0 : Int32)), (.ref ca), (.ref a)]))
  obtain ⟨cl11, Ar11, qc11, Sz11, Nn11, Hs11, Gf11⟩ := id V_ca
  have hlen11 : cl11.slots.size.toInt32 = (0 : Int32) := len_of Sz11 Nn11
  refine own_up (fun tx kx => X0.arraylength hx (own_ar e0 Ar11.1) (State.isArrayOf_alike hZ.alike Ar11.2.1) (g := (mkF m 4 #[.val (.ref a), .val (.ref ca)] [(.ref ca), (.int (0 : Int32)), (.ref ca), (.ref a)])) rfl rfl (hb hby d2_4) _ kx) ?_
  rw [hlen11]
  show OwnOk p e below _ (s₁.setTop (mkF m 5 #[.val (.ref a), .val (.ref ca)] [(.int (0 : Int32)), (.int (0 : Int32)), (.ref ca), (.ref a)]))
  refine own_up (fun tx kx => XS.aconstNull X0.here hx rfl (hb hby d2_5) kx) ?_
  show OwnOk p e below _ (s₁.setTop (mkF m 6 #[.val (.ref a), .val (.ref ca)] [.null, (.int (0 : Int32)), (.int (0 : Int32)), (.ref ca), (.ref a)]))
  refine own_callCH X0 hB (own_ew hw) (sf := [a]) (own_safS sf_a_0 own_saf0) (own_ltS E_a.lt own_lt0) hx hZ (y := (⟨"java/lang/String", "<init>", "([CIILjava/lang/Void;)V"⟩ : MethodName)) rfl hown (wd_12 hw) (wd_13 hw) (wd_8 hw) (wd_15 hw) (by decide) (c_init2_0 l Z a0 hw a ca kc h0 n0 OL E_a F_value_a F_coder_a n0_a V_ca) e0 (argsL := [(.ref ca), (.int (0 : Int32)), (.int (0 : Int32)), .null]) (rest := []) (a := a) (by rw [hml]; rfl) (lenOf pd_10 rfl) rfl rfl (W := 0) rfl (hb hby d2_6) (by decide) (by decide) (by decide) (by decide) (fun s12 T12 v12 L12 X12 hB12 hZ12 hown12 hQ12 sf12 => ?_)
  obtain ⟨rfl, Nq12, Kq12, uu12, ku12, gg12, ea12, fv12, fc12, vu12⟩ := hQ12
  have N12 := Fr.app N0 Nq12
  have sf_a_13 := sf12 a E_a.lt sf_a_0
  have OL12 := OL.keep Kq12 (allS n0_a all0)
  have KP12 := KP0.trans Kq12 (allS (Or.inl (List.mem_of_getElem? (i := 0) rfl)) all0)
  show OwnOk p e below _ (T12.setTop (mkF m 9 #[.val (.ref a), .val (.ref ca)] []))
  refine own_retVH X12 hB12 hZ12 (own_ew hw) hx (show meth.sig.returnType = none from hret) hlk (hb hby d2_9) rfl (Nat.le_of_ble_eq_true rfl) (Nat.le_of_ble_eq_true rfl) ?_
  exact ⟨rfl, N12, KP12, uu12, ku12, gg12, ea12, fv12, fc12, vu12⟩
/-- space or tab, as the code says it -/
def own_ws (c : Int32) : Int32 := if c = 32 then 1 else if c = 9 then 1 else 0
theorem own_ws_1 {c : Int32} (q : ¬ own_ws c = 0) : own_ws c = 1 := by
  unfold own_ws at q ⊢
  split at q
  · next r => rw [if_pos r]
  · next r =>
    rw [if_neg r]
    split at q
    · next r2 => rw [if_pos r2]
    · exact absurd rfl q
def own_nw (n : Nat) (c : Nat → Int32) (i : Nat) : Int32 := if i < n then (if own_ws (c i) = 0 then 1 else 0) else 0
def own_ts (n : Nat) (c : Nat → Int32) : Nat := if own_nw n c 0 = 0 then (if own_nw n c 1 = 0 then (if own_nw n c 2 = 0 then (if own_nw n c 3 = 0 then n else 3) else 2) else 1) else 0
def own_te (n : Nat) (c : Nat → Int32) : Nat := if own_nw n c 3 = 0 then (if own_nw n c 2 = 0 then (if own_nw n c 1 = 0 then (if own_nw n c 0 = 0 then n else 1) else 2) else 3) else 4
theorem own_nw0 {n : Nat} {c : Nat → Int32} {i : Nat} (q : n ≤ i ∨ own_ws (c i) = 1) : own_nw n c i = 0 := by
  unfold own_nw
  rcases q with q | q
  · rw [if_neg (by omega)]
  · rw [q]; split <;> rfl
theorem own_nw1 {n : Nat} {c : Nat → Int32} {i : Nat} (q : i < n) (r : own_ws (c i) = 0) : ¬ own_nw n c i = 0 := by
  unfold own_nw
  rw [if_pos q, if_pos r]; decide
theorem own_chk : ∀ k, k < 256 → ¬ nar .char ((Int32.ofNat k).toUInt32.toUInt16.toUInt32.toInt32) < 0 ∧ ¬ (255 : Int32) < nar .char ((Int32.ofNat k).toUInt32.toUInt16.toUInt32.toInt32) := by decide +kernel
theorem own_chy (y : Int32) : ¬ nar .char (((y &&& (255 : Int32)).toUInt32.toUInt16.toUInt32.toInt32)) < 0 ∧ ¬ (255 : Int32) < nar .char (((y &&& (255 : Int32)).toUInt32.toUInt16.toUInt32.toInt32)) := by
  obtain ⟨k, hk, e⟩ := own_andN y 255 8 rfl (by decide)
  rw [e]; exact own_chk k hk
theorem own_rng {x : Int32} (c : ¬ x < 0 ∧ ¬ (255 : Int32) < x) : ∃ k, k < 256 ∧ x = Int32.ofNat k := by
  have h1 := c.1
  have h2 := c.2
  rw [Int32.lt_iff_toInt_lt, own_z32] at h1
  rw [Int32.lt_iff_toInt_lt, show (255 : Int32).toInt = 255 from rfl] at h2
  refine ⟨x.toInt.toNat, by omega, ?_⟩
  apply Int32.toInt_inj.mp
  rw [own_n32 (by omega)]; omega
theorem own_nclK : ∀ k, k < 256 → (¬ nar .char (Int32.ofNat k) < 0 ∧ ¬ (255 : Int32) < nar .char (Int32.ofNat k)) ∧ own_c8 (nar .byte ((nar .char (Int32.ofNat k)).toInt8.toInt32)) = Int32.ofNat k := by decide +kernel
theorem own_ncl {x : Int32} (c : ¬ x < 0 ∧ ¬ (255 : Int32) < x) : ¬ nar .char x < 0 ∧ ¬ (255 : Int32) < nar .char x := by
  obtain ⟨k, hk, rfl⟩ := own_rng c
  exact (own_nclK k hk).1
theorem own_b8c {x : Int32} (c : ¬ x < 0 ∧ ¬ (255 : Int32) < x) : own_c8 (nar .byte ((nar .char x).toInt8.toInt32)) = x := by
  obtain ⟨k, hk, rfl⟩ := own_rng c
  exact (own_nclK k hk).2
theorem own_at4 {x0 x1 x2 x3 : Int32} : ∀ k, k < 4 → [Value.int x0, .int x1, .int x2, .int x3].getD k (.int 0) = .int ([x0, x1, x2, x3].getD k 0)
  | 0, _ => rfl
  | 1, _ => rfl
  | 2, _ => rfl
  | 3, _ => rfl
def Q_m_draw (h0 : Heap) (n0 : Nat) (v : Option Value) (h : Heap) (L : List Loc) : Prop := ∃ c : Int32, v = some (.int c) ∧ (¬ c < 0 ∧ ¬ (255 : Int32) < c) ∧ Fr n0 L ∧ h = h0
set_option maxRecDepth 65536 in
set_option maxHeartbeats 40000000 in
theorem m_draw (l : Launch) (Z : State) (a0 : Array Value) (hw : ∀ d ∈ tables_1, d.before a0 Z = true) (y : Int32) (h0 : Heap) (n0 : Nat) (OL : Old Z n0 h0)  :
    own_Met l Z (⟨"com/example/strict_replay/strictreplay/rules/FieldValuesTrimPinLaw", "draw", "(I)C"⟩ : MethodName) method_2_code 2 (some .char) ({ frames := 0, cells := 0, slots := 0, locals := 0 } : Room) #[(.int y)] h0 (Q_m_draw h0 n0) := by
  refine own_body (L0 := #[.val (.int y), .unset]) (plainFor_of_name (by first | (simp [plainName, overriddenIn]; done) | decide +kernel)) (fun m => by first | (simp [entryFrame, mkF, argsToLocals, Value.category]; done) | rfl) ?_
  intro p e s m below meth c s₁ hx hby hml hZ hown hnm hret hlk X0 e0
  have N0 := Fr.nil n0
  have Z0 : n0 ≤ h0.size := OL.1 ▸ OL.2.1
  show OwnOk p e below _ (s₁.setTop (mkF m 0 #[.val (.int y), .unset] []))
  refine own_up (fun tx kx => XS.iloadN X0.here hx rfl (hb hby d1_0) rfl kx) ?_
  show OwnOk p e below _ (s₁.setTop (mkF m 1 #[.val (.int y), .unset] [(.int y)]))
  refine own_up (fun tx kx => XS.iconst X0.here hx rfl (hb hby d1_1) kx) ?_
  show OwnOk p e below _ (s₁.setTop (mkF m 2 #[.val (.int y), .unset] [(.int (3 : Int32)), (.int y)]))
  refine own_up (fun tx kx => XS.iand X0.here hx rfl (hb hby d1_2) rfl kx) ?_
  show OwnOk p e below _ (s₁.setTop (mkF m 3 #[.val (.int y), .unset] [(.int (y &&& (3 : Int32)))]))
  refine own_up (fun tx kx => XS.istoreN X0.here hx rfl (hb hby d1_3) rfl (l' := #[.val (.int y), .val (.int (y &&& (3 : Int32)))]) rfl kx) ?_
  show OwnOk p e below _ (s₁.setTop (mkF m 4 #[.val (.int y), .val (.int (y &&& (3 : Int32)))] []))
  refine own_up (fun tx kx => XS.iloadN X0.here hx rfl (hb hby d1_4) rfl kx) ?_
  show OwnOk p e below _ (s₁.setTop (mkF m 5 #[.val (.int y), .val (.int (y &&& (3 : Int32)))] [(.int (y &&& (3 : Int32)))]))
  by_cases q0 : (y &&& (3 : Int32)) = (0 : Int32)
  · refine own_up (fun tx kx => XS.ifNo X0.here hx rfl (hb hby d1_5) rfl ((if0 _ _).trans (teq q0).2) kx) ?_
    show OwnOk p e below _ (s₁.setTop (mkF m 8 #[.val (.int y), .val (.int (y &&& (3 : Int32)))] []))
    refine own_up (fun tx kx => XS.bipush X0.here hx rfl (hb hby d1_8) kx) ?_
    show OwnOk p e below _ (s₁.setTop (mkF m 10 #[.val (.int y), .val (.int (y &&& (3 : Int32)))] [(.int (32 : Int32))]))
    refine own_retN X0 hx (t := .char) (show meth.sig.returnType = some .char from hret) (by simp) hlk (hb hby d1_10) (z' := 32) (by decide) e0 (Nat.le_of_ble_eq_true rfl) (Nat.le_of_ble_eq_true rfl) ?_
    exact ⟨_, rfl, by decide, N0, rfl⟩
  · refine own_up (fun tx kx => XS.ifYes X0.here hx rfl (pc0 := 5) (pc' := 11) rfl (hb hby d1_5) rfl ((if0 _ _).trans (feq q0).2) (by decide) (by decide) kx) ?_
    show OwnOk p e below _ (s₁.setTop (mkF m 11 #[.val (.int y), .val (.int (y &&& (3 : Int32)))] []))
    refine own_up (fun tx kx => XS.iloadN X0.here hx rfl (hb hby d1_11) rfl kx) ?_
    show OwnOk p e below _ (s₁.setTop (mkF m 12 #[.val (.int y), .val (.int (y &&& (3 : Int32)))] [(.int (y &&& (3 : Int32)))]))
    refine own_up (fun tx kx => XS.iconst X0.here hx rfl (hb hby d1_12) kx) ?_
    show OwnOk p e below _ (s₁.setTop (mkF m 13 #[.val (.int y), .val (.int (y &&& (3 : Int32)))] [(.int (1 : Int32)), (.int (y &&& (3 : Int32)))]))
    by_cases q1 : (y &&& (3 : Int32)) = (1 : Int32)
    · refine own_up (fun tx kx => XS.icmpNo X0.here hx rfl (hb hby d1_13) rfl (teq q1).2 kx) ?_
      show OwnOk p e below _ (s₁.setTop (mkF m 16 #[.val (.int y), .val (.int (y &&& (3 : Int32)))] []))
      refine own_up (fun tx kx => XS.bipush X0.here hx rfl (hb hby d1_16) kx) ?_
      show OwnOk p e below _ (s₁.setTop (mkF m 18 #[.val (.int y), .val (.int (y &&& (3 : Int32)))] [(.int (9 : Int32))]))
      refine own_retN X0 hx (t := .char) (show meth.sig.returnType = some .char from hret) (by simp) hlk (hb hby d1_18) (z' := 9) (by decide) e0 (Nat.le_of_ble_eq_true rfl) (Nat.le_of_ble_eq_true rfl) ?_
      exact ⟨_, rfl, by decide, N0, rfl⟩
    · refine own_up (fun tx kx => XS.icmpYes X0.here hx rfl (pc0 := 13) (pc' := 19) rfl (hb hby d1_13) rfl (feq q1).2 (by decide) (by decide) kx) ?_
      show OwnOk p e below _ (s₁.setTop (mkF m 19 #[.val (.int y), .val (.int (y &&& (3 : Int32)))] []))
      refine own_up (fun tx kx => XS.iloadN X0.here hx rfl (hb hby d1_19) rfl kx) ?_
      show OwnOk p e below _ (s₁.setTop (mkF m 20 #[.val (.int y), .val (.int (y &&& (3 : Int32)))] [(.int y)]))
      refine own_up (fun tx kx => XS.iconst X0.here hx rfl (hb hby d1_20) kx) ?_
      show OwnOk p e below _ (s₁.setTop (mkF m 21 #[.val (.int y), .val (.int (y &&& (3 : Int32)))] [(.int (2 : Int32)), (.int y)]))
      refine own_up (fun tx kx => XS.iushr X0.here hx rfl (hb hby d1_21) rfl kx) ?_
      show OwnOk p e below _ (s₁.setTop (mkF m 22 #[.val (.int y), .val (.int (y &&& (3 : Int32)))] [(.int ((y.toUInt32 >>> ((2 : Int32) &&& 31).toUInt32).toInt32))]))
      refine own_up (fun tx kx => XS.sipush X0.here hx rfl (hb hby d1_22) kx) ?_
      show OwnOk p e below _ (s₁.setTop (mkF m 25 #[.val (.int y), .val (.int (y &&& (3 : Int32)))] [(.int (255 : Int32)), (.int ((y.toUInt32 >>> ((2 : Int32) &&& 31).toUInt32).toInt32))]))
      refine own_up (fun tx kx => XS.iand X0.here hx rfl (hb hby d1_25) rfl kx) ?_
      show OwnOk p e below _ (s₁.setTop (mkF m 26 #[.val (.int y), .val (.int (y &&& (3 : Int32)))] [(.int (((y.toUInt32 >>> ((2 : Int32) &&& 31).toUInt32).toInt32) &&& (255 : Int32)))]))
      refine own_up (fun tx kx => XS.i2c X0.here hx rfl (hb hby d1_26) rfl kx) ?_
      show OwnOk p e below _ (s₁.setTop (mkF m 27 #[.val (.int y), .val (.int (y &&& (3 : Int32)))] [(.int ((((y.toUInt32 >>> ((2 : Int32) &&& 31).toUInt32).toInt32) &&& (255 : Int32)).toUInt32.toUInt16.toUInt32.toInt32))]))
      refine own_retN X0 hx (t := .char) (show meth.sig.returnType = some .char from hret) (by simp) hlk (hb hby d1_27) (z' := nar .char (((((y.toUInt32 >>> ((2 : Int32) &&& 31).toUInt32).toInt32) &&& (255 : Int32)).toUInt32.toUInt16.toUInt32.toInt32))) rfl e0 (Nat.le_of_ble_eq_true rfl) (Nat.le_of_ble_eq_true rfl) ?_
      exact ⟨_, rfl, own_chy _, N0, rfl⟩
def Q_m_sot (y : Int32) (h0 : Heap) (n0 : Nat) (v : Option Value) (h : Heap) (L : List Loc) : Prop := v = some (.int (own_ws y)) ∧ Fr n0 L ∧ h = h0
set_option maxRecDepth 65536 in
set_option maxHeartbeats 40000000 in
theorem m_sot (l : Launch) (Z : State) (a0 : Array Value) (hw : ∀ d ∈ tables_1, d.before a0 Z = true) (y : Int32) (h0 : Heap) (n0 : Nat) (OL : Old Z n0 h0)  :
    own_Met l Z (⟨"com/example/strict_replay/strictreplay/rules/FieldValues", "isSpaceOrTab", "(C)Z"⟩ : MethodName) prog_8_method_3_code 1 (some .boolean) ({ frames := 0, cells := 0, slots := 0, locals := 0 } : Room) #[(.int y)] h0 (Q_m_sot y h0 n0) := by
  refine own_body (L0 := #[.val (.int y)]) (plainFor_of_name (by first | (simp [plainName, overriddenIn]; done) | decide +kernel)) (fun m => by first | (simp [entryFrame, mkF, argsToLocals, Value.category]; done) | rfl) ?_
  intro p e s m below meth c s₁ hx hby hml hZ hown hnm hret hlk X0 e0
  have N0 := Fr.nil n0
  have Z0 : n0 ≤ h0.size := OL.1 ▸ OL.2.1
  show OwnOk p e below _ (s₁.setTop (mkF m 0 #[.val (.int y)] []))
  refine own_up (fun tx kx => XS.iloadN X0.here hx rfl (hb hby d20_0) rfl kx) ?_
  show OwnOk p e below _ (s₁.setTop (mkF m 1 #[.val (.int y)] [(.int y)]))
  refine own_up (fun tx kx => XS.bipush X0.here hx rfl (hb hby d20_1) kx) ?_
  show OwnOk p e below _ (s₁.setTop (mkF m 3 #[.val (.int y)] [(.int (32 : Int32)), (.int y)]))
  by_cases q0 : y = (32 : Int32)
  · refine own_up (fun tx kx => XS.icmpYes X0.here hx rfl (pc0 := 3) (pc' := 12) rfl (hb hby d20_3) rfl (teq q0).1 (by decide) (by decide) kx) ?_
    show OwnOk p e below _ (s₁.setTop (mkF m 12 #[.val (.int y)] []))
    refine own_up (fun tx kx => XS.iconst X0.here hx rfl (hb hby d20_12) kx) ?_
    show OwnOk p e below _ (s₁.setTop (mkF m 13 #[.val (.int y)] [(.int (1 : Int32))]))
    refine own_up (fun tx kx => XS.goto X0.here hx rfl (pc0 := 13) (pc' := 17) rfl (hb hby d20_13) (by decide) (by decide) kx) ?_
    show OwnOk p e below _ (s₁.setTop (mkF m 17 #[.val (.int y)] [(.int (1 : Int32))]))
    refine own_retN X0 hx (t := .boolean) (show meth.sig.returnType = some .boolean from hret) (by simp) hlk (hb hby d20_17) (z' := own_ws y) (by unfold own_ws; rw [if_pos q0]; rfl) e0 (Nat.le_of_ble_eq_true rfl) (Nat.le_of_ble_eq_true rfl) ?_
    exact ⟨rfl, N0, rfl⟩
  · refine own_up (fun tx kx => XS.icmpNo X0.here hx rfl (hb hby d20_3) rfl (feq q0).1 kx) ?_
    show OwnOk p e below _ (s₁.setTop (mkF m 6 #[.val (.int y)] []))
    refine own_up (fun tx kx => XS.iloadN X0.here hx rfl (hb hby d20_6) rfl kx) ?_
    show OwnOk p e below _ (s₁.setTop (mkF m 7 #[.val (.int y)] [(.int y)]))
    refine own_up (fun tx kx => XS.bipush X0.here hx rfl (hb hby d20_7) kx) ?_
    show OwnOk p e below _ (s₁.setTop (mkF m 9 #[.val (.int y)] [(.int (9 : Int32)), (.int y)]))
    by_cases q1 : y = (9 : Int32)
    · refine own_up (fun tx kx => XS.icmpNo X0.here hx rfl (hb hby d20_9) rfl (teq q1).2 kx) ?_
      show OwnOk p e below _ (s₁.setTop (mkF m 12 #[.val (.int y)] []))
      refine own_up (fun tx kx => XS.iconst X0.here hx rfl (hb hby d20_12) kx) ?_
      show OwnOk p e below _ (s₁.setTop (mkF m 13 #[.val (.int y)] [(.int (1 : Int32))]))
      refine own_up (fun tx kx => XS.goto X0.here hx rfl (pc0 := 13) (pc' := 17) rfl (hb hby d20_13) (by decide) (by decide) kx) ?_
      show OwnOk p e below _ (s₁.setTop (mkF m 17 #[.val (.int y)] [(.int (1 : Int32))]))
      refine own_retN X0 hx (t := .boolean) (show meth.sig.returnType = some .boolean from hret) (by simp) hlk (hb hby d20_17) (z' := own_ws y) (by unfold own_ws; rw [if_neg q0, if_pos q1]; rfl) e0 (Nat.le_of_ble_eq_true rfl) (Nat.le_of_ble_eq_true rfl) ?_
      exact ⟨rfl, N0, rfl⟩
    · refine own_up (fun tx kx => XS.icmpYes X0.here hx rfl (pc0 := 9) (pc' := 16) rfl (hb hby d20_9) rfl (feq q1).2 (by decide) (by decide) kx) ?_
      show OwnOk p e below _ (s₁.setTop (mkF m 16 #[.val (.int y)] []))
      refine own_up (fun tx kx => XS.iconst X0.here hx rfl (hb hby d20_16) kx) ?_
      show OwnOk p e below _ (s₁.setTop (mkF m 17 #[.val (.int y)] [(.int (0 : Int32))]))
      refine own_retN X0 hx (t := .boolean) (show meth.sig.returnType = some .boolean from hret) (by simp) hlk (hb hby d20_17) (z' := own_ws y) (by unfold own_ws; rw [if_neg q0, if_neg q1]; rfl) e0 (Nat.le_of_ble_eq_true rfl) (Nat.le_of_ble_eq_true rfl) ?_
      exact ⟨rfl, N0, rfl⟩
def Q_m_ws (y : Int32) (h0 : Heap) (n0 : Nat) (v : Option Value) (h : Heap) (L : List Loc) : Prop := v = some (.int (own_ws y)) ∧ Fr n0 L ∧ h = h0
set_option maxRecDepth 65536 in
set_option maxHeartbeats 40000000 in
theorem m_ws (l : Launch) (Z : State) (a0 : Array Value) (hw : ∀ d ∈ tables_1, d.before a0 Z = true) (y : Int32) (h0 : Heap) (n0 : Nat) (OL : Old Z n0 h0)  :
    own_Met l Z (⟨"com/example/strict_replay/strictreplay/rules/FieldValuesTrimPinLaw", "ws", "(C)Z"⟩ : MethodName) method_3_code 1 (some .boolean) ({ frames := 0, cells := 0, slots := 0, locals := 0 } : Room) #[(.int y)] h0 (Q_m_ws y h0 n0) := by
  refine own_body (L0 := #[.val (.int y)]) (plainFor_of_name (by first | (simp [plainName, overriddenIn]; done) | decide +kernel)) (fun m => by first | (simp [entryFrame, mkF, argsToLocals, Value.category]; done) | rfl) ?_
  intro p e s m below meth c s₁ hx hby hml hZ hown hnm hret hlk X0 e0
  have N0 := Fr.nil n0
  have Z0 : n0 ≤ h0.size := OL.1 ▸ OL.2.1
  show OwnOk p e below _ (s₁.setTop (mkF m 0 #[.val (.int y)] []))
  refine own_up (fun tx kx => XS.iloadN X0.here hx rfl (hb hby d27_0) rfl kx) ?_
  show OwnOk p e below _ (s₁.setTop (mkF m 1 #[.val (.int y)] [(.int y)]))
  refine own_up (fun tx kx => XS.bipush X0.here hx rfl (hb hby d27_1) kx) ?_
  show OwnOk p e below _ (s₁.setTop (mkF m 3 #[.val (.int y)] [(.int (32 : Int32)), (.int y)]))
  by_cases q0 : y = (32 : Int32)
  · refine own_up (fun tx kx => XS.icmpYes X0.here hx rfl (pc0 := 3) (pc' := 12) rfl (hb hby d27_3) rfl (teq q0).1 (by decide) (by decide) kx) ?_
    show OwnOk p e below _ (s₁.setTop (mkF m 12 #[.val (.int y)] []))
    refine own_up (fun tx kx => XS.iconst X0.here hx rfl (hb hby d27_12) kx) ?_
    show OwnOk p e below _ (s₁.setTop (mkF m 13 #[.val (.int y)] [(.int (1 : Int32))]))
    refine own_up (fun tx kx => XS.goto X0.here hx rfl (pc0 := 13) (pc' := 17) rfl (hb hby d27_13) (by decide) (by decide) kx) ?_
    show OwnOk p e below _ (s₁.setTop (mkF m 17 #[.val (.int y)] [(.int (1 : Int32))]))
    refine own_retN X0 hx (t := .boolean) (show meth.sig.returnType = some .boolean from hret) (by simp) hlk (hb hby d27_17) (z' := own_ws y) (by unfold own_ws; rw [if_pos q0]; rfl) e0 (Nat.le_of_ble_eq_true rfl) (Nat.le_of_ble_eq_true rfl) ?_
    exact ⟨rfl, N0, rfl⟩
  · refine own_up (fun tx kx => XS.icmpNo X0.here hx rfl (hb hby d27_3) rfl (feq q0).1 kx) ?_
    show OwnOk p e below _ (s₁.setTop (mkF m 6 #[.val (.int y)] []))
    refine own_up (fun tx kx => XS.iloadN X0.here hx rfl (hb hby d27_6) rfl kx) ?_
    show OwnOk p e below _ (s₁.setTop (mkF m 7 #[.val (.int y)] [(.int y)]))
    refine own_up (fun tx kx => XS.bipush X0.here hx rfl (hb hby d27_7) kx) ?_
    show OwnOk p e below _ (s₁.setTop (mkF m 9 #[.val (.int y)] [(.int (9 : Int32)), (.int y)]))
    by_cases q1 : y = (9 : Int32)
    · refine own_up (fun tx kx => XS.icmpNo X0.here hx rfl (hb hby d27_9) rfl (teq q1).2 kx) ?_
      show OwnOk p e below _ (s₁.setTop (mkF m 12 #[.val (.int y)] []))
      refine own_up (fun tx kx => XS.iconst X0.here hx rfl (hb hby d27_12) kx) ?_
      show OwnOk p e below _ (s₁.setTop (mkF m 13 #[.val (.int y)] [(.int (1 : Int32))]))
      refine own_up (fun tx kx => XS.goto X0.here hx rfl (pc0 := 13) (pc' := 17) rfl (hb hby d27_13) (by decide) (by decide) kx) ?_
      show OwnOk p e below _ (s₁.setTop (mkF m 17 #[.val (.int y)] [(.int (1 : Int32))]))
      refine own_retN X0 hx (t := .boolean) (show meth.sig.returnType = some .boolean from hret) (by simp) hlk (hb hby d27_17) (z' := own_ws y) (by unfold own_ws; rw [if_neg q0, if_pos q1]; rfl) e0 (Nat.le_of_ble_eq_true rfl) (Nat.le_of_ble_eq_true rfl) ?_
      exact ⟨rfl, N0, rfl⟩
    · refine own_up (fun tx kx => XS.icmpYes X0.here hx rfl (pc0 := 9) (pc' := 16) rfl (hb hby d27_9) rfl (feq q1).2 (by decide) (by decide) kx) ?_
      show OwnOk p e below _ (s₁.setTop (mkF m 16 #[.val (.int y)] []))
      refine own_up (fun tx kx => XS.iconst X0.here hx rfl (hb hby d27_16) kx) ?_
      show OwnOk p e below _ (s₁.setTop (mkF m 17 #[.val (.int y)] [(.int (0 : Int32))]))
      refine own_retN X0 hx (t := .boolean) (show meth.sig.returnType = some .boolean from hret) (by simp) hlk (hb hby d27_17) (z' := own_ws y) (by unfold own_ws; rw [if_neg q0, if_neg q1]; rfl) e0 (Nat.le_of_ble_eq_true rfl) (Nat.le_of_ble_eq_true rfl) ?_
      exact ⟨rfl, N0, rfl⟩
def Q_j_pft (i : Nat) (h0 : Heap) (n0 : Nat) (v : Option Value) (h : Heap) (L : List Loc) : Prop := v = some (.int (Int32.ofNat i)) ∧ Fr n0 L ∧ h = h0
set_option maxRecDepth 65536 in
set_option maxHeartbeats 40000000 in
theorem j_pft (l : Launch) (Z : State) (a0 : Array Value) (hw : ∀ d ∈ tables_1, d.before a0 Z = true) (i j n : Nat) (fm : Value) (hfm : fm.isRef = true) (h0 : Heap) (n0 : Nat) (OL : Old Z n0 h0) (h1 : i ≤ j) (h2 : j ≤ n) (h3 : n ≤ 100) :
    own_Met l Z (⟨"jdk/internal/util/Preconditions", "checkFromToIndex", "(IIILjava/util/function/BiFunction;)I"⟩ : MethodName) jdk_41_method_12_code 4 (some .int) ({ frames := 0, cells := 0, slots := 0, locals := 0 } : Room) #[(.int (Int32.ofNat i)), (.int (Int32.ofNat j)), (.int (Int32.ofNat n)), fm] h0 (Q_j_pft i h0 n0) := by
  refine own_body (L0 := #[.val (.int (Int32.ofNat i)), .val (.int (Int32.ofNat j)), .val (.int (Int32.ofNat n)), .val fm]) (plainFor_of_name (by first | (simp [plainName, overriddenIn]; done) | decide +kernel)) (fun m => by first | (simp [entryFrame, mkF, argsToLocals, Value.category]; done) | rfl | (rcases ref_cases hfm with rfl | ⟨_, rfl⟩ <;> rfl)) ?_
  intro p e s m below meth c s₁ hx hby hml hZ hown hnm hret hlk X0 e0
  have N0 := Fr.nil n0
  have Z0 : n0 ≤ h0.size := OL.1 ▸ OL.2.1
  show OwnOk p e below _ (s₁.setTop (mkF m 0 #[.val (.int (Int32.ofNat i)), .val (.int (Int32.ofNat j)), .val (.int (Int32.ofNat n)), .val fm] []))
  refine own_up (fun tx kx => XS.iloadN X0.here hx rfl (hb hby d10_0) rfl kx) ?_
  show OwnOk p e below _ (s₁.setTop (mkF m 1 #[.val (.int (Int32.ofNat i)), .val (.int (Int32.ofNat j)), .val (.int (Int32.ofNat n)), .val fm] [(.int (Int32.ofNat i))]))
  refine own_up (fun tx kx => XS.ifNo X0.here hx rfl (hb hby d10_1) rfl ((if0 _ _).trans (flt (own_nn i (by omega))).1) kx) ?_
  show OwnOk p e below _ (s₁.setTop (mkF m 4 #[.val (.int (Int32.ofNat i)), .val (.int (Int32.ofNat j)), .val (.int (Int32.ofNat n)), .val fm] []))
  refine own_up (fun tx kx => XS.iloadN X0.here hx rfl (hb hby d10_4) rfl kx) ?_
  show OwnOk p e below _ (s₁.setTop (mkF m 5 #[.val (.int (Int32.ofNat i)), .val (.int (Int32.ofNat j)), .val (.int (Int32.ofNat n)), .val fm] [(.int (Int32.ofNat i))]))
  refine own_up (fun tx kx => XS.iloadN X0.here hx rfl (hb hby d10_5) rfl kx) ?_
  show OwnOk p e below _ (s₁.setTop (mkF m 6 #[.val (.int (Int32.ofNat i)), .val (.int (Int32.ofNat j)), .val (.int (Int32.ofNat n)), .val fm] [(.int (Int32.ofNat j)), (.int (Int32.ofNat i))]))
  refine own_up (fun tx kx => XS.icmpNo X0.here hx rfl (hb hby d10_6) rfl (flt (own_nlt h1 (by omega))).2.2.1 kx) ?_
  show OwnOk p e below _ (s₁.setTop (mkF m 9 #[.val (.int (Int32.ofNat i)), .val (.int (Int32.ofNat j)), .val (.int (Int32.ofNat n)), .val fm] []))
  refine own_up (fun tx kx => XS.iloadN X0.here hx rfl (hb hby d10_9) rfl kx) ?_
  show OwnOk p e below _ (s₁.setTop (mkF m 10 #[.val (.int (Int32.ofNat i)), .val (.int (Int32.ofNat j)), .val (.int (Int32.ofNat n)), .val fm] [(.int (Int32.ofNat j))]))
  refine own_up (fun tx kx => XS.iloadN X0.here hx rfl (hb hby d10_10) rfl kx) ?_
  show OwnOk p e below _ (s₁.setTop (mkF m 11 #[.val (.int (Int32.ofNat i)), .val (.int (Int32.ofNat j)), .val (.int (Int32.ofNat n)), .val fm] [(.int (Int32.ofNat n)), (.int (Int32.ofNat j))]))
  refine own_up (fun tx kx => XS.icmpYes X0.here hx rfl (pc0 := 11) (pc' := 22) rfl (hb hby d10_11) rfl (flt (own_nlt h2 (by omega))).2.2.2 (by decide) (by decide) kx) ?_
  show OwnOk p e below _ (s₁.setTop (mkF m 22 #[.val (.int (Int32.ofNat i)), .val (.int (Int32.ofNat j)), .val (.int (Int32.ofNat n)), .val fm] []))
  refine own_up (fun tx kx => XS.iloadN X0.here hx rfl (hb hby d10_22) rfl kx) ?_
  show OwnOk p e below _ (s₁.setTop (mkF m 23 #[.val (.int (Int32.ofNat i)), .val (.int (Int32.ofNat j)), .val (.int (Int32.ofNat n)), .val fm] [(.int (Int32.ofNat i))]))
  refine own_retI X0 hx (show meth.sig.returnType = some .int from hret) hlk (hb hby d10_23) e0 (Nat.le_of_ble_eq_true rfl) (Nat.le_of_ble_eq_true rfl) ?_
  exact ⟨rfl, N0, rfl⟩
def Q_j_cbe (h0 : Heap) (n0 : Nat) (v : Option Value) (h : Heap) (L : List Loc) : Prop := v = none ∧ Fr n0 L ∧ h = h0
set_option maxRecDepth 65536 in
set_option maxHeartbeats 40000000 in
theorem j_cbe (l : Launch) (Z : State) (a0 : Array Value) (hw : ∀ d ∈ tables_1, d.before a0 Z = true) (i j n : Nat) (fm : Value) (hfm : fm.isRef = true) (h0 : Heap) (n0 : Nat) (OL : Old Z n0 h0) (SF : Sta Z Z.heap "jdk/internal/util/Preconditions" "SIOOBE_FORMATTER" "Ljava/util/function/BiFunction;" fm) (h1 : i ≤ j) (h2 : j ≤ n) (h3 : n ≤ 100) :
    own_Met l Z (⟨"java/lang/String", "checkBoundsBeginEnd", "(III)V"⟩ : MethodName) jdk_42_method_158_code 3 none ({ frames := 1, cells := 0, slots := 0, locals := 15 } : Room) #[(.int (Int32.ofNat i)), (.int (Int32.ofNat j)), (.int (Int32.ofNat n))] h0 (Q_j_cbe h0 n0) := by
  refine own_body (L0 := #[.val (.int (Int32.ofNat i)), .val (.int (Int32.ofNat j)), .val (.int (Int32.ofNat n))]) (plainFor_of_name (by first | (simp [plainName, overriddenIn]; done) | decide +kernel)) (fun m => by first | (simp [entryFrame, mkF, argsToLocals, Value.category]; done) | rfl) ?_
  intro p e s m below meth c s₁ hx hby hml hZ hown hnm hret hlk X0 e0
  have N0 := Fr.nil n0
  have Z0 : n0 ≤ h0.size := OL.1 ▸ OL.2.1
  show OwnOk p e below _ (s₁.setTop (mkF m 0 #[.val (.int (Int32.ofNat i)), .val (.int (Int32.ofNat j)), .val (.int (Int32.ofNat n))] []))
  refine own_up (fun tx kx => XS.iloadN X0.here hx rfl (hb hby d9_0) rfl kx) ?_
  show OwnOk p e below _ (s₁.setTop (mkF m 1 #[.val (.int (Int32.ofNat i)), .val (.int (Int32.ofNat j)), .val (.int (Int32.ofNat n))] [(.int (Int32.ofNat i))]))
  refine own_up (fun tx kx => XS.iloadN X0.here hx rfl (hb hby d9_1) rfl kx) ?_
  show OwnOk p e below _ (s₁.setTop (mkF m 2 #[.val (.int (Int32.ofNat i)), .val (.int (Int32.ofNat j)), .val (.int (Int32.ofNat n))] [(.int (Int32.ofNat j)), (.int (Int32.ofNat i))]))
  refine own_up (fun tx kx => XS.iloadN X0.here hx rfl (hb hby d9_2) rfl kx) ?_
  show OwnOk p e below _ (s₁.setTop (mkF m 3 #[.val (.int (Int32.ofNat i)), .val (.int (Int32.ofNat j)), .val (.int (Int32.ofNat n))] [(.int (Int32.ofNat n)), (.int (Int32.ofNat j)), (.int (Int32.ofNat i))]))
  obtain ⟨T11, X11, e11, st11⟩ := getS2 X0 hx hZ hown (host := "") (Or.inl (wd_51 hw)) Via.refl e0 (SF.ext OL.2) (g := (mkF m 3 #[.val (.int (Int32.ofNat i)), .val (.int (Int32.ofNat j)), .val (.int (Int32.ofNat n))] [(.int (Int32.ofNat n)), (.int (Int32.ofNat j)), (.int (Int32.ofNat i))])) rfl (hb hby d9_3)
  refine own_up st11 ?_
  show OwnOk p e below _ (T11.setTop (mkF m 6 #[.val (.int (Int32.ofNat i)), .val (.int (Int32.ofNat j)), .val (.int (Int32.ofNat n))] [fm, (.int (Int32.ofNat n)), (.int (Int32.ofNat j)), (.int (Int32.ofNat i))]))
  refine own_callS X11 hx hZ (y := (⟨"jdk/internal/util/Preconditions", "checkFromToIndex", "(IIILjava/util/function/BiFunction;)I"⟩ : MethodName)) hown (wd_53 hw) (wd_54 hw) (wd_52 hw) (wd_55 hw) (by decide) (j_pft l Z a0 hw i j n fm hfm h0 n0 OL h1 h2 h3) e11 (argsL := [(.int (Int32.ofNat i)), (.int (Int32.ofNat j)), (.int (Int32.ofNat n)), fm]) (rest := []) (by rw [hml]; rfl) (lenOf pd_11 rfl) rfl rfl (W := 0) rfl (hb hby d9_6) (by decide) (by decide) (by decide) (by decide) (fun T12 v12 L12 X12 hQ12 => ?_)
  obtain ⟨rfl, Nq12, hh12⟩ := hQ12
  have N12 := Fr.app N0 Nq12
  show OwnOk p e below _ (T12.setTop (mkF m 9 #[.val (.int (Int32.ofNat i)), .val (.int (Int32.ofNat j)), .val (.int (Int32.ofNat n))] [(.int (Int32.ofNat i))]))
  refine own_up (fun tx kx => XS.pop X12.here hx rfl (hb hby d9_9) rfl rfl kx) ?_
  show OwnOk p e below _ (T12.setTop (mkF m 10 #[.val (.int (Int32.ofNat i)), .val (.int (Int32.ofNat j)), .val (.int (Int32.ofNat n))] []))
  refine own_retV X12 hx (show meth.sig.returnType = none from hret) hlk (hb hby d9_10) hh12 (Nat.le_of_ble_eq_true rfl) (Nat.le_of_ble_eq_true rfl) ?_
  exact ⟨rfl, N12, rfl⟩
def Q_j_initBB (Z : State) (a t : Addr) (h0 : Heap) (n0 : Nat) (v : Option Value) (h : Heap) (L : List Loc) : Prop := v = none ∧ Fr n0 L ∧ Keep h0 h [a] ∧ Exa Z h a "java/lang/String" ∧ Fld Z h a "java/lang/String" "value" "[B" (.ref t) ∧ Fld Z h a "java/lang/String" "coder" "B" (.int (0 : Int32))
set_option maxRecDepth 65536 in
set_option maxHeartbeats 40000000 in
theorem j_initBB (l : Launch) (Z : State) (a0 : Array Value) (hw : ∀ d ∈ tables_1, d.before a0 Z = true) (a t : Addr) (h0 : Heap) (n0 : Nat) (OL : Old Z n0 h0) (E_a : Exa Z h0 a "java/lang/String") (F_value_a : Fld Z h0 a "java/lang/String" "value" "[B" .null) (F_coder_a : Fld Z h0 a "java/lang/String" "coder" "B" (.int (0 : Int32))) (n0_a : n0 ≤ a) :
    own_Met l Z (⟨"java/lang/String", "<init>", "([BB)V"⟩ : MethodName) jdk_42_method_151_code 3 none ({ frames := 1, cells := 0, slots := 0, locals := 12 } : Room) #[(.ref a), (.ref t), (.int (0 : Int32))] h0 (Q_j_initBB Z a t h0 n0) := by
  refine own_body (L0 := #[.val (.ref a), .val (.ref t), .val (.int (0 : Int32))]) (plainFor_of_name (by first | (simp [plainName, overriddenIn]; done) | decide +kernel)) (fun m => by first | (simp [entryFrame, mkF, argsToLocals, Value.category]; done) | rfl) ?_
  intro p e s m below meth c s₁ hx hby hml hZ hown hnm hret hlk X0 e0
  have N0 := Fr.nil n0
  have Z0 : n0 ≤ h0.size := OL.1 ▸ OL.2.1
  show OwnOk p e below _ (s₁.setTop (mkF m 0 #[.val (.ref a), .val (.ref t), .val (.int (0 : Int32))] []))
  have KP0 : Keep h0 h0 [a] := Keep.refl h0 _
  refine own_up (fun tx kx => XS.aloadN X0.here hx rfl (hb hby d26_0) rfl rfl kx) ?_
  show OwnOk p e below _ (s₁.setTop (mkF m 1 #[.val (.ref a), .val (.ref t), .val (.int (0 : Int32))] [(.ref a)]))
  obtain ⟨T11, X11, e11, st11⟩ := initO X0 hx hZ hown (wd_16 hw) (wd_17 hw) (wd_18 hw) e0 (g := (mkF m 1 #[.val (.ref a), .val (.ref t), .val (.int (0 : Int32))] [(.ref a)])) rfl (by rw [hml]; rfl) rfl (hb hby d26_1) (by decide) (W := 0) (by show 2 * 0 + _ ≤ _; exact Nat.le_of_eq rfl) (by decide)
  refine own_up st11 ?_
  show OwnOk p e below _ (T11.setTop (mkF m 4 #[.val (.ref a), .val (.ref t), .val (.int (0 : Int32))] []))
  refine own_up (fun tx kx => XS.aloadN X11.here hx rfl (hb hby d26_4) rfl rfl kx) ?_
  show OwnOk p e below _ (T11.setTop (mkF m 5 #[.val (.ref a), .val (.ref t), .val (.int (0 : Int32))] [(.ref a)]))
  refine own_up (fun tx kx => XS.aloadN X11.here hx rfl (hb hby d26_5) rfl rfl kx) ?_
  show OwnOk p e below _ (T11.setTop (mkF m 6 #[.val (.ref a), .val (.ref t), .val (.int (0 : Int32))] [(.ref t), (.ref a)]))
  obtain ⟨T12, h12, X12, e12, W12, st12⟩ := putF X11 hx hZ hown (host := "") (Or.inl (wd_25 hw)) Via.refl e11 F_value_a E_a (Or.inr ⟨(wd_21 hw), rfl, hnm⟩) (wd_7 hw) (ty := (.array .byte)) (by decide) rfl rfl (g := (mkF m 6 #[.val (.ref a), .val (.ref t), .val (.int (0 : Int32))] [(.ref t), (.ref a)])) rfl rfl (hb hby d26_6)
  have Fw12 := Fld.same W12 F_value_a
  have N12 := Fr.snoc X12 N0 n0_a
  have OL13 := OL.wr W12 n0_a
  have KP13 := KP0.wr W12 (Or.inl (List.mem_of_getElem? (i := 0) rfl))
  refine own_up st12 ?_
  show OwnOk p e below _ (T12.setTop (mkF m 9 #[.val (.ref a), .val (.ref t), .val (.int (0 : Int32))] []))
  refine own_up (fun tx kx => XS.aloadN X12.here hx rfl (hb hby d26_9) rfl rfl kx) ?_
  show OwnOk p e below _ (T12.setTop (mkF m 10 #[.val (.ref a), .val (.ref t), .val (.int (0 : Int32))] [(.ref a)]))
  refine own_up (fun tx kx => XS.iloadN X12.here hx rfl (hb hby d26_10) rfl kx) ?_
  show OwnOk p e below _ (T12.setTop (mkF m 11 #[.val (.ref a), .val (.ref t), .val (.int (0 : Int32))] [(.int (0 : Int32)), (.ref a)]))
  have F_coder_a_14 := (F_coder_a.other W12 (Or.inr (slot_ne (Or.inr (wd_22 hw)) (Or.inr (wd_21 hw)) (by decide) (t := .byte) (t' := (.array .byte)) (by decide) (by decide))))
  have E_a_15 := (E_a.wr W12)
  obtain ⟨T16, h16, X16, e16, W16, st16⟩ := putFN X12 hx hZ hown (wd_26 hw) Via.refl e12 F_coder_a_14 E_a_15 (Or.inr ⟨(wd_22 hw), rfl, hnm⟩) (wd_7 hw) (ty := .byte) (v := (.int (0 : Int32))) (v' := (.int (0 : Int32))) (by decide) (by decide) (by decide) (g := (mkF m 11 #[.val (.ref a), .val (.ref t), .val (.int (0 : Int32))] [(.int (0 : Int32)), (.ref a)])) rfl rfl (hb hby d26_11)
  have Fw16 := Fld.same W16 F_coder_a_14
  have N16 := Fr.snoc X16 N12 n0_a
  have OL17 := OL13.wr W16 n0_a
  have KP17 := KP13.wr W16 (Or.inl (List.mem_of_getElem? (i := 0) rfl))
  refine own_up st16 ?_
  show OwnOk p e below _ (T16.setTop (mkF m 14 #[.val (.ref a), .val (.ref t), .val (.int (0 : Int32))] []))
  have E_a_18 := (E_a_15.wr W16)
  have F_value_a_19 := (Fw12.other W16 (Or.inr (slot_ne (Or.inr (wd_21 hw)) (Or.inr (wd_22 hw)) (by decide) (t := (.array .byte)) (t' := .byte) (by decide) (by decide))))
  refine own_retV X16 hx (show meth.sig.returnType = none from hret) hlk (hb hby d26_14) e16 (Nat.le_of_ble_eq_true rfl) (Nat.le_of_ble_eq_true rfl) ?_
  exact ⟨rfl, N16, KP17, E_a_18, F_value_a_19, Fw16⟩
def Q_m_newS (Z : State) (g : Nat → Int32) (sn ln : Nat) (h0 : Heap) (n0 : Nat) (v : Option Value) (h : Heap) (L : List Loc) : Prop := ∃ (r ur : Addr) (kr : ClassId) (gg : Nat → Int32), v = some (.ref r) ∧ Fr n0 L ∧ Keep h0 h [] ∧ (∀ j, j < ln → gg j = g (sn + j)) ∧ (Exa Z h r "java/lang/String") ∧ (Fld Z h r "java/lang/String" "value" "[B" (.ref ur)) ∧ (Fld Z h r "java/lang/String" "coder" "B" (.int (0 : Int32))) ∧ (Arv Z h ur kr .byte (Int32.ofNat ln) (own_F ln gg) (.int (0 : Int32)))
set_option maxRecDepth 65536 in
set_option maxHeartbeats 40000000 in
theorem m_newS (l : Launch) (Z : State) (a0 : Array Value) (hw : ∀ d ∈ tables_1, d.before a0 Z = true) (u : Addr) (ku : ClassId) (n : Nat) (g : Nat → Int32) (sn ln : Nat) (h0 : Heap) (n0 : Nat) (OL : Old Z n0 h0) (V_u : Arv Z h0 u ku .byte (Int32.ofNat n) (own_F n g) (.int (0 : Int32))) (h1 : sn + ln ≤ n) (h2 : n ≤ 4) (hnc : ¬ (sn = 0 ∧ ln = n)) :
    own_MetH l Z own_EL [] (⟨"java/lang/StringLatin1", "newString", "([BII)Ljava/lang/String;"⟩ : MethodName) jdk_43_method_47_code 3 (some (.object "java/lang/String")) ({ frames := 3, cells := 4, slots := 12, locals := 70 } : Room) #[(.ref u), (.int (Int32.ofNat sn)), (.int (Int32.ofNat ln))] h0 (Q_m_newS Z g sn ln h0 n0) := by
  refine own_bodyH (L0 := #[.val (.ref u), .val (.int (Int32.ofNat sn)), .val (.int (Int32.ofNat ln))]) (plainFor_of_name (by first | (simp [plainName, overriddenIn]; done) | decide +kernel)) (fun m => by first | (simp [entryFrame, mkF, argsToLocals, Value.category]; done) | rfl) ?_
  intro p e s m below meth c s₁ hx hby hml hZ hown hnm hret hlk X0 e0 hB hsf
  have N0 := Fr.nil n0
  have Z0 : n0 ≤ h0.size := OL.1 ▸ OL.2.1
  show OwnOk p e below _ (s₁.setTop (mkF m 0 #[.val (.ref u), .val (.int (Int32.ofNat sn)), .val (.int (Int32.ofNat ln))] []))
  have KP0 : Keep h0 h0 [] := Keep.refl h0 _
  refine own_up (fun tx kx => XS.iloadN X0.here hx rfl (hb hby d21_0) rfl kx) ?_
  show OwnOk p e below _ (s₁.setTop (mkF m 1 #[.val (.ref u), .val (.int (Int32.ofNat sn)), .val (.int (Int32.ofNat ln))] [(.int (Int32.ofNat ln))]))
  by_cases hz : (Int32.ofNat ln) = (0 : Int32)
  · refine own_up (fun tx kx => XS.ifNo X0.here hx rfl (hb hby d21_1) rfl ((if0 _ _).trans (teq hz).2) kx) ?_
    show OwnOk p e below _ (s₁.setTop (mkF m 4 #[.val (.ref u), .val (.int (Int32.ofNat sn)), .val (.int (Int32.ofNat ln))] []))
    obtain rfl : ln = 0 := own_ofNat0 hz (by omega)
    show OwnOk p e below _ (s₁.setTop (mkF m 4 #[.val (.ref u), .val (.int (Int32.ofNat sn)), .val (.int (Int32.ofNat 0))] []))
    refine own_ldcH X0 hB hx hZ (own_ew hw) hown (by decide) (wd_122 hw) (own_wS hw) e0 (vs := own_F 0 (fun j => [].getD j 0)) (z := Int32.ofNat 0) ⟨by decide, by decide⟩ (by decide) (by decide) (hb hby d21_4) (n := 0) (by decide) (by decide) (by decide) (by decide) (fun s11 ls11 lv11 kv11 T11 h11 X11 hB11 hZ11 hown11 e11 E11 xa11 fc11 fv11 av11 sf11 => ?_)
    have OL11 := OL.ext E11
    have KP11 := KP0.ext E11
    show OwnOk p e below _ (T11.setTop (mkF m 6 #[.val (.ref u), .val (.int (Int32.ofNat sn)), .val (.int (Int32.ofNat 0))] [(.ref ls11)]))
    refine own_retRH X11 hB11 hZ11 (own_ew hw) hx (t := (.object "java/lang/String")) (show meth.sig.returnType = some (.object "java/lang/String") from hret) rfl hlk rfl (hb hby d21_6) e11 (Nat.le_of_ble_eq_true rfl) (Nat.le_of_ble_eq_true rfl) ?_
    exact ⟨ls11, lv11, _, _, rfl, N0, KP11, fun j hj => absurd hj (Nat.not_lt_zero j), xa11, fv11, fc11, av11⟩
  · refine own_up (fun tx kx => XS.ifYes X0.here hx rfl (pc0 := 1) (pc' := 7) rfl (hb hby d21_1) rfl ((if0 _ _).trans (feq hz).2) (by decide) (by decide) kx) ?_
    show OwnOk p e below _ (s₁.setTop (mkF m 7 #[.val (.ref u), .val (.int (Int32.ofNat sn)), .val (.int (Int32.ofNat ln))] []))
    obtain ⟨T12, h12, X12, e12, E12, A12, D12, -, st12⟩ := newO X0 hx hZ hown (wd_96 hw) (wd_7 hw) (wd_8 hw) e0 (g := (mkF m 7 #[.val (.ref u), .val (.int (Int32.ofNat sn)), .val (.int (Int32.ofNat ln))] [])) rfl (hb hby d21_7) (by decide) (by decide)
    obtain ⟨b12, g12⟩ : ∃ z, z = h0.size := ⟨_, rfl⟩
    rw [← g12] at A12 D12 st12
    have sz_b12 : h0.size ≤ b12 := Nat.le_of_eq g12.symm
    have lt_u_b12 : u < b12 := Nat.lt_of_lt_of_le V_u.lt sz_b12
    have n0_b12 : n0 ≤ b12 := Nat.le_trans (own_n0 OL) sz_b12
    have ws_b12 : h0.size ≤ b12 := Nat.le_trans KP0.1 sz_b12
    have F_value_b12 : Fld Z h12 b12 "java/lang/String" "value" "[B" .null := D12 (Or.inr (wd_21 hw)) (ty := (.array .byte)) (by decide)
    have F_coder_b12 : Fld Z h12 b12 "java/lang/String" "coder" "B" (.int (0 : Int32)) := D12 (Or.inr (wd_22 hw)) (ty := .byte) (by decide)
    have OL14 := OL.ext E12
    have KP14 := KP0.ext E12
    have hB14 := hB.ext E12
    have sf_b12_15 := hB.sNew E12 sz_b12
    refine own_up st12 ?_
    show OwnOk p e below _ (T12.setTop (mkF m 10 #[.val (.ref u), .val (.int (Int32.ofNat sn)), .val (.int (Int32.ofNat ln))] [(.ref b12)]))
    refine own_up (fun tx kx => XS.dup X12.here hx rfl (hb hby d21_10) rfl rfl kx) ?_
    show OwnOk p e below _ (T12.setTop (mkF m 11 #[.val (.ref u), .val (.int (Int32.ofNat sn)), .val (.int (Int32.ofNat ln))] [(.ref b12), (.ref b12)]))
    refine own_up (fun tx kx => XS.aloadN X12.here hx rfl (hb hby d21_11) rfl rfl kx) ?_
    show OwnOk p e below _ (T12.setTop (mkF m 12 #[.val (.ref u), .val (.int (Int32.ofNat sn)), .val (.int (Int32.ofNat ln))] [(.ref u), (.ref b12), (.ref b12)]))
    refine own_up (fun tx kx => XS.iloadN X12.here hx rfl (hb hby d21_12) rfl kx) ?_
    show OwnOk p e below _ (T12.setTop (mkF m 13 #[.val (.ref u), .val (.int (Int32.ofNat sn)), .val (.int (Int32.ofNat ln))] [(.int (Int32.ofNat sn)), (.ref u), (.ref b12), (.ref b12)]))
    refine own_up (fun tx kx => XS.iloadN X12.here hx rfl (hb hby d21_13) rfl kx) ?_
    show OwnOk p e below _ (T12.setTop (mkF m 14 #[.val (.ref u), .val (.int (Int32.ofNat sn)), .val (.int (Int32.ofNat ln))] [(.int (Int32.ofNat sn)), (.int (Int32.ofNat sn)), (.ref u), (.ref b12), (.ref b12)]))
    refine own_up (fun tx kx => XS.iloadN X12.here hx rfl (hb hby d21_14) rfl kx) ?_
    show OwnOk p e below _ (T12.setTop (mkF m 15 #[.val (.ref u), .val (.int (Int32.ofNat sn)), .val (.int (Int32.ofNat ln))] [(.int (Int32.ofNat ln)), (.int (Int32.ofNat sn)), (.int (Int32.ofNat sn)), (.ref u), (.ref b12), (.ref b12)]))
    refine own_up (fun tx kx => XS.iadd X12.here hx rfl (hb hby d21_15) rfl kx) ?_
    show OwnOk p e below _ (T12.setTop (mkF m 16 #[.val (.ref u), .val (.int (Int32.ofNat sn)), .val (.int (Int32.ofNat ln))] [(.int ((Int32.ofNat sn) + (Int32.ofNat ln))), (.int (Int32.ofNat sn)), (.ref u), (.ref b12), (.ref b12)]))
    rw [show ((Int32.ofNat sn) + (Int32.ofNat ln)) = (Int32.ofNat (sn + ln)) from (Int32.ofNat_add sn ln).symm]
    show OwnOk p e below _ (T12.setTop (mkF m 16 #[.val (.ref u), .val (.int (Int32.ofNat sn)), .val (.int (Int32.ofNat ln))] [(.int (Int32.ofNat (sn + ln))), (.int (Int32.ofNat sn)), (.ref u), (.ref b12), (.ref b12)]))
    have V_u_16 := (V_u.ext E12)
    refine own_callS X12 hx hZ (y := (⟨"java/util/Arrays", "copyOfRange", "([BII)[B"⟩ : MethodName)) hown (wd_97 hw) (wd_98 hw) (wd_99 hw) (wd_100 hw) (by decide) (j_copyR l Z a0 hw u ku n g sn (sn + ln) h12 n0 OL14 V_u_16 (by omega) h1 h2 (fun q => hnc ⟨q.1, by omega⟩)) e12 (argsL := [(.ref u), (.int (Int32.ofNat sn)), (.int (Int32.ofNat (sn + ln)))]) (rest := [(.ref b12), (.ref b12)]) (by rw [hml]; rfl) (lenOf pd_3 rfl) rfl rfl (W := 2) rfl (hb hby d21_16) (by decide) (by decide) (by decide) (by decide) (fun T17 v17 L17 X17 hQ17 => ?_)
    obtain ⟨rr17, kr17, rfl, Nq17, Kq17, gr17, er17, vr17⟩ := hQ17
    have N17 := Fr.app N0 Nq17
    have lt_u_rr17 : u < rr17 := Nat.lt_of_lt_of_le V_u_16.lt gr17
    have lt_b12_rr17 : b12 < rr17 := Nat.lt_of_lt_of_le A12.lt gr17
    have n0_rr17 : n0 ≤ rr17 := Nat.le_trans (own_n0 OL14) gr17
    have ws_rr17 : h0.size ≤ rr17 := Nat.le_trans KP14.1 gr17
    have hB17 := hB14.keep Kq17 own_saf0
    have sf_b12_18 := hB14.sKeep Kq17 own_saf0 sf_b12_15
    have sf_rr17_19 := hB14.sNewK Kq17 own_saf0 gr17
    have OL17 := OL14.keep Kq17 all0
    have KP17 := KP14.trans Kq17 all0
    show OwnOk p e below _ (T17.setTop (mkF m 19 #[.val (.ref u), .val (.int (Int32.ofNat sn)), .val (.int (Int32.ofNat ln))] [(.ref rr17), (.ref b12), (.ref b12)]))
    refine own_up (fun tx kx => XS.iconst X17.here hx rfl (hb hby d21_19) kx) ?_
    show OwnOk p e below _ (T17.setTop (mkF m 20 #[.val (.ref u), .val (.int (Int32.ofNat sn)), .val (.int (Int32.ofNat ln))] [(.int (0 : Int32)), (.ref rr17), (.ref b12), (.ref b12)]))
    have E_b12_20 := (A12.keep Kq17)
    have F_value_b12_21 := (F_value_b12.keep Kq17 nin0)
    have F_coder_b12_22 := (F_coder_b12.keep Kq17 nin0)
    refine own_callC X17 hx hZ (y := (⟨"java/lang/String", "<init>", "([BB)V"⟩ : MethodName)) rfl hown (wd_115 hw) (wd_116 hw) (wd_8 hw) (wd_117 hw) (by decide) (j_initBB l Z a0 hw b12 rr17 T17.heap n0 OL17 E_b12_20 F_value_b12_21 F_coder_b12_22 n0_b12) rfl (argsL := [(.ref rr17), (.int (0 : Int32))]) (rest := [(.ref b12)]) (a := b12) (by rw [hml]; rfl) (lenOf pd_12 rfl) rfl rfl (W := 1) rfl (hb hby d21_20) (by decide) (by decide) (by decide) (by decide) (fun T23 v23 L23 X23 hQ23 => ?_)
    obtain ⟨rfl, Nq23, Kq23, ea23, fv23, fc23⟩ := hQ23
    have N23 := Fr.app N17 Nq23
    have hB23 := hB17.keep Kq23 (own_safS sf_b12_18 own_saf0)
    have sf_b12_24 := hB17.sKeep Kq23 (own_safS sf_b12_18 own_saf0) sf_b12_18
    have sf_rr17_25 := hB17.sKeep Kq23 (own_safS sf_b12_18 own_saf0) sf_rr17_19
    have OL23 := OL17.keep Kq23 (allS n0_b12 all0)
    have KP23 := KP17.trans Kq23 (allS (Or.inr ws_b12) all0)
    show OwnOk p e below _ (T23.setTop (mkF m 23 #[.val (.ref u), .val (.int (Int32.ofNat sn)), .val (.int (Int32.ofNat ln))] [(.ref b12)]))
    have V_rr17_26 := (vr17.keep Kq23 (ninS (Nat.ne_of_gt lt_b12_rr17) nin0))
    have vf := V_rr17_26
    rw [show sn + ln - sn = ln by omega] at vf
    refine own_retRH X23 hB23 hZ (own_ew hw) hx (t := (.object "java/lang/String")) (show meth.sig.returnType = some (.object "java/lang/String") from hret) rfl hlk rfl (hb hby d21_23) rfl (Nat.le_of_ble_eq_true rfl) (Nat.le_of_ble_eq_true rfl) ?_
    exact ⟨b12, rr17, kr17, _, rfl, N23, KP23, fun j hj => rfl, ea23, fv23, fc23, vf⟩
def Q_m_sub (Z : State) (g : Nat → Int32) (sn e1 : Nat) (h0 : Heap) (n0 : Nat) (v : Option Value) (h : Heap) (L : List Loc) : Prop := ∃ (r ur : Addr) (kr : ClassId) (gg : Nat → Int32), v = some (.ref r) ∧ Fr n0 L ∧ Keep h0 h [] ∧ (∀ j, j < (e1 - sn) → gg j = g (sn + j)) ∧ (Exa Z h r "java/lang/String") ∧ (Fld Z h r "java/lang/String" "value" "[B" (.ref ur)) ∧ (Fld Z h r "java/lang/String" "coder" "B" (.int (0 : Int32))) ∧ (Arv Z h ur kr .byte (Int32.ofNat (e1 - sn)) (own_F (e1 - sn) gg) (.int (0 : Int32)))
set_option maxRecDepth 65536 in
set_option maxHeartbeats 40000000 in
theorem m_sub (l : Launch) (Z : State) (a0 : Array Value) (hw : ∀ d ∈ tables_1, d.before a0 Z = true) (a u : Addr) (ku : ClassId) (n : Nat) (g : Nat → Int32) (sn e1 : Nat) (cz : Int32) (fm : Value) (hfm : fm.isRef = true) (h0 : Heap) (n0 : Nat) (OL : Old Z n0 h0) (SC : Sta Z Z.heap "java/lang/String" "COMPACT_STRINGS" "Z" (.int cz)) (hcz : ¬ cz = 0) (SF : Sta Z Z.heap "jdk/internal/util/Preconditions" "SIOOBE_FORMATTER" "Ljava/util/function/BiFunction;" fm) (E_a : Exa Z h0 a "java/lang/String") (F_value_a : Fld Z h0 a "java/lang/String" "value" "[B" (.ref u)) (F_coder_a : Fld Z h0 a "java/lang/String" "coder" "B" (.int (0 : Int32))) (V_u : Arv Z h0 u ku .byte (Int32.ofNat n) (own_F n g) (.int (0 : Int32))) (h1 : sn ≤ e1) (h2 : e1 ≤ n) (h3 : n ≤ 4) :
    own_MetH l Z own_EL [] (⟨"java/lang/String", "substring", "(II)Ljava/lang/String;"⟩ : MethodName) jdk_42_method_92_code 5 (some (.object "java/lang/String")) ({ frames := 4, cells := 4, slots := 12, locals := 90 } : Room) #[(.ref a), (.int (Int32.ofNat sn)), (.int (Int32.ofNat e1))] h0 (Q_m_sub Z g sn e1 h0 n0) := by
  refine own_bodyH (L0 := #[.val (.ref a), .val (.int (Int32.ofNat sn)), .val (.int (Int32.ofNat e1)), .unset, .unset]) (plainFor_of_name (by first | (simp [plainName, overriddenIn]; done) | decide +kernel)) (fun m => by first | (simp [entryFrame, mkF, argsToLocals, Value.category]; done) | rfl) ?_
  intro p e s m below meth c s₁ hx hby hml hZ hown hnm hret hlk X0 e0 hB hsf
  have N0 := Fr.nil n0
  have Z0 : n0 ≤ h0.size := OL.1 ▸ OL.2.1
  show OwnOk p e below _ (s₁.setTop (mkF m 0 #[.val (.ref a), .val (.int (Int32.ofNat sn)), .val (.int (Int32.ofNat e1)), .unset, .unset] []))
  have KP0 : Keep h0 h0 [] := Keep.refl h0 _
  refine own_up (fun tx kx => XS.aloadN X0.here hx rfl (hb hby d8_0) rfl rfl kx) ?_
  show OwnOk p e below _ (s₁.setTop (mkF m 1 #[.val (.ref a), .val (.int (Int32.ofNat sn)), .val (.int (Int32.ofNat e1)), .unset, .unset] [(.ref a)]))
  refine own_callV X0 hx hZ (y := (⟨"java/lang/String", "length", "()I"⟩ : MethodName)) (z := (⟨"java/lang/String", "length", "()I"⟩ : MethodName)) hown (wd_47 hw) (wd_32 hw) (notFace_of_selects (args := #[]) (mvT hZ (wd_34 hw))) (wd_34 hw) (wd_33 hw) (wd_8 hw) (wd_35 hw) (by decide) (j_length l Z a0 hw a u ku n g cz h0 n0 OL SC hcz E_a F_value_a F_coder_a V_u) e0 (argsL := []) (rest := []) E_a (by rw [hml]; rfl) (lenOf pd_13 rfl) rfl rfl (W := 0) rfl (hb hby d8_1) (by decide) (by decide) (by decide) (by decide) (fun T11 v11 L11 X11 hQ11 => ?_)
  obtain ⟨rfl, Nq11, hh11⟩ := hQ11
  have N11 := Fr.app N0 Nq11
  show OwnOk p e below _ (T11.setTop (mkF m 4 #[.val (.ref a), .val (.int (Int32.ofNat sn)), .val (.int (Int32.ofNat e1)), .unset, .unset] [(.int (Int32.ofNat n))]))
  refine own_up (fun tx kx => XS.istoreN X11.here hx rfl (hb hby d8_4) rfl (l' := #[.val (.ref a), .val (.int (Int32.ofNat sn)), .val (.int (Int32.ofNat e1)), .val (.int (Int32.ofNat n)), .unset]) rfl kx) ?_
  show OwnOk p e below _ (T11.setTop (mkF m 5 #[.val (.ref a), .val (.int (Int32.ofNat sn)), .val (.int (Int32.ofNat e1)), .val (.int (Int32.ofNat n)), .unset] []))
  refine own_up (fun tx kx => XS.iloadN X11.here hx rfl (hb hby d8_5) rfl kx) ?_
  show OwnOk p e below _ (T11.setTop (mkF m 6 #[.val (.ref a), .val (.int (Int32.ofNat sn)), .val (.int (Int32.ofNat e1)), .val (.int (Int32.ofNat n)), .unset] [(.int (Int32.ofNat sn))]))
  refine own_up (fun tx kx => XS.iloadN X11.here hx rfl (hb hby d8_6) rfl kx) ?_
  show OwnOk p e below _ (T11.setTop (mkF m 7 #[.val (.ref a), .val (.int (Int32.ofNat sn)), .val (.int (Int32.ofNat e1)), .val (.int (Int32.ofNat n)), .unset] [(.int (Int32.ofNat e1)), (.int (Int32.ofNat sn))]))
  refine own_up (fun tx kx => XS.iloadN X11.here hx rfl (hb hby d8_7) rfl kx) ?_
  show OwnOk p e below _ (T11.setTop (mkF m 8 #[.val (.ref a), .val (.int (Int32.ofNat sn)), .val (.int (Int32.ofNat e1)), .val (.int (Int32.ofNat n)), .unset] [(.int (Int32.ofNat n)), (.int (Int32.ofNat e1)), (.int (Int32.ofNat sn))]))
  refine own_callS X11 hx hZ (y := (⟨"java/lang/String", "checkBoundsBeginEnd", "(III)V"⟩ : MethodName)) hown (wd_48 hw) (wd_49 hw) (wd_8 hw) (wd_50 hw) (by decide) (j_cbe l Z a0 hw sn e1 n fm hfm h0 n0 OL SF h1 h2 (by omega)) hh11 (argsL := [(.int (Int32.ofNat sn)), (.int (Int32.ofNat e1)), (.int (Int32.ofNat n))]) (rest := []) (by rw [hml]; rfl) (lenOf pd_14 rfl) rfl rfl (W := 0) rfl (hb hby d8_8) (by decide) (by decide) (by decide) (by decide) (fun T12 v12 L12 X12 hQ12 => ?_)
  obtain ⟨rfl, Nq12, hh12⟩ := hQ12
  have N12 := Fr.app N11 Nq12
  show OwnOk p e below _ (T12.setTop (mkF m 11 #[.val (.ref a), .val (.int (Int32.ofNat sn)), .val (.int (Int32.ofNat e1)), .val (.int (Int32.ofNat n)), .unset] []))
  refine own_up (fun tx kx => XS.iloadN X12.here hx rfl (hb hby d8_11) rfl kx) ?_
  show OwnOk p e below _ (T12.setTop (mkF m 12 #[.val (.ref a), .val (.int (Int32.ofNat sn)), .val (.int (Int32.ofNat e1)), .val (.int (Int32.ofNat n)), .unset] [(.int (Int32.ofNat sn))]))
  by_cases hz : (Int32.ofNat sn) = (0 : Int32)
  · refine own_up (fun tx kx => XS.ifNo X12.here hx rfl (hb hby d8_12) rfl ((if0 _ _).trans (teq hz).2) kx) ?_
    show OwnOk p e below _ (T12.setTop (mkF m 15 #[.val (.ref a), .val (.int (Int32.ofNat sn)), .val (.int (Int32.ofNat e1)), .val (.int (Int32.ofNat n)), .unset] []))
    refine own_up (fun tx kx => XS.iloadN X12.here hx rfl (hb hby d8_15) rfl kx) ?_
    show OwnOk p e below _ (T12.setTop (mkF m 16 #[.val (.ref a), .val (.int (Int32.ofNat sn)), .val (.int (Int32.ofNat e1)), .val (.int (Int32.ofNat n)), .unset] [(.int (Int32.ofNat e1))]))
    refine own_up (fun tx kx => XS.iloadN X12.here hx rfl (hb hby d8_16) rfl kx) ?_
    show OwnOk p e below _ (T12.setTop (mkF m 17 #[.val (.ref a), .val (.int (Int32.ofNat sn)), .val (.int (Int32.ofNat e1)), .val (.int (Int32.ofNat n)), .unset] [(.int (Int32.ofNat n)), (.int (Int32.ofNat e1))]))
    by_cases hq : (Int32.ofNat e1) = (Int32.ofNat n)
    · refine own_up (fun tx kx => XS.icmpNo X12.here hx rfl (hb hby d8_17) rfl (teq hq).2 kx) ?_
      show OwnOk p e below _ (T12.setTop (mkF m 20 #[.val (.ref a), .val (.int (Int32.ofNat sn)), .val (.int (Int32.ofNat e1)), .val (.int (Int32.ofNat n)), .unset] []))
      refine own_up (fun tx kx => XS.aloadN X12.here hx rfl (hb hby d8_20) rfl rfl kx) ?_
      show OwnOk p e below _ (T12.setTop (mkF m 21 #[.val (.ref a), .val (.int (Int32.ofNat sn)), .val (.int (Int32.ofNat e1)), .val (.int (Int32.ofNat n)), .unset] [(.ref a)]))
      obtain rfl : sn = 0 := own_ofNat0 hz (by omega)
      obtain rfl : e1 = n := own_ofNatEq hq (by omega) (by omega)
      refine own_retRH X12 hB hZ (own_ew hw) hx (t := (.object "java/lang/String")) (show meth.sig.returnType = some (.object "java/lang/String") from hret) rfl hlk rfl (hb hby d8_21) hh12 (Nat.le_of_ble_eq_true rfl) (Nat.le_of_ble_eq_true rfl) ?_
      exact ⟨a, u, ku, g, rfl, N12, KP0, fun j hj => by rw [Nat.zero_add], E_a, F_value_a, F_coder_a, V_u⟩
    · refine own_up (fun tx kx => XS.icmpYes X12.here hx rfl (pc0 := 17) (pc' := 22) rfl (hb hby d8_17) rfl (feq hq).2 (by decide) (by decide) kx) ?_
      show OwnOk p e below _ (T12.setTop (mkF m 22 #[.val (.ref a), .val (.int (Int32.ofNat sn)), .val (.int (Int32.ofNat e1)), .val (.int (Int32.ofNat n)), .unset] []))
      refine own_up (fun tx kx => XS.iloadN X12.here hx rfl (hb hby d8_22) rfl kx) ?_
      show OwnOk p e below _ (T12.setTop (mkF m 23 #[.val (.ref a), .val (.int (Int32.ofNat sn)), .val (.int (Int32.ofNat e1)), .val (.int (Int32.ofNat n)), .unset] [(.int (Int32.ofNat e1))]))
      refine own_up (fun tx kx => XS.iloadN X12.here hx rfl (hb hby d8_23) rfl kx) ?_
      show OwnOk p e below _ (T12.setTop (mkF m 24 #[.val (.ref a), .val (.int (Int32.ofNat sn)), .val (.int (Int32.ofNat e1)), .val (.int (Int32.ofNat n)), .unset] [(.int (Int32.ofNat sn)), (.int (Int32.ofNat e1))]))
      refine own_up (fun tx kx => XS.isub X12.here hx rfl (hb hby d8_24) rfl kx) ?_
      show OwnOk p e below _ (T12.setTop (mkF m 25 #[.val (.ref a), .val (.int (Int32.ofNat sn)), .val (.int (Int32.ofNat e1)), .val (.int (Int32.ofNat n)), .unset] [(.int ((Int32.ofNat e1) - (Int32.ofNat sn)))]))
      rw [show ((Int32.ofNat e1) - (Int32.ofNat sn)) = (Int32.ofNat (e1 - sn)) from (Int32.ofNat_sub e1 sn h1).symm]
      show OwnOk p e below _ (T12.setTop (mkF m 25 #[.val (.ref a), .val (.int (Int32.ofNat sn)), .val (.int (Int32.ofNat e1)), .val (.int (Int32.ofNat n)), .unset] [(.int (Int32.ofNat (e1 - sn)))]))
      refine own_up (fun tx kx => XS.istore X12.here hx rfl (hb hby d8_25) rfl (l' := #[.val (.ref a), .val (.int (Int32.ofNat sn)), .val (.int (Int32.ofNat e1)), .val (.int (Int32.ofNat n)), .val (.int (Int32.ofNat (e1 - sn)))]) rfl kx) ?_
      show OwnOk p e below _ (T12.setTop (mkF m 27 #[.val (.ref a), .val (.int (Int32.ofNat sn)), .val (.int (Int32.ofNat e1)), .val (.int (Int32.ofNat n)), .val (.int (Int32.ofNat (e1 - sn)))] []))
      refine own_up (fun tx kx => XS.aloadN X12.here hx rfl (hb hby d8_27) rfl rfl kx) ?_
      show OwnOk p e below _ (T12.setTop (mkF m 28 #[.val (.ref a), .val (.int (Int32.ofNat sn)), .val (.int (Int32.ofNat e1)), .val (.int (Int32.ofNat n)), .val (.int (Int32.ofNat (e1 - sn)))] [(.ref a)]))
      refine own_callV X12 hx hZ (y := (⟨"java/lang/String", "isLatin1", "()Z"⟩ : MethodName)) (z := (⟨"java/lang/String", "isLatin1", "()Z"⟩ : MethodName)) hown (wd_75 hw) (wd_76 hw) (notFace_of_selects (args := #[]) (mvT hZ (wd_78 hw))) (wd_78 hw) (wd_77 hw) (wd_8 hw) (wd_79 hw) (by decide) (j_sLat l Z a0 hw a cz h0 n0 OL SC hcz F_coder_a) hh12 (argsL := []) (rest := []) E_a (by rw [hml]; rfl) (lenOf pd_5 rfl) rfl rfl (W := 0) rfl (hb hby d8_28) (by decide) (by decide) (by decide) (by decide) (fun T13 v13 L13 X13 hQ13 => ?_)
      obtain ⟨rfl, Nq13, hh13⟩ := hQ13
      have N13 := Fr.app N12 Nq13
      show OwnOk p e below _ (T13.setTop (mkF m 31 #[.val (.ref a), .val (.int (Int32.ofNat sn)), .val (.int (Int32.ofNat e1)), .val (.int (Int32.ofNat n)), .val (.int (Int32.ofNat (e1 - sn)))] [(.int (1 : Int32))]))
      refine own_up (fun tx kx => XS.ifNo X13.here hx rfl (hb hby d8_31) rfl ((if0 _ _).trans (feq (by decide)).1) kx) ?_
      show OwnOk p e below _ (T13.setTop (mkF m 34 #[.val (.ref a), .val (.int (Int32.ofNat sn)), .val (.int (Int32.ofNat e1)), .val (.int (Int32.ofNat n)), .val (.int (Int32.ofNat (e1 - sn)))] []))
      refine own_up (fun tx kx => XS.aloadN X13.here hx rfl (hb hby d8_34) rfl rfl kx) ?_
      show OwnOk p e below _ (T13.setTop (mkF m 35 #[.val (.ref a), .val (.int (Int32.ofNat sn)), .val (.int (Int32.ofNat e1)), .val (.int (Int32.ofNat n)), .val (.int (Int32.ofNat (e1 - sn)))] [(.ref a)]))
      obtain ⟨T14, X14, e14, st14⟩ := getF X13 hx hZ hown (host := "") (Or.inl (wd_25 hw)) Via.refl hh13 F_value_a (g := (mkF m 35 #[.val (.ref a), .val (.int (Int32.ofNat sn)), .val (.int (Int32.ofNat e1)), .val (.int (Int32.ofNat n)), .val (.int (Int32.ofNat (e1 - sn)))] [(.ref a)])) rfl rfl (hb hby d8_35)
      refine own_up st14 ?_
      show OwnOk p e below _ (T14.setTop (mkF m 38 #[.val (.ref a), .val (.int (Int32.ofNat sn)), .val (.int (Int32.ofNat e1)), .val (.int (Int32.ofNat n)), .val (.int (Int32.ofNat (e1 - sn)))] [(.ref u)]))
      refine own_up (fun tx kx => XS.iloadN X14.here hx rfl (hb hby d8_38) rfl kx) ?_
      show OwnOk p e below _ (T14.setTop (mkF m 39 #[.val (.ref a), .val (.int (Int32.ofNat sn)), .val (.int (Int32.ofNat e1)), .val (.int (Int32.ofNat n)), .val (.int (Int32.ofNat (e1 - sn)))] [(.int (Int32.ofNat sn)), (.ref u)]))
      refine own_up (fun tx kx => XS.iload X14.here hx rfl (hb hby d8_39) rfl kx) ?_
      show OwnOk p e below _ (T14.setTop (mkF m 41 #[.val (.ref a), .val (.int (Int32.ofNat sn)), .val (.int (Int32.ofNat e1)), .val (.int (Int32.ofNat n)), .val (.int (Int32.ofNat (e1 - sn)))] [(.int (Int32.ofNat (e1 - sn))), (.int (Int32.ofNat sn)), (.ref u)]))
      refine own_callSH X14 hB (own_ew hw) (sf := []) own_saf0 own_lt0 hx hZ (y := (⟨"java/lang/StringLatin1", "newString", "([BII)Ljava/lang/String;"⟩ : MethodName)) hown (wd_93 hw) (wd_94 hw) (wd_82 hw) (wd_95 hw) (by decide) (m_newS l Z a0 hw u ku n g sn (e1 - sn) h0 n0 OL V_u (by omega) h3 (fun q => hq (by rw [show e1 = n by omega]))) e14 (argsL := [(.ref u), (.int (Int32.ofNat sn)), (.int (Int32.ofNat (e1 - sn)))]) (rest := []) (by rw [hml]; rfl) (lenOf pd_15 rfl) rfl rfl (W := 0) rfl (hb hby d8_41) (by decide) (by decide) (by decide) (by decide) (fun s15 T15 v15 L15 X15 hB15 hZ15 hown15 hQ15 sf15 => ?_)
      obtain ⟨rr15, ur15, kr15, gr15, rfl, Nq15, Kq15, hg15, er15, fv15, fc15, vr15⟩ := hQ15
      have N15 := Fr.app N13 Nq15
      have OL15 := OL.keep Kq15 all0
      have KP15 := KP0.trans Kq15 all0
      show OwnOk p e below _ (T15.setTop (mkF m 44 #[.val (.ref a), .val (.int (Int32.ofNat sn)), .val (.int (Int32.ofNat e1)), .val (.int (Int32.ofNat n)), .val (.int (Int32.ofNat (e1 - sn)))] [(.ref rr15)]))
      refine own_up (fun tx kx => XS.goto X15.here hx rfl (pc0 := 44) (pc' := 57) rfl (hb hby d8_44) (by decide) (by decide) kx) ?_
      show OwnOk p e below _ (T15.setTop (mkF m 57 #[.val (.ref a), .val (.int (Int32.ofNat sn)), .val (.int (Int32.ofNat e1)), .val (.int (Int32.ofNat n)), .val (.int (Int32.ofNat (e1 - sn)))] [(.ref rr15)]))
      refine own_retRH X15 hB15 hZ15 (own_ew hw) hx (t := (.object "java/lang/String")) (show meth.sig.returnType = some (.object "java/lang/String") from hret) rfl hlk rfl (hb hby d8_57) rfl (Nat.le_of_ble_eq_true rfl) (Nat.le_of_ble_eq_true rfl) ?_
      exact ⟨rr15, ur15, kr15, gr15, rfl, N15, KP15, hg15, er15, fv15, fc15, vr15⟩
  · refine own_up (fun tx kx => XS.ifYes X12.here hx rfl (pc0 := 12) (pc' := 22) rfl (hb hby d8_12) rfl ((if0 _ _).trans (feq hz).2) (by decide) (by decide) kx) ?_
    show OwnOk p e below _ (T12.setTop (mkF m 22 #[.val (.ref a), .val (.int (Int32.ofNat sn)), .val (.int (Int32.ofNat e1)), .val (.int (Int32.ofNat n)), .unset] []))
    refine own_up (fun tx kx => XS.iloadN X12.here hx rfl (hb hby d8_22) rfl kx) ?_
    show OwnOk p e below _ (T12.setTop (mkF m 23 #[.val (.ref a), .val (.int (Int32.ofNat sn)), .val (.int (Int32.ofNat e1)), .val (.int (Int32.ofNat n)), .unset] [(.int (Int32.ofNat e1))]))
    refine own_up (fun tx kx => XS.iloadN X12.here hx rfl (hb hby d8_23) rfl kx) ?_
    show OwnOk p e below _ (T12.setTop (mkF m 24 #[.val (.ref a), .val (.int (Int32.ofNat sn)), .val (.int (Int32.ofNat e1)), .val (.int (Int32.ofNat n)), .unset] [(.int (Int32.ofNat sn)), (.int (Int32.ofNat e1))]))
    refine own_up (fun tx kx => XS.isub X12.here hx rfl (hb hby d8_24) rfl kx) ?_
    show OwnOk p e below _ (T12.setTop (mkF m 25 #[.val (.ref a), .val (.int (Int32.ofNat sn)), .val (.int (Int32.ofNat e1)), .val (.int (Int32.ofNat n)), .unset] [(.int ((Int32.ofNat e1) - (Int32.ofNat sn)))]))
    rw [show ((Int32.ofNat e1) - (Int32.ofNat sn)) = (Int32.ofNat (e1 - sn)) from (Int32.ofNat_sub e1 sn h1).symm]
    show OwnOk p e below _ (T12.setTop (mkF m 25 #[.val (.ref a), .val (.int (Int32.ofNat sn)), .val (.int (Int32.ofNat e1)), .val (.int (Int32.ofNat n)), .unset] [(.int (Int32.ofNat (e1 - sn)))]))
    refine own_up (fun tx kx => XS.istore X12.here hx rfl (hb hby d8_25) rfl (l' := #[.val (.ref a), .val (.int (Int32.ofNat sn)), .val (.int (Int32.ofNat e1)), .val (.int (Int32.ofNat n)), .val (.int (Int32.ofNat (e1 - sn)))]) rfl kx) ?_
    show OwnOk p e below _ (T12.setTop (mkF m 27 #[.val (.ref a), .val (.int (Int32.ofNat sn)), .val (.int (Int32.ofNat e1)), .val (.int (Int32.ofNat n)), .val (.int (Int32.ofNat (e1 - sn)))] []))
    refine own_up (fun tx kx => XS.aloadN X12.here hx rfl (hb hby d8_27) rfl rfl kx) ?_
    show OwnOk p e below _ (T12.setTop (mkF m 28 #[.val (.ref a), .val (.int (Int32.ofNat sn)), .val (.int (Int32.ofNat e1)), .val (.int (Int32.ofNat n)), .val (.int (Int32.ofNat (e1 - sn)))] [(.ref a)]))
    refine own_callV X12 hx hZ (y := (⟨"java/lang/String", "isLatin1", "()Z"⟩ : MethodName)) (z := (⟨"java/lang/String", "isLatin1", "()Z"⟩ : MethodName)) hown (wd_75 hw) (wd_76 hw) (notFace_of_selects (args := #[]) (mvT hZ (wd_78 hw))) (wd_78 hw) (wd_77 hw) (wd_8 hw) (wd_79 hw) (by decide) (j_sLat l Z a0 hw a cz h0 n0 OL SC hcz F_coder_a) hh12 (argsL := []) (rest := []) E_a (by rw [hml]; rfl) (lenOf pd_5 rfl) rfl rfl (W := 0) rfl (hb hby d8_28) (by decide) (by decide) (by decide) (by decide) (fun T16 v16 L16 X16 hQ16 => ?_)
    obtain ⟨rfl, Nq16, hh16⟩ := hQ16
    have N16 := Fr.app N12 Nq16
    show OwnOk p e below _ (T16.setTop (mkF m 31 #[.val (.ref a), .val (.int (Int32.ofNat sn)), .val (.int (Int32.ofNat e1)), .val (.int (Int32.ofNat n)), .val (.int (Int32.ofNat (e1 - sn)))] [(.int (1 : Int32))]))
    refine own_up (fun tx kx => XS.ifNo X16.here hx rfl (hb hby d8_31) rfl ((if0 _ _).trans (feq (by decide)).1) kx) ?_
    show OwnOk p e below _ (T16.setTop (mkF m 34 #[.val (.ref a), .val (.int (Int32.ofNat sn)), .val (.int (Int32.ofNat e1)), .val (.int (Int32.ofNat n)), .val (.int (Int32.ofNat (e1 - sn)))] []))
    refine own_up (fun tx kx => XS.aloadN X16.here hx rfl (hb hby d8_34) rfl rfl kx) ?_
    show OwnOk p e below _ (T16.setTop (mkF m 35 #[.val (.ref a), .val (.int (Int32.ofNat sn)), .val (.int (Int32.ofNat e1)), .val (.int (Int32.ofNat n)), .val (.int (Int32.ofNat (e1 - sn)))] [(.ref a)]))
    obtain ⟨T17, X17, e17, st17⟩ := getF X16 hx hZ hown (host := "") (Or.inl (wd_25 hw)) Via.refl hh16 F_value_a (g := (mkF m 35 #[.val (.ref a), .val (.int (Int32.ofNat sn)), .val (.int (Int32.ofNat e1)), .val (.int (Int32.ofNat n)), .val (.int (Int32.ofNat (e1 - sn)))] [(.ref a)])) rfl rfl (hb hby d8_35)
    refine own_up st17 ?_
    show OwnOk p e below _ (T17.setTop (mkF m 38 #[.val (.ref a), .val (.int (Int32.ofNat sn)), .val (.int (Int32.ofNat e1)), .val (.int (Int32.ofNat n)), .val (.int (Int32.ofNat (e1 - sn)))] [(.ref u)]))
    refine own_up (fun tx kx => XS.iloadN X17.here hx rfl (hb hby d8_38) rfl kx) ?_
    show OwnOk p e below _ (T17.setTop (mkF m 39 #[.val (.ref a), .val (.int (Int32.ofNat sn)), .val (.int (Int32.ofNat e1)), .val (.int (Int32.ofNat n)), .val (.int (Int32.ofNat (e1 - sn)))] [(.int (Int32.ofNat sn)), (.ref u)]))
    refine own_up (fun tx kx => XS.iload X17.here hx rfl (hb hby d8_39) rfl kx) ?_
    show OwnOk p e below _ (T17.setTop (mkF m 41 #[.val (.ref a), .val (.int (Int32.ofNat sn)), .val (.int (Int32.ofNat e1)), .val (.int (Int32.ofNat n)), .val (.int (Int32.ofNat (e1 - sn)))] [(.int (Int32.ofNat (e1 - sn))), (.int (Int32.ofNat sn)), (.ref u)]))
    refine own_callSH X17 hB (own_ew hw) (sf := []) own_saf0 own_lt0 hx hZ (y := (⟨"java/lang/StringLatin1", "newString", "([BII)Ljava/lang/String;"⟩ : MethodName)) hown (wd_93 hw) (wd_94 hw) (wd_82 hw) (wd_95 hw) (by decide) (m_newS l Z a0 hw u ku n g sn (e1 - sn) h0 n0 OL V_u (by omega) h3 (fun q => hz (by rw [q.1]; rfl))) e17 (argsL := [(.ref u), (.int (Int32.ofNat sn)), (.int (Int32.ofNat (e1 - sn)))]) (rest := []) (by rw [hml]; rfl) (lenOf pd_15 rfl) rfl rfl (W := 0) rfl (hb hby d8_41) (by decide) (by decide) (by decide) (by decide) (fun s18 T18 v18 L18 X18 hB18 hZ18 hown18 hQ18 sf18 => ?_)
    obtain ⟨rr18, ur18, kr18, gr18, rfl, Nq18, Kq18, hg18, er18, fv18, fc18, vr18⟩ := hQ18
    have N18 := Fr.app N16 Nq18
    have OL18 := OL.keep Kq18 all0
    have KP18 := KP0.trans Kq18 all0
    show OwnOk p e below _ (T18.setTop (mkF m 44 #[.val (.ref a), .val (.int (Int32.ofNat sn)), .val (.int (Int32.ofNat e1)), .val (.int (Int32.ofNat n)), .val (.int (Int32.ofNat (e1 - sn)))] [(.ref rr18)]))
    refine own_up (fun tx kx => XS.goto X18.here hx rfl (pc0 := 44) (pc' := 57) rfl (hb hby d8_44) (by decide) (by decide) kx) ?_
    show OwnOk p e below _ (T18.setTop (mkF m 57 #[.val (.ref a), .val (.int (Int32.ofNat sn)), .val (.int (Int32.ofNat e1)), .val (.int (Int32.ofNat n)), .val (.int (Int32.ofNat (e1 - sn)))] [(.ref rr18)]))
    refine own_retRH X18 hB18 hZ18 (own_ew hw) hx (t := (.object "java/lang/String")) (show meth.sig.returnType = some (.object "java/lang/String") from hret) rfl hlk rfl (hb hby d8_57) rfl (Nat.le_of_ble_eq_true rfl) (Nat.le_of_ble_eq_true rfl) ?_
    exact ⟨rr18, ur18, kr18, gr18, rfl, N18, KP18, hg18, er18, fv18, fc18, vr18⟩
def Q_m_trim (Z : State) (n : Nat) (g : Nat → Int32) (h0 : Heap) (n0 : Nat) (v : Option Value) (h : Heap) (L : List Loc) : Prop := ∃ (r ur : Addr) (kr : ClassId) (gg : Nat → Int32), v = some (.ref r) ∧ Fr n0 L ∧ Keep h0 h [] ∧ own_ts n (fun j => own_c8 (g j)) ≤ own_te n (fun j => own_c8 (g j)) ∧ own_te n (fun j => own_c8 (g j)) ≤ n ∧ (∀ j, j < own_te n (fun j => own_c8 (g j)) - own_ts n (fun j => own_c8 (g j)) → gg j = g (own_ts n (fun j => own_c8 (g j)) + j)) ∧ (Exa Z h r "java/lang/String") ∧ (Fld Z h r "java/lang/String" "value" "[B" (.ref ur)) ∧ (Fld Z h r "java/lang/String" "coder" "B" (.int (0 : Int32))) ∧ (Arv Z h ur kr .byte (Int32.ofNat (own_te n (fun j => own_c8 (g j)) - own_ts n (fun j => own_c8 (g j)))) (own_F (own_te n (fun j => own_c8 (g j)) - own_ts n (fun j => own_c8 (g j))) gg) (.int (0 : Int32)))
theorem own_allws {n : Nat} {c : Nat → Int32} (hn : n ≤ 4) (h : own_ts n c = n) (i : Nat) : own_nw n c i = 0 := by
  by_cases hi : i < n
  · unfold own_ts at h
    split at h
    · next q0 =>
      split at h
      · next q1 =>
        split at h
        · next q2 =>
          split at h
          · next q3 =>
            have : i = 0 ∨ i = 1 ∨ i = 2 ∨ i = 3 := by omega
            rcases this with rfl | rfl | rfl | rfl
            · exact q0
            · exact q1
            · exact q2
            · exact q3
          · next q3 => exact absurd (by unfold own_nw; rw [if_neg (by omega)]) q3
        · next q2 => exact absurd (by unfold own_nw; rw [if_neg (by omega)]) q2
      · next q1 => exact absurd (by unfold own_nw; rw [if_neg (by omega)]) q1
    · next q0 => exact absurd (by unfold own_nw; rw [if_neg (by omega)]) q0
  · unfold own_nw; rw [if_neg hi]
theorem own_nwA {n e : Nat} {g : Nat → Int32} (h : ∀ j, e ≤ j → j < n → own_ws (own_c8 (g j)) = 1) (i : Nat) (hi : e ≤ i) : own_nw n (fun j => own_c8 (g j)) i = 0 := by
  by_cases q : i < n
  · exact own_nw0 (Or.inr (h i hi q))
  · exact own_nw0 (Or.inl (by omega))
set_option maxRecDepth 65536 in
set_option maxHeartbeats 40000000 in
theorem trB_0 (l : Launch) (Z : State) (a0 : Array Value) (hw : ∀ d ∈ tables_1, d.before a0 Z = true) (a u : Addr) (ku : ClassId) (n : Nat) (g : Nat → Int32) (cz : Int32) (fm : Value) (hfm : fm.isRef = true) (sn : Nat) {p : Program} {e : Env} {s s' : State} {m : MethodId} {below : List Frame} {meth : Method} {c : Code} {T : State} (hx : p.tables.exec = Jvm.exec) (hby : c.code = prog_8_method_2_code) (hml : c.maxLocals = 3) (hret : meth.sig.returnType = some (.object "java/lang/String")) (hlk : meth.locks = false) {locs : List Loc} (X0 : Stand p l e ({ frames := 5, cells := 4, slots := 12, locals := 110 } : Room) s' m #[(.ref a)] below meth c T locs 0 0) {h0 : Heap} (e0 : T.heap = h0) (hZ : Z.Warmed39 s'.vm) (hown : s'.vm.findClass "com/example/strict_replay/strictreplay/rules/FieldValues" = some m.cls) (n0 : Nat) (OL : Old Z n0 h0) (N0 : Fr n0 locs) (hB : own_FrH Z own_EL s s' h0) (SC : Sta Z Z.heap "java/lang/String" "COMPACT_STRINGS" "Z" (.int cz)) (hcz : ¬ cz = 0) (SF : Sta Z Z.heap "jdk/internal/util/Preconditions" "SIOOBE_FORMATTER" "Ljava/util/function/BiFunction;" fm) (E_a : Exa Z h0 a "java/lang/String") (F_value_a : Fld Z h0 a "java/lang/String" "value" "[B" (.ref u)) (F_coder_a : Fld Z h0 a "java/lang/String" "coder" "B" (.int (0 : Int32))) (V_u : Arv Z h0 u ku .byte (Int32.ofNat n) (own_F n g) (.int (0 : Int32))) (h3 : n ≤ 4) (hs : own_ts n (fun j => own_c8 (g j)) = sn) (hse : sn ≤ 0) (hen : 0 ≤ n) (hw1 : ∀ j, 0 ≤ j → j < n → own_ws (own_c8 (g j)) = 1) (hs2 : sn = n ∨ (sn < n ∧ own_ws (own_c8 (g sn)) = 0)) :
    OwnOk p e below (own_KH Z own_EL s (Q_m_trim Z n g h0 n0) ({ frames := 5, cells := 4, slots := 12, locals := 110 } : Room).cells ({ frames := 5, cells := 4, slots := 12, locals := 110 } : Room).slots) (T.setTop (mkF m 29 #[.val (.ref a), .val (.int (Int32.ofNat sn)), .val (.int (Int32.ofNat 0))] [])) := by
  have Z0 : n0 ≤ h0.size := OL.1 ▸ OL.2.1
  show OwnOk p e below _ (T.setTop (mkF m 29 #[.val (.ref a), .val (.int (Int32.ofNat sn)), .val (.int (Int32.ofNat 0))] []))
  have KP0 : Keep h0 h0 [] := Keep.refl h0 _
  refine own_up (fun tx kx => XS.iloadN X0.here hx rfl (hb hby d5_29) rfl kx) ?_
  show OwnOk p e below _ (T.setTop (mkF m 30 #[.val (.ref a), .val (.int (Int32.ofNat sn)), .val (.int (Int32.ofNat 0))] [(.int (Int32.ofNat 0))]))
  refine own_up (fun tx kx => XS.iloadN X0.here hx rfl (hb hby d5_30) rfl kx) ?_
  show OwnOk p e below _ (T.setTop (mkF m 31 #[.val (.ref a), .val (.int (Int32.ofNat sn)), .val (.int (Int32.ofNat 0))] [(.int (Int32.ofNat sn)), (.int (Int32.ofNat 0))]))
  by_cases hk : (Int32.ofNat sn) < (Int32.ofNat 0)
  · refine own_up (fun tx kx => XS.icmpNo X0.here hx rfl (hb hby d5_31) rfl (tlt hk).2.2.2 kx) ?_
    show OwnOk p e below _ (T.setTop (mkF m 34 #[.val (.ref a), .val (.int (Int32.ofNat sn)), .val (.int (Int32.ofNat 0))] []))
    have q1 : sn < 0 := Nat.lt_of_not_le fun q => own_nlt q (by omega) hk
    exact absurd q1 (Nat.not_lt_zero sn)
  · refine own_up (fun tx kx => XS.icmpYes X0.here hx rfl (pc0 := 31) (pc' := 53) rfl (hb hby d5_31) rfl (flt hk).2.2.2 (by decide) (by decide) kx) ?_
    show OwnOk p e below _ (T.setTop (mkF m 53 #[.val (.ref a), .val (.int (Int32.ofNat sn)), .val (.int (Int32.ofNat 0))] []))
    have q1 : ¬ sn < 0 := fun q => hk (own_lt q (by decide))
    have hsn : sn = n := by
      rcases hs2 with q | ⟨q, r⟩
      · exact q
      · have r2 := hw1 sn (by omega) q
        rw [r] at r2
        exact absurd r2 (by decide)
    have hne : n = 0 := by omega
    have hte : own_te n (fun j => own_c8 (g j)) = 0 := by
      have z : ∀ i, own_nw n (fun j => own_c8 (g j)) i = 0 := fun i => by
        have hsa := hs
        rw [hsn] at hsa
        exact own_allws h3 hsa i
      unfold own_te; rw [if_pos (z 3), if_pos (z 2), if_pos (z 1), if_pos (z 0)]; exact hne
    refine own_up (fun tx kx => XS.aloadN X0.here hx rfl (hb hby d5_53) rfl rfl kx) ?_
    show OwnOk p e below _ (T.setTop (mkF m 54 #[.val (.ref a), .val (.int (Int32.ofNat sn)), .val (.int (Int32.ofNat 0))] [(.ref a)]))
    refine own_up (fun tx kx => XS.iloadN X0.here hx rfl (hb hby d5_54) rfl kx) ?_
    show OwnOk p e below _ (T.setTop (mkF m 55 #[.val (.ref a), .val (.int (Int32.ofNat sn)), .val (.int (Int32.ofNat 0))] [(.int (Int32.ofNat sn)), (.ref a)]))
    refine own_up (fun tx kx => XS.iloadN X0.here hx rfl (hb hby d5_55) rfl kx) ?_
    show OwnOk p e below _ (T.setTop (mkF m 56 #[.val (.ref a), .val (.int (Int32.ofNat sn)), .val (.int (Int32.ofNat 0))] [(.int (Int32.ofNat 0)), (.int (Int32.ofNat sn)), (.ref a)]))
    refine own_callVH X0 hB (own_ew hw) (sf := []) own_saf0 own_lt0 hx hZ (y := (⟨"java/lang/String", "substring", "(II)Ljava/lang/String;"⟩ : MethodName)) (z := (⟨"java/lang/String", "substring", "(II)Ljava/lang/String;"⟩ : MethodName)) hown (wd_42 hw) (wd_43 hw) (notFace_of_selects (args := #[]) (mvT hZ (wd_45 hw))) (wd_45 hw) (wd_44 hw) (wd_8 hw) (wd_46 hw) (by decide) (m_sub l Z a0 hw a u ku n g sn 0 cz fm hfm h0 n0 OL SC hcz SF E_a F_value_a F_coder_a V_u hse hen h3) e0 (argsL := [(.int (Int32.ofNat sn)), (.int (Int32.ofNat 0))]) (rest := []) E_a (by rw [hml]; rfl) (lenOf pd_16 rfl) rfl rfl (W := 0) rfl (hb hby d5_56) (by decide) (by decide) (by decide) (by decide) (fun s11 T11 v11 L11 X11 hB11 hZ11 hown11 hQ11 sf11 => ?_)
    obtain ⟨rr11, ur11, kr11, gr11, rfl, Nq11, Kq11, hg11, er11, fv11, fc11, vr11⟩ := hQ11
    have N11 := Fr.app N0 Nq11
    have OL11 := OL.keep Kq11 all0
    have KP11 := KP0.trans Kq11 all0
    show OwnOk p e below _ (T11.setTop (mkF m 59 #[.val (.ref a), .val (.int (Int32.ofNat sn)), .val (.int (Int32.ofNat 0))] [(.ref rr11)]))
    refine own_retRH X11 hB11 hZ11 (own_ew hw) hx (t := (.object "java/lang/String")) (show meth.sig.returnType = some (.object "java/lang/String") from hret) rfl hlk rfl (hb hby d5_59) rfl (Nat.le_of_ble_eq_true rfl) (Nat.le_of_ble_eq_true rfl) ?_
    exact ⟨rr11, ur11, kr11, gr11, rfl, N11, KP11, by rw [hs, hte]; exact hse, by rw [hte]; exact hen, by rw [hs, hte]; exact hg11, er11, fv11, fc11, by rw [hs, hte]; exact vr11⟩
set_option maxRecDepth 65536 in
set_option maxHeartbeats 40000000 in
theorem trB_1 (l : Launch) (Z : State) (a0 : Array Value) (hw : ∀ d ∈ tables_1, d.before a0 Z = true) (a u : Addr) (ku : ClassId) (n : Nat) (g : Nat → Int32) (cz : Int32) (fm : Value) (hfm : fm.isRef = true) (sn : Nat) {p : Program} {e : Env} {s s' : State} {m : MethodId} {below : List Frame} {meth : Method} {c : Code} {T : State} (hx : p.tables.exec = Jvm.exec) (hby : c.code = prog_8_method_2_code) (hml : c.maxLocals = 3) (hret : meth.sig.returnType = some (.object "java/lang/String")) (hlk : meth.locks = false) {locs : List Loc} (X0 : Stand p l e ({ frames := 5, cells := 4, slots := 12, locals := 110 } : Room) s' m #[(.ref a)] below meth c T locs 0 0) {h0 : Heap} (e0 : T.heap = h0) (hZ : Z.Warmed39 s'.vm) (hown : s'.vm.findClass "com/example/strict_replay/strictreplay/rules/FieldValues" = some m.cls) (n0 : Nat) (OL : Old Z n0 h0) (N0 : Fr n0 locs) (hB : own_FrH Z own_EL s s' h0) (SC : Sta Z Z.heap "java/lang/String" "COMPACT_STRINGS" "Z" (.int cz)) (hcz : ¬ cz = 0) (SF : Sta Z Z.heap "jdk/internal/util/Preconditions" "SIOOBE_FORMATTER" "Ljava/util/function/BiFunction;" fm) (E_a : Exa Z h0 a "java/lang/String") (F_value_a : Fld Z h0 a "java/lang/String" "value" "[B" (.ref u)) (F_coder_a : Fld Z h0 a "java/lang/String" "coder" "B" (.int (0 : Int32))) (V_u : Arv Z h0 u ku .byte (Int32.ofNat n) (own_F n g) (.int (0 : Int32))) (h3 : n ≤ 4) (hs : own_ts n (fun j => own_c8 (g j)) = sn) (hse : sn ≤ 1) (hen : 1 ≤ n) (hw1 : ∀ j, 1 ≤ j → j < n → own_ws (own_c8 (g j)) = 1) (hs2 : sn = n ∨ (sn < n ∧ own_ws (own_c8 (g sn)) = 0)) :
    OwnOk p e below (own_KH Z own_EL s (Q_m_trim Z n g h0 n0) ({ frames := 5, cells := 4, slots := 12, locals := 110 } : Room).cells ({ frames := 5, cells := 4, slots := 12, locals := 110 } : Room).slots) (T.setTop (mkF m 29 #[.val (.ref a), .val (.int (Int32.ofNat sn)), .val (.int (Int32.ofNat 1))] [])) := by
  have Z0 : n0 ≤ h0.size := OL.1 ▸ OL.2.1
  show OwnOk p e below _ (T.setTop (mkF m 29 #[.val (.ref a), .val (.int (Int32.ofNat sn)), .val (.int (Int32.ofNat 1))] []))
  have KP0 : Keep h0 h0 [] := Keep.refl h0 _
  refine own_up (fun tx kx => XS.iloadN X0.here hx rfl (hb hby d5_29) rfl kx) ?_
  show OwnOk p e below _ (T.setTop (mkF m 30 #[.val (.ref a), .val (.int (Int32.ofNat sn)), .val (.int (Int32.ofNat 1))] [(.int (Int32.ofNat 1))]))
  refine own_up (fun tx kx => XS.iloadN X0.here hx rfl (hb hby d5_30) rfl kx) ?_
  show OwnOk p e below _ (T.setTop (mkF m 31 #[.val (.ref a), .val (.int (Int32.ofNat sn)), .val (.int (Int32.ofNat 1))] [(.int (Int32.ofNat sn)), (.int (Int32.ofNat 1))]))
  by_cases hk : (Int32.ofNat sn) < (Int32.ofNat 1)
  · refine own_up (fun tx kx => XS.icmpNo X0.here hx rfl (hb hby d5_31) rfl (tlt hk).2.2.2 kx) ?_
    show OwnOk p e below _ (T.setTop (mkF m 34 #[.val (.ref a), .val (.int (Int32.ofNat sn)), .val (.int (Int32.ofNat 1))] []))
    have q1 : sn < 1 := Nat.lt_of_not_le fun q => own_nlt q (by omega) hk
    refine own_up (fun tx kx => XS.aloadN X0.here hx rfl (hb hby d5_34) rfl rfl kx) ?_
    show OwnOk p e below _ (T.setTop (mkF m 35 #[.val (.ref a), .val (.int (Int32.ofNat sn)), .val (.int (Int32.ofNat 1))] [(.ref a)]))
    refine own_up (fun tx kx => XS.iloadN X0.here hx rfl (hb hby d5_35) rfl kx) ?_
    show OwnOk p e below _ (T.setTop (mkF m 36 #[.val (.ref a), .val (.int (Int32.ofNat sn)), .val (.int (Int32.ofNat 1))] [(.int (Int32.ofNat 1)), (.ref a)]))
    refine own_up (fun tx kx => XS.iconst X0.here hx rfl (hb hby d5_36) kx) ?_
    show OwnOk p e below _ (T.setTop (mkF m 37 #[.val (.ref a), .val (.int (Int32.ofNat sn)), .val (.int (Int32.ofNat 1))] [(.int (1 : Int32)), (.int (Int32.ofNat 1)), (.ref a)]))
    refine own_up (fun tx kx => XS.isub X0.here hx rfl (hb hby d5_37) rfl kx) ?_
    show OwnOk p e below _ (T.setTop (mkF m 38 #[.val (.ref a), .val (.int (Int32.ofNat sn)), .val (.int (Int32.ofNat 1))] [(.int ((Int32.ofNat 1) - (1 : Int32))), (.ref a)]))
    rw [show ((Int32.ofNat 1) - (1 : Int32)) = (Int32.ofNat 0) from (show (Int32.ofNat 1) - (1 : Int32) = Int32.ofNat 0 by decide)]
    show OwnOk p e below _ (T.setTop (mkF m 38 #[.val (.ref a), .val (.int (Int32.ofNat sn)), .val (.int (Int32.ofNat 1))] [(.int (Int32.ofNat 0)), (.ref a)]))
    refine own_callV X0 hx hZ (y := (⟨"java/lang/String", "charAt", "(I)C"⟩ : MethodName)) (z := (⟨"java/lang/String", "charAt", "(I)C"⟩ : MethodName)) hown (wd_70 hw) (wd_71 hw) (notFace_of_selects (args := #[]) (mvT hZ (wd_73 hw))) (wd_73 hw) (wd_72 hw) (wd_8 hw) (wd_74 hw) (by decide) (j_charAt l Z a0 hw a u ku n g cz 0 fm hfm h0 n0 OL SC hcz SF E_a F_value_a F_coder_a V_u (by omega) (by omega)) e0 (argsL := [(.int (Int32.ofNat 0))]) (rest := []) E_a (by rw [hml]; rfl) (lenOf pd_17 rfl) rfl rfl (W := 0) rfl (hb hby d5_38) (by decide) (by decide) (by decide) (by decide) (fun T11 v11 L11 X11 hQ11 => ?_)
    obtain ⟨rfl, Nq11, hh11⟩ := hQ11
    have N11 := Fr.app N0 Nq11
    show OwnOk p e below _ (T11.setTop (mkF m 41 #[.val (.ref a), .val (.int (Int32.ofNat sn)), .val (.int (Int32.ofNat 1))] [(.int (own_c8 (g 0)))]))
    refine own_callS X11 hx hZ (y := (⟨"com/example/strict_replay/strictreplay/rules/FieldValues", "isSpaceOrTab", "(C)Z"⟩ : MethodName)) hown (wd_90 hw) (wd_91 hw) (wd_29 hw) (wd_92 hw) (by decide) (m_sot l Z a0 hw (own_c8 (g 0)) h0 n0 OL) hh11 (argsL := [(.int (own_c8 (g 0)))]) (rest := []) (by rw [hml]; rfl) (lenOf pd_18 rfl) rfl rfl (W := 0) rfl (hb hby d5_41) (by decide) (by decide) (by decide) (by decide) (fun T12 v12 L12 X12 hQ12 => ?_)
    obtain ⟨rfl, Nq12, hh12⟩ := hQ12
    have N12 := Fr.app N11 Nq12
    show OwnOk p e below _ (T12.setTop (mkF m 44 #[.val (.ref a), .val (.int (Int32.ofNat sn)), .val (.int (Int32.ofNat 1))] [(.int (own_ws (own_c8 (g 0))))]))
    by_cases hz : (own_ws (own_c8 (g 0))) = (0 : Int32)
    · refine own_up (fun tx kx => XS.ifYes X12.here hx rfl (pc0 := 44) (pc' := 53) rfl (hb hby d5_44) rfl ((if0 _ _).trans (teq hz).1) (by decide) (by decide) kx) ?_
      show OwnOk p e below _ (T12.setTop (mkF m 53 #[.val (.ref a), .val (.int (Int32.ofNat sn)), .val (.int (Int32.ofNat 1))] []))
      have hte : own_te n (fun j => own_c8 (g j)) = 1 := by unfold own_te; rw [if_pos (own_nwA hw1 3 (by decide)), if_pos (own_nwA hw1 2 (by decide)), if_pos (own_nwA hw1 1 (by decide)), if_neg (own_nw1 (i := 0) (c := (fun j => own_c8 (g j))) (by omega) hz)]
      refine own_up (fun tx kx => XS.aloadN X12.here hx rfl (hb hby d5_53) rfl rfl kx) ?_
      show OwnOk p e below _ (T12.setTop (mkF m 54 #[.val (.ref a), .val (.int (Int32.ofNat sn)), .val (.int (Int32.ofNat 1))] [(.ref a)]))
      refine own_up (fun tx kx => XS.iloadN X12.here hx rfl (hb hby d5_54) rfl kx) ?_
      show OwnOk p e below _ (T12.setTop (mkF m 55 #[.val (.ref a), .val (.int (Int32.ofNat sn)), .val (.int (Int32.ofNat 1))] [(.int (Int32.ofNat sn)), (.ref a)]))
      refine own_up (fun tx kx => XS.iloadN X12.here hx rfl (hb hby d5_55) rfl kx) ?_
      show OwnOk p e below _ (T12.setTop (mkF m 56 #[.val (.ref a), .val (.int (Int32.ofNat sn)), .val (.int (Int32.ofNat 1))] [(.int (Int32.ofNat 1)), (.int (Int32.ofNat sn)), (.ref a)]))
      refine own_callVH X12 hB (own_ew hw) (sf := []) own_saf0 own_lt0 hx hZ (y := (⟨"java/lang/String", "substring", "(II)Ljava/lang/String;"⟩ : MethodName)) (z := (⟨"java/lang/String", "substring", "(II)Ljava/lang/String;"⟩ : MethodName)) hown (wd_42 hw) (wd_43 hw) (notFace_of_selects (args := #[]) (mvT hZ (wd_45 hw))) (wd_45 hw) (wd_44 hw) (wd_8 hw) (wd_46 hw) (by decide) (m_sub l Z a0 hw a u ku n g sn 1 cz fm hfm h0 n0 OL SC hcz SF E_a F_value_a F_coder_a V_u hse hen h3) hh12 (argsL := [(.int (Int32.ofNat sn)), (.int (Int32.ofNat 1))]) (rest := []) E_a (by rw [hml]; rfl) (lenOf pd_16 rfl) rfl rfl (W := 0) rfl (hb hby d5_56) (by decide) (by decide) (by decide) (by decide) (fun s13 T13 v13 L13 X13 hB13 hZ13 hown13 hQ13 sf13 => ?_)
      obtain ⟨rr13, ur13, kr13, gr13, rfl, Nq13, Kq13, hg13, er13, fv13, fc13, vr13⟩ := hQ13
      have N13 := Fr.app N12 Nq13
      have OL13 := OL.keep Kq13 all0
      have KP13 := KP0.trans Kq13 all0
      show OwnOk p e below _ (T13.setTop (mkF m 59 #[.val (.ref a), .val (.int (Int32.ofNat sn)), .val (.int (Int32.ofNat 1))] [(.ref rr13)]))
      refine own_retRH X13 hB13 hZ13 (own_ew hw) hx (t := (.object "java/lang/String")) (show meth.sig.returnType = some (.object "java/lang/String") from hret) rfl hlk rfl (hb hby d5_59) rfl (Nat.le_of_ble_eq_true rfl) (Nat.le_of_ble_eq_true rfl) ?_
      exact ⟨rr13, ur13, kr13, gr13, rfl, N13, KP13, by rw [hs, hte]; exact hse, by rw [hte]; exact hen, by rw [hs, hte]; exact hg13, er13, fv13, fc13, by rw [hs, hte]; exact vr13⟩
    · refine own_up (fun tx kx => XS.ifNo X12.here hx rfl (hb hby d5_44) rfl ((if0 _ _).trans (feq hz).1) kx) ?_
      show OwnOk p e below _ (T12.setTop (mkF m 47 #[.val (.ref a), .val (.int (Int32.ofNat sn)), .val (.int (Int32.ofNat 1))] []))
      have hw2 : ∀ j, 0 ≤ j → j < n → own_ws (own_c8 (g j)) = 1 := fun j q r => by
        by_cases q2 : 1 ≤ j
        · exact hw1 j q2 r
        · have q3 : j = 0 := by omega
          subst q3; exact own_ws_1 hz
      refine own_up (fun tx kx => XS.iinc X12.here hx rfl (hb hby d5_47) rfl (l' := #[.val (.ref a), .val (.int (Int32.ofNat sn)), .val (.int ((Int32.ofNat 1) + (-1 : Int32)))]) rfl kx) ?_
      show OwnOk p e below _ (T12.setTop (mkF m 50 #[.val (.ref a), .val (.int (Int32.ofNat sn)), .val (.int ((Int32.ofNat 1) + (-1 : Int32)))] []))
      rw [show ((Int32.ofNat 1) + (-1 : Int32)) = (Int32.ofNat 0) from (show (Int32.ofNat 1) + (-1 : Int32) = Int32.ofNat 0 by decide)]
      show OwnOk p e below _ (T12.setTop (mkF m 50 #[.val (.ref a), .val (.int (Int32.ofNat sn)), .val (.int (Int32.ofNat 0))] []))
      refine own_up (fun tx kx => XS.goto X12.here hx rfl (pc0 := 50) (pc' := 29) rfl (hb hby d5_50) (by decide) (by decide) kx) ?_
      show OwnOk p e below _ (T12.setTop (mkF m 29 #[.val (.ref a), .val (.int (Int32.ofNat sn)), .val (.int (Int32.ofNat 0))] []))
      exact trB_0 l Z a0 hw a u ku n g cz fm hfm sn hx hby hml hret hlk (X12.mono (Nat.le_of_ble_eq_true rfl) (Nat.le_of_ble_eq_true rfl)) hh12 hZ hown n0 OL N12 hB SC hcz SF E_a F_value_a F_coder_a V_u h3 hs (by omega) (by omega) hw2 hs2
  · refine own_up (fun tx kx => XS.icmpYes X0.here hx rfl (pc0 := 31) (pc' := 53) rfl (hb hby d5_31) rfl (flt hk).2.2.2 (by decide) (by decide) kx) ?_
    show OwnOk p e below _ (T.setTop (mkF m 53 #[.val (.ref a), .val (.int (Int32.ofNat sn)), .val (.int (Int32.ofNat 1))] []))
    have q1 : ¬ sn < 1 := fun q => hk (own_lt q (by decide))
    have hsn : sn = n := by
      rcases hs2 with q | ⟨q, r⟩
      · exact q
      · have r2 := hw1 sn (by omega) q
        rw [r] at r2
        exact absurd r2 (by decide)
    have hne : n = 1 := by omega
    have hte : own_te n (fun j => own_c8 (g j)) = 1 := by
      have z : ∀ i, own_nw n (fun j => own_c8 (g j)) i = 0 := fun i => by
        have hsa := hs
        rw [hsn] at hsa
        exact own_allws h3 hsa i
      unfold own_te; rw [if_pos (z 3), if_pos (z 2), if_pos (z 1), if_pos (z 0)]; exact hne
    refine own_up (fun tx kx => XS.aloadN X0.here hx rfl (hb hby d5_53) rfl rfl kx) ?_
    show OwnOk p e below _ (T.setTop (mkF m 54 #[.val (.ref a), .val (.int (Int32.ofNat sn)), .val (.int (Int32.ofNat 1))] [(.ref a)]))
    refine own_up (fun tx kx => XS.iloadN X0.here hx rfl (hb hby d5_54) rfl kx) ?_
    show OwnOk p e below _ (T.setTop (mkF m 55 #[.val (.ref a), .val (.int (Int32.ofNat sn)), .val (.int (Int32.ofNat 1))] [(.int (Int32.ofNat sn)), (.ref a)]))
    refine own_up (fun tx kx => XS.iloadN X0.here hx rfl (hb hby d5_55) rfl kx) ?_
    show OwnOk p e below _ (T.setTop (mkF m 56 #[.val (.ref a), .val (.int (Int32.ofNat sn)), .val (.int (Int32.ofNat 1))] [(.int (Int32.ofNat 1)), (.int (Int32.ofNat sn)), (.ref a)]))
    refine own_callVH X0 hB (own_ew hw) (sf := []) own_saf0 own_lt0 hx hZ (y := (⟨"java/lang/String", "substring", "(II)Ljava/lang/String;"⟩ : MethodName)) (z := (⟨"java/lang/String", "substring", "(II)Ljava/lang/String;"⟩ : MethodName)) hown (wd_42 hw) (wd_43 hw) (notFace_of_selects (args := #[]) (mvT hZ (wd_45 hw))) (wd_45 hw) (wd_44 hw) (wd_8 hw) (wd_46 hw) (by decide) (m_sub l Z a0 hw a u ku n g sn 1 cz fm hfm h0 n0 OL SC hcz SF E_a F_value_a F_coder_a V_u hse hen h3) e0 (argsL := [(.int (Int32.ofNat sn)), (.int (Int32.ofNat 1))]) (rest := []) E_a (by rw [hml]; rfl) (lenOf pd_16 rfl) rfl rfl (W := 0) rfl (hb hby d5_56) (by decide) (by decide) (by decide) (by decide) (fun s14 T14 v14 L14 X14 hB14 hZ14 hown14 hQ14 sf14 => ?_)
    obtain ⟨rr14, ur14, kr14, gr14, rfl, Nq14, Kq14, hg14, er14, fv14, fc14, vr14⟩ := hQ14
    have N14 := Fr.app N0 Nq14
    have OL14 := OL.keep Kq14 all0
    have KP14 := KP0.trans Kq14 all0
    show OwnOk p e below _ (T14.setTop (mkF m 59 #[.val (.ref a), .val (.int (Int32.ofNat sn)), .val (.int (Int32.ofNat 1))] [(.ref rr14)]))
    refine own_retRH X14 hB14 hZ14 (own_ew hw) hx (t := (.object "java/lang/String")) (show meth.sig.returnType = some (.object "java/lang/String") from hret) rfl hlk rfl (hb hby d5_59) rfl (Nat.le_of_ble_eq_true rfl) (Nat.le_of_ble_eq_true rfl) ?_
    exact ⟨rr14, ur14, kr14, gr14, rfl, N14, KP14, by rw [hs, hte]; exact hse, by rw [hte]; exact hen, by rw [hs, hte]; exact hg14, er14, fv14, fc14, by rw [hs, hte]; exact vr14⟩
set_option maxRecDepth 65536 in
set_option maxHeartbeats 40000000 in
theorem trB_2 (l : Launch) (Z : State) (a0 : Array Value) (hw : ∀ d ∈ tables_1, d.before a0 Z = true) (a u : Addr) (ku : ClassId) (n : Nat) (g : Nat → Int32) (cz : Int32) (fm : Value) (hfm : fm.isRef = true) (sn : Nat) {p : Program} {e : Env} {s s' : State} {m : MethodId} {below : List Frame} {meth : Method} {c : Code} {T : State} (hx : p.tables.exec = Jvm.exec) (hby : c.code = prog_8_method_2_code) (hml : c.maxLocals = 3) (hret : meth.sig.returnType = some (.object "java/lang/String")) (hlk : meth.locks = false) {locs : List Loc} (X0 : Stand p l e ({ frames := 5, cells := 4, slots := 12, locals := 110 } : Room) s' m #[(.ref a)] below meth c T locs 0 0) {h0 : Heap} (e0 : T.heap = h0) (hZ : Z.Warmed39 s'.vm) (hown : s'.vm.findClass "com/example/strict_replay/strictreplay/rules/FieldValues" = some m.cls) (n0 : Nat) (OL : Old Z n0 h0) (N0 : Fr n0 locs) (hB : own_FrH Z own_EL s s' h0) (SC : Sta Z Z.heap "java/lang/String" "COMPACT_STRINGS" "Z" (.int cz)) (hcz : ¬ cz = 0) (SF : Sta Z Z.heap "jdk/internal/util/Preconditions" "SIOOBE_FORMATTER" "Ljava/util/function/BiFunction;" fm) (E_a : Exa Z h0 a "java/lang/String") (F_value_a : Fld Z h0 a "java/lang/String" "value" "[B" (.ref u)) (F_coder_a : Fld Z h0 a "java/lang/String" "coder" "B" (.int (0 : Int32))) (V_u : Arv Z h0 u ku .byte (Int32.ofNat n) (own_F n g) (.int (0 : Int32))) (h3 : n ≤ 4) (hs : own_ts n (fun j => own_c8 (g j)) = sn) (hse : sn ≤ 2) (hen : 2 ≤ n) (hw1 : ∀ j, 2 ≤ j → j < n → own_ws (own_c8 (g j)) = 1) (hs2 : sn = n ∨ (sn < n ∧ own_ws (own_c8 (g sn)) = 0)) :
    OwnOk p e below (own_KH Z own_EL s (Q_m_trim Z n g h0 n0) ({ frames := 5, cells := 4, slots := 12, locals := 110 } : Room).cells ({ frames := 5, cells := 4, slots := 12, locals := 110 } : Room).slots) (T.setTop (mkF m 29 #[.val (.ref a), .val (.int (Int32.ofNat sn)), .val (.int (Int32.ofNat 2))] [])) := by
  have Z0 : n0 ≤ h0.size := OL.1 ▸ OL.2.1
  show OwnOk p e below _ (T.setTop (mkF m 29 #[.val (.ref a), .val (.int (Int32.ofNat sn)), .val (.int (Int32.ofNat 2))] []))
  have KP0 : Keep h0 h0 [] := Keep.refl h0 _
  refine own_up (fun tx kx => XS.iloadN X0.here hx rfl (hb hby d5_29) rfl kx) ?_
  show OwnOk p e below _ (T.setTop (mkF m 30 #[.val (.ref a), .val (.int (Int32.ofNat sn)), .val (.int (Int32.ofNat 2))] [(.int (Int32.ofNat 2))]))
  refine own_up (fun tx kx => XS.iloadN X0.here hx rfl (hb hby d5_30) rfl kx) ?_
  show OwnOk p e below _ (T.setTop (mkF m 31 #[.val (.ref a), .val (.int (Int32.ofNat sn)), .val (.int (Int32.ofNat 2))] [(.int (Int32.ofNat sn)), (.int (Int32.ofNat 2))]))
  by_cases hk : (Int32.ofNat sn) < (Int32.ofNat 2)
  · refine own_up (fun tx kx => XS.icmpNo X0.here hx rfl (hb hby d5_31) rfl (tlt hk).2.2.2 kx) ?_
    show OwnOk p e below _ (T.setTop (mkF m 34 #[.val (.ref a), .val (.int (Int32.ofNat sn)), .val (.int (Int32.ofNat 2))] []))
    have q1 : sn < 2 := Nat.lt_of_not_le fun q => own_nlt q (by omega) hk
    refine own_up (fun tx kx => XS.aloadN X0.here hx rfl (hb hby d5_34) rfl rfl kx) ?_
    show OwnOk p e below _ (T.setTop (mkF m 35 #[.val (.ref a), .val (.int (Int32.ofNat sn)), .val (.int (Int32.ofNat 2))] [(.ref a)]))
    refine own_up (fun tx kx => XS.iloadN X0.here hx rfl (hb hby d5_35) rfl kx) ?_
    show OwnOk p e below _ (T.setTop (mkF m 36 #[.val (.ref a), .val (.int (Int32.ofNat sn)), .val (.int (Int32.ofNat 2))] [(.int (Int32.ofNat 2)), (.ref a)]))
    refine own_up (fun tx kx => XS.iconst X0.here hx rfl (hb hby d5_36) kx) ?_
    show OwnOk p e below _ (T.setTop (mkF m 37 #[.val (.ref a), .val (.int (Int32.ofNat sn)), .val (.int (Int32.ofNat 2))] [(.int (1 : Int32)), (.int (Int32.ofNat 2)), (.ref a)]))
    refine own_up (fun tx kx => XS.isub X0.here hx rfl (hb hby d5_37) rfl kx) ?_
    show OwnOk p e below _ (T.setTop (mkF m 38 #[.val (.ref a), .val (.int (Int32.ofNat sn)), .val (.int (Int32.ofNat 2))] [(.int ((Int32.ofNat 2) - (1 : Int32))), (.ref a)]))
    rw [show ((Int32.ofNat 2) - (1 : Int32)) = (Int32.ofNat 1) from (show (Int32.ofNat 2) - (1 : Int32) = Int32.ofNat 1 by decide)]
    show OwnOk p e below _ (T.setTop (mkF m 38 #[.val (.ref a), .val (.int (Int32.ofNat sn)), .val (.int (Int32.ofNat 2))] [(.int (Int32.ofNat 1)), (.ref a)]))
    refine own_callV X0 hx hZ (y := (⟨"java/lang/String", "charAt", "(I)C"⟩ : MethodName)) (z := (⟨"java/lang/String", "charAt", "(I)C"⟩ : MethodName)) hown (wd_70 hw) (wd_71 hw) (notFace_of_selects (args := #[]) (mvT hZ (wd_73 hw))) (wd_73 hw) (wd_72 hw) (wd_8 hw) (wd_74 hw) (by decide) (j_charAt l Z a0 hw a u ku n g cz 1 fm hfm h0 n0 OL SC hcz SF E_a F_value_a F_coder_a V_u (by omega) (by omega)) e0 (argsL := [(.int (Int32.ofNat 1))]) (rest := []) E_a (by rw [hml]; rfl) (lenOf pd_17 rfl) rfl rfl (W := 0) rfl (hb hby d5_38) (by decide) (by decide) (by decide) (by decide) (fun T11 v11 L11 X11 hQ11 => ?_)
    obtain ⟨rfl, Nq11, hh11⟩ := hQ11
    have N11 := Fr.app N0 Nq11
    show OwnOk p e below _ (T11.setTop (mkF m 41 #[.val (.ref a), .val (.int (Int32.ofNat sn)), .val (.int (Int32.ofNat 2))] [(.int (own_c8 (g 1)))]))
    refine own_callS X11 hx hZ (y := (⟨"com/example/strict_replay/strictreplay/rules/FieldValues", "isSpaceOrTab", "(C)Z"⟩ : MethodName)) hown (wd_90 hw) (wd_91 hw) (wd_29 hw) (wd_92 hw) (by decide) (m_sot l Z a0 hw (own_c8 (g 1)) h0 n0 OL) hh11 (argsL := [(.int (own_c8 (g 1)))]) (rest := []) (by rw [hml]; rfl) (lenOf pd_18 rfl) rfl rfl (W := 0) rfl (hb hby d5_41) (by decide) (by decide) (by decide) (by decide) (fun T12 v12 L12 X12 hQ12 => ?_)
    obtain ⟨rfl, Nq12, hh12⟩ := hQ12
    have N12 := Fr.app N11 Nq12
    show OwnOk p e below _ (T12.setTop (mkF m 44 #[.val (.ref a), .val (.int (Int32.ofNat sn)), .val (.int (Int32.ofNat 2))] [(.int (own_ws (own_c8 (g 1))))]))
    by_cases hz : (own_ws (own_c8 (g 1))) = (0 : Int32)
    · refine own_up (fun tx kx => XS.ifYes X12.here hx rfl (pc0 := 44) (pc' := 53) rfl (hb hby d5_44) rfl ((if0 _ _).trans (teq hz).1) (by decide) (by decide) kx) ?_
      show OwnOk p e below _ (T12.setTop (mkF m 53 #[.val (.ref a), .val (.int (Int32.ofNat sn)), .val (.int (Int32.ofNat 2))] []))
      have hte : own_te n (fun j => own_c8 (g j)) = 2 := by unfold own_te; rw [if_pos (own_nwA hw1 3 (by decide)), if_pos (own_nwA hw1 2 (by decide)), if_neg (own_nw1 (i := 1) (c := (fun j => own_c8 (g j))) (by omega) hz)]
      refine own_up (fun tx kx => XS.aloadN X12.here hx rfl (hb hby d5_53) rfl rfl kx) ?_
      show OwnOk p e below _ (T12.setTop (mkF m 54 #[.val (.ref a), .val (.int (Int32.ofNat sn)), .val (.int (Int32.ofNat 2))] [(.ref a)]))
      refine own_up (fun tx kx => XS.iloadN X12.here hx rfl (hb hby d5_54) rfl kx) ?_
      show OwnOk p e below _ (T12.setTop (mkF m 55 #[.val (.ref a), .val (.int (Int32.ofNat sn)), .val (.int (Int32.ofNat 2))] [(.int (Int32.ofNat sn)), (.ref a)]))
      refine own_up (fun tx kx => XS.iloadN X12.here hx rfl (hb hby d5_55) rfl kx) ?_
      show OwnOk p e below _ (T12.setTop (mkF m 56 #[.val (.ref a), .val (.int (Int32.ofNat sn)), .val (.int (Int32.ofNat 2))] [(.int (Int32.ofNat 2)), (.int (Int32.ofNat sn)), (.ref a)]))
      refine own_callVH X12 hB (own_ew hw) (sf := []) own_saf0 own_lt0 hx hZ (y := (⟨"java/lang/String", "substring", "(II)Ljava/lang/String;"⟩ : MethodName)) (z := (⟨"java/lang/String", "substring", "(II)Ljava/lang/String;"⟩ : MethodName)) hown (wd_42 hw) (wd_43 hw) (notFace_of_selects (args := #[]) (mvT hZ (wd_45 hw))) (wd_45 hw) (wd_44 hw) (wd_8 hw) (wd_46 hw) (by decide) (m_sub l Z a0 hw a u ku n g sn 2 cz fm hfm h0 n0 OL SC hcz SF E_a F_value_a F_coder_a V_u hse hen h3) hh12 (argsL := [(.int (Int32.ofNat sn)), (.int (Int32.ofNat 2))]) (rest := []) E_a (by rw [hml]; rfl) (lenOf pd_16 rfl) rfl rfl (W := 0) rfl (hb hby d5_56) (by decide) (by decide) (by decide) (by decide) (fun s13 T13 v13 L13 X13 hB13 hZ13 hown13 hQ13 sf13 => ?_)
      obtain ⟨rr13, ur13, kr13, gr13, rfl, Nq13, Kq13, hg13, er13, fv13, fc13, vr13⟩ := hQ13
      have N13 := Fr.app N12 Nq13
      have OL13 := OL.keep Kq13 all0
      have KP13 := KP0.trans Kq13 all0
      show OwnOk p e below _ (T13.setTop (mkF m 59 #[.val (.ref a), .val (.int (Int32.ofNat sn)), .val (.int (Int32.ofNat 2))] [(.ref rr13)]))
      refine own_retRH X13 hB13 hZ13 (own_ew hw) hx (t := (.object "java/lang/String")) (show meth.sig.returnType = some (.object "java/lang/String") from hret) rfl hlk rfl (hb hby d5_59) rfl (Nat.le_of_ble_eq_true rfl) (Nat.le_of_ble_eq_true rfl) ?_
      exact ⟨rr13, ur13, kr13, gr13, rfl, N13, KP13, by rw [hs, hte]; exact hse, by rw [hte]; exact hen, by rw [hs, hte]; exact hg13, er13, fv13, fc13, by rw [hs, hte]; exact vr13⟩
    · refine own_up (fun tx kx => XS.ifNo X12.here hx rfl (hb hby d5_44) rfl ((if0 _ _).trans (feq hz).1) kx) ?_
      show OwnOk p e below _ (T12.setTop (mkF m 47 #[.val (.ref a), .val (.int (Int32.ofNat sn)), .val (.int (Int32.ofNat 2))] []))
      have hw2 : ∀ j, 1 ≤ j → j < n → own_ws (own_c8 (g j)) = 1 := fun j q r => by
        by_cases q2 : 2 ≤ j
        · exact hw1 j q2 r
        · have q3 : j = 1 := by omega
          subst q3; exact own_ws_1 hz
      refine own_up (fun tx kx => XS.iinc X12.here hx rfl (hb hby d5_47) rfl (l' := #[.val (.ref a), .val (.int (Int32.ofNat sn)), .val (.int ((Int32.ofNat 2) + (-1 : Int32)))]) rfl kx) ?_
      show OwnOk p e below _ (T12.setTop (mkF m 50 #[.val (.ref a), .val (.int (Int32.ofNat sn)), .val (.int ((Int32.ofNat 2) + (-1 : Int32)))] []))
      rw [show ((Int32.ofNat 2) + (-1 : Int32)) = (Int32.ofNat 1) from (show (Int32.ofNat 2) + (-1 : Int32) = Int32.ofNat 1 by decide)]
      show OwnOk p e below _ (T12.setTop (mkF m 50 #[.val (.ref a), .val (.int (Int32.ofNat sn)), .val (.int (Int32.ofNat 1))] []))
      refine own_up (fun tx kx => XS.goto X12.here hx rfl (pc0 := 50) (pc' := 29) rfl (hb hby d5_50) (by decide) (by decide) kx) ?_
      show OwnOk p e below _ (T12.setTop (mkF m 29 #[.val (.ref a), .val (.int (Int32.ofNat sn)), .val (.int (Int32.ofNat 1))] []))
      exact trB_1 l Z a0 hw a u ku n g cz fm hfm sn hx hby hml hret hlk (X12.mono (Nat.le_of_ble_eq_true rfl) (Nat.le_of_ble_eq_true rfl)) hh12 hZ hown n0 OL N12 hB SC hcz SF E_a F_value_a F_coder_a V_u h3 hs (by omega) (by omega) hw2 hs2
  · refine own_up (fun tx kx => XS.icmpYes X0.here hx rfl (pc0 := 31) (pc' := 53) rfl (hb hby d5_31) rfl (flt hk).2.2.2 (by decide) (by decide) kx) ?_
    show OwnOk p e below _ (T.setTop (mkF m 53 #[.val (.ref a), .val (.int (Int32.ofNat sn)), .val (.int (Int32.ofNat 2))] []))
    have q1 : ¬ sn < 2 := fun q => hk (own_lt q (by decide))
    have hsn : sn = n := by
      rcases hs2 with q | ⟨q, r⟩
      · exact q
      · have r2 := hw1 sn (by omega) q
        rw [r] at r2
        exact absurd r2 (by decide)
    have hne : n = 2 := by omega
    have hte : own_te n (fun j => own_c8 (g j)) = 2 := by
      have z : ∀ i, own_nw n (fun j => own_c8 (g j)) i = 0 := fun i => by
        have hsa := hs
        rw [hsn] at hsa
        exact own_allws h3 hsa i
      unfold own_te; rw [if_pos (z 3), if_pos (z 2), if_pos (z 1), if_pos (z 0)]; exact hne
    refine own_up (fun tx kx => XS.aloadN X0.here hx rfl (hb hby d5_53) rfl rfl kx) ?_
    show OwnOk p e below _ (T.setTop (mkF m 54 #[.val (.ref a), .val (.int (Int32.ofNat sn)), .val (.int (Int32.ofNat 2))] [(.ref a)]))
    refine own_up (fun tx kx => XS.iloadN X0.here hx rfl (hb hby d5_54) rfl kx) ?_
    show OwnOk p e below _ (T.setTop (mkF m 55 #[.val (.ref a), .val (.int (Int32.ofNat sn)), .val (.int (Int32.ofNat 2))] [(.int (Int32.ofNat sn)), (.ref a)]))
    refine own_up (fun tx kx => XS.iloadN X0.here hx rfl (hb hby d5_55) rfl kx) ?_
    show OwnOk p e below _ (T.setTop (mkF m 56 #[.val (.ref a), .val (.int (Int32.ofNat sn)), .val (.int (Int32.ofNat 2))] [(.int (Int32.ofNat 2)), (.int (Int32.ofNat sn)), (.ref a)]))
    refine own_callVH X0 hB (own_ew hw) (sf := []) own_saf0 own_lt0 hx hZ (y := (⟨"java/lang/String", "substring", "(II)Ljava/lang/String;"⟩ : MethodName)) (z := (⟨"java/lang/String", "substring", "(II)Ljava/lang/String;"⟩ : MethodName)) hown (wd_42 hw) (wd_43 hw) (notFace_of_selects (args := #[]) (mvT hZ (wd_45 hw))) (wd_45 hw) (wd_44 hw) (wd_8 hw) (wd_46 hw) (by decide) (m_sub l Z a0 hw a u ku n g sn 2 cz fm hfm h0 n0 OL SC hcz SF E_a F_value_a F_coder_a V_u hse hen h3) e0 (argsL := [(.int (Int32.ofNat sn)), (.int (Int32.ofNat 2))]) (rest := []) E_a (by rw [hml]; rfl) (lenOf pd_16 rfl) rfl rfl (W := 0) rfl (hb hby d5_56) (by decide) (by decide) (by decide) (by decide) (fun s14 T14 v14 L14 X14 hB14 hZ14 hown14 hQ14 sf14 => ?_)
    obtain ⟨rr14, ur14, kr14, gr14, rfl, Nq14, Kq14, hg14, er14, fv14, fc14, vr14⟩ := hQ14
    have N14 := Fr.app N0 Nq14
    have OL14 := OL.keep Kq14 all0
    have KP14 := KP0.trans Kq14 all0
    show OwnOk p e below _ (T14.setTop (mkF m 59 #[.val (.ref a), .val (.int (Int32.ofNat sn)), .val (.int (Int32.ofNat 2))] [(.ref rr14)]))
    refine own_retRH X14 hB14 hZ14 (own_ew hw) hx (t := (.object "java/lang/String")) (show meth.sig.returnType = some (.object "java/lang/String") from hret) rfl hlk rfl (hb hby d5_59) rfl (Nat.le_of_ble_eq_true rfl) (Nat.le_of_ble_eq_true rfl) ?_
    exact ⟨rr14, ur14, kr14, gr14, rfl, N14, KP14, by rw [hs, hte]; exact hse, by rw [hte]; exact hen, by rw [hs, hte]; exact hg14, er14, fv14, fc14, by rw [hs, hte]; exact vr14⟩
set_option maxRecDepth 65536 in
set_option maxHeartbeats 40000000 in
theorem trB_3 (l : Launch) (Z : State) (a0 : Array Value) (hw : ∀ d ∈ tables_1, d.before a0 Z = true) (a u : Addr) (ku : ClassId) (n : Nat) (g : Nat → Int32) (cz : Int32) (fm : Value) (hfm : fm.isRef = true) (sn : Nat) {p : Program} {e : Env} {s s' : State} {m : MethodId} {below : List Frame} {meth : Method} {c : Code} {T : State} (hx : p.tables.exec = Jvm.exec) (hby : c.code = prog_8_method_2_code) (hml : c.maxLocals = 3) (hret : meth.sig.returnType = some (.object "java/lang/String")) (hlk : meth.locks = false) {locs : List Loc} (X0 : Stand p l e ({ frames := 5, cells := 4, slots := 12, locals := 110 } : Room) s' m #[(.ref a)] below meth c T locs 0 0) {h0 : Heap} (e0 : T.heap = h0) (hZ : Z.Warmed39 s'.vm) (hown : s'.vm.findClass "com/example/strict_replay/strictreplay/rules/FieldValues" = some m.cls) (n0 : Nat) (OL : Old Z n0 h0) (N0 : Fr n0 locs) (hB : own_FrH Z own_EL s s' h0) (SC : Sta Z Z.heap "java/lang/String" "COMPACT_STRINGS" "Z" (.int cz)) (hcz : ¬ cz = 0) (SF : Sta Z Z.heap "jdk/internal/util/Preconditions" "SIOOBE_FORMATTER" "Ljava/util/function/BiFunction;" fm) (E_a : Exa Z h0 a "java/lang/String") (F_value_a : Fld Z h0 a "java/lang/String" "value" "[B" (.ref u)) (F_coder_a : Fld Z h0 a "java/lang/String" "coder" "B" (.int (0 : Int32))) (V_u : Arv Z h0 u ku .byte (Int32.ofNat n) (own_F n g) (.int (0 : Int32))) (h3 : n ≤ 4) (hs : own_ts n (fun j => own_c8 (g j)) = sn) (hse : sn ≤ 3) (hen : 3 ≤ n) (hw1 : ∀ j, 3 ≤ j → j < n → own_ws (own_c8 (g j)) = 1) (hs2 : sn = n ∨ (sn < n ∧ own_ws (own_c8 (g sn)) = 0)) :
    OwnOk p e below (own_KH Z own_EL s (Q_m_trim Z n g h0 n0) ({ frames := 5, cells := 4, slots := 12, locals := 110 } : Room).cells ({ frames := 5, cells := 4, slots := 12, locals := 110 } : Room).slots) (T.setTop (mkF m 29 #[.val (.ref a), .val (.int (Int32.ofNat sn)), .val (.int (Int32.ofNat 3))] [])) := by
  have Z0 : n0 ≤ h0.size := OL.1 ▸ OL.2.1
  show OwnOk p e below _ (T.setTop (mkF m 29 #[.val (.ref a), .val (.int (Int32.ofNat sn)), .val (.int (Int32.ofNat 3))] []))
  have KP0 : Keep h0 h0 [] := Keep.refl h0 _
  refine own_up (fun tx kx => XS.iloadN X0.here hx rfl (hb hby d5_29) rfl kx) ?_
  show OwnOk p e below _ (T.setTop (mkF m 30 #[.val (.ref a), .val (.int (Int32.ofNat sn)), .val (.int (Int32.ofNat 3))] [(.int (Int32.ofNat 3))]))
  refine own_up (fun tx kx => XS.iloadN X0.here hx rfl (hb hby d5_30) rfl kx) ?_
  show OwnOk p e below _ (T.setTop (mkF m 31 #[.val (.ref a), .val (.int (Int32.ofNat sn)), .val (.int (Int32.ofNat 3))] [(.int (Int32.ofNat sn)), (.int (Int32.ofNat 3))]))
  by_cases hk : (Int32.ofNat sn) < (Int32.ofNat 3)
  · refine own_up (fun tx kx => XS.icmpNo X0.here hx rfl (hb hby d5_31) rfl (tlt hk).2.2.2 kx) ?_
    show OwnOk p e below _ (T.setTop (mkF m 34 #[.val (.ref a), .val (.int (Int32.ofNat sn)), .val (.int (Int32.ofNat 3))] []))
    have q1 : sn < 3 := Nat.lt_of_not_le fun q => own_nlt q (by omega) hk
    refine own_up (fun tx kx => XS.aloadN X0.here hx rfl (hb hby d5_34) rfl rfl kx) ?_
    show OwnOk p e below _ (T.setTop (mkF m 35 #[.val (.ref a), .val (.int (Int32.ofNat sn)), .val (.int (Int32.ofNat 3))] [(.ref a)]))
    refine own_up (fun tx kx => XS.iloadN X0.here hx rfl (hb hby d5_35) rfl kx) ?_
    show OwnOk p e below _ (T.setTop (mkF m 36 #[.val (.ref a), .val (.int (Int32.ofNat sn)), .val (.int (Int32.ofNat 3))] [(.int (Int32.ofNat 3)), (.ref a)]))
    refine own_up (fun tx kx => XS.iconst X0.here hx rfl (hb hby d5_36) kx) ?_
    show OwnOk p e below _ (T.setTop (mkF m 37 #[.val (.ref a), .val (.int (Int32.ofNat sn)), .val (.int (Int32.ofNat 3))] [(.int (1 : Int32)), (.int (Int32.ofNat 3)), (.ref a)]))
    refine own_up (fun tx kx => XS.isub X0.here hx rfl (hb hby d5_37) rfl kx) ?_
    show OwnOk p e below _ (T.setTop (mkF m 38 #[.val (.ref a), .val (.int (Int32.ofNat sn)), .val (.int (Int32.ofNat 3))] [(.int ((Int32.ofNat 3) - (1 : Int32))), (.ref a)]))
    rw [show ((Int32.ofNat 3) - (1 : Int32)) = (Int32.ofNat 2) from (show (Int32.ofNat 3) - (1 : Int32) = Int32.ofNat 2 by decide)]
    show OwnOk p e below _ (T.setTop (mkF m 38 #[.val (.ref a), .val (.int (Int32.ofNat sn)), .val (.int (Int32.ofNat 3))] [(.int (Int32.ofNat 2)), (.ref a)]))
    refine own_callV X0 hx hZ (y := (⟨"java/lang/String", "charAt", "(I)C"⟩ : MethodName)) (z := (⟨"java/lang/String", "charAt", "(I)C"⟩ : MethodName)) hown (wd_70 hw) (wd_71 hw) (notFace_of_selects (args := #[]) (mvT hZ (wd_73 hw))) (wd_73 hw) (wd_72 hw) (wd_8 hw) (wd_74 hw) (by decide) (j_charAt l Z a0 hw a u ku n g cz 2 fm hfm h0 n0 OL SC hcz SF E_a F_value_a F_coder_a V_u (by omega) (by omega)) e0 (argsL := [(.int (Int32.ofNat 2))]) (rest := []) E_a (by rw [hml]; rfl) (lenOf pd_17 rfl) rfl rfl (W := 0) rfl (hb hby d5_38) (by decide) (by decide) (by decide) (by decide) (fun T11 v11 L11 X11 hQ11 => ?_)
    obtain ⟨rfl, Nq11, hh11⟩ := hQ11
    have N11 := Fr.app N0 Nq11
    show OwnOk p e below _ (T11.setTop (mkF m 41 #[.val (.ref a), .val (.int (Int32.ofNat sn)), .val (.int (Int32.ofNat 3))] [(.int (own_c8 (g 2)))]))
    refine own_callS X11 hx hZ (y := (⟨"com/example/strict_replay/strictreplay/rules/FieldValues", "isSpaceOrTab", "(C)Z"⟩ : MethodName)) hown (wd_90 hw) (wd_91 hw) (wd_29 hw) (wd_92 hw) (by decide) (m_sot l Z a0 hw (own_c8 (g 2)) h0 n0 OL) hh11 (argsL := [(.int (own_c8 (g 2)))]) (rest := []) (by rw [hml]; rfl) (lenOf pd_18 rfl) rfl rfl (W := 0) rfl (hb hby d5_41) (by decide) (by decide) (by decide) (by decide) (fun T12 v12 L12 X12 hQ12 => ?_)
    obtain ⟨rfl, Nq12, hh12⟩ := hQ12
    have N12 := Fr.app N11 Nq12
    show OwnOk p e below _ (T12.setTop (mkF m 44 #[.val (.ref a), .val (.int (Int32.ofNat sn)), .val (.int (Int32.ofNat 3))] [(.int (own_ws (own_c8 (g 2))))]))
    by_cases hz : (own_ws (own_c8 (g 2))) = (0 : Int32)
    · refine own_up (fun tx kx => XS.ifYes X12.here hx rfl (pc0 := 44) (pc' := 53) rfl (hb hby d5_44) rfl ((if0 _ _).trans (teq hz).1) (by decide) (by decide) kx) ?_
      show OwnOk p e below _ (T12.setTop (mkF m 53 #[.val (.ref a), .val (.int (Int32.ofNat sn)), .val (.int (Int32.ofNat 3))] []))
      have hte : own_te n (fun j => own_c8 (g j)) = 3 := by unfold own_te; rw [if_pos (own_nwA hw1 3 (by decide)), if_neg (own_nw1 (i := 2) (c := (fun j => own_c8 (g j))) (by omega) hz)]
      refine own_up (fun tx kx => XS.aloadN X12.here hx rfl (hb hby d5_53) rfl rfl kx) ?_
      show OwnOk p e below _ (T12.setTop (mkF m 54 #[.val (.ref a), .val (.int (Int32.ofNat sn)), .val (.int (Int32.ofNat 3))] [(.ref a)]))
      refine own_up (fun tx kx => XS.iloadN X12.here hx rfl (hb hby d5_54) rfl kx) ?_
      show OwnOk p e below _ (T12.setTop (mkF m 55 #[.val (.ref a), .val (.int (Int32.ofNat sn)), .val (.int (Int32.ofNat 3))] [(.int (Int32.ofNat sn)), (.ref a)]))
      refine own_up (fun tx kx => XS.iloadN X12.here hx rfl (hb hby d5_55) rfl kx) ?_
      show OwnOk p e below _ (T12.setTop (mkF m 56 #[.val (.ref a), .val (.int (Int32.ofNat sn)), .val (.int (Int32.ofNat 3))] [(.int (Int32.ofNat 3)), (.int (Int32.ofNat sn)), (.ref a)]))
      refine own_callVH X12 hB (own_ew hw) (sf := []) own_saf0 own_lt0 hx hZ (y := (⟨"java/lang/String", "substring", "(II)Ljava/lang/String;"⟩ : MethodName)) (z := (⟨"java/lang/String", "substring", "(II)Ljava/lang/String;"⟩ : MethodName)) hown (wd_42 hw) (wd_43 hw) (notFace_of_selects (args := #[]) (mvT hZ (wd_45 hw))) (wd_45 hw) (wd_44 hw) (wd_8 hw) (wd_46 hw) (by decide) (m_sub l Z a0 hw a u ku n g sn 3 cz fm hfm h0 n0 OL SC hcz SF E_a F_value_a F_coder_a V_u hse hen h3) hh12 (argsL := [(.int (Int32.ofNat sn)), (.int (Int32.ofNat 3))]) (rest := []) E_a (by rw [hml]; rfl) (lenOf pd_16 rfl) rfl rfl (W := 0) rfl (hb hby d5_56) (by decide) (by decide) (by decide) (by decide) (fun s13 T13 v13 L13 X13 hB13 hZ13 hown13 hQ13 sf13 => ?_)
      obtain ⟨rr13, ur13, kr13, gr13, rfl, Nq13, Kq13, hg13, er13, fv13, fc13, vr13⟩ := hQ13
      have N13 := Fr.app N12 Nq13
      have OL13 := OL.keep Kq13 all0
      have KP13 := KP0.trans Kq13 all0
      show OwnOk p e below _ (T13.setTop (mkF m 59 #[.val (.ref a), .val (.int (Int32.ofNat sn)), .val (.int (Int32.ofNat 3))] [(.ref rr13)]))
      refine own_retRH X13 hB13 hZ13 (own_ew hw) hx (t := (.object "java/lang/String")) (show meth.sig.returnType = some (.object "java/lang/String") from hret) rfl hlk rfl (hb hby d5_59) rfl (Nat.le_of_ble_eq_true rfl) (Nat.le_of_ble_eq_true rfl) ?_
      exact ⟨rr13, ur13, kr13, gr13, rfl, N13, KP13, by rw [hs, hte]; exact hse, by rw [hte]; exact hen, by rw [hs, hte]; exact hg13, er13, fv13, fc13, by rw [hs, hte]; exact vr13⟩
    · refine own_up (fun tx kx => XS.ifNo X12.here hx rfl (hb hby d5_44) rfl ((if0 _ _).trans (feq hz).1) kx) ?_
      show OwnOk p e below _ (T12.setTop (mkF m 47 #[.val (.ref a), .val (.int (Int32.ofNat sn)), .val (.int (Int32.ofNat 3))] []))
      have hw2 : ∀ j, 2 ≤ j → j < n → own_ws (own_c8 (g j)) = 1 := fun j q r => by
        by_cases q2 : 3 ≤ j
        · exact hw1 j q2 r
        · have q3 : j = 2 := by omega
          subst q3; exact own_ws_1 hz
      refine own_up (fun tx kx => XS.iinc X12.here hx rfl (hb hby d5_47) rfl (l' := #[.val (.ref a), .val (.int (Int32.ofNat sn)), .val (.int ((Int32.ofNat 3) + (-1 : Int32)))]) rfl kx) ?_
      show OwnOk p e below _ (T12.setTop (mkF m 50 #[.val (.ref a), .val (.int (Int32.ofNat sn)), .val (.int ((Int32.ofNat 3) + (-1 : Int32)))] []))
      rw [show ((Int32.ofNat 3) + (-1 : Int32)) = (Int32.ofNat 2) from (show (Int32.ofNat 3) + (-1 : Int32) = Int32.ofNat 2 by decide)]
      show OwnOk p e below _ (T12.setTop (mkF m 50 #[.val (.ref a), .val (.int (Int32.ofNat sn)), .val (.int (Int32.ofNat 2))] []))
      refine own_up (fun tx kx => XS.goto X12.here hx rfl (pc0 := 50) (pc' := 29) rfl (hb hby d5_50) (by decide) (by decide) kx) ?_
      show OwnOk p e below _ (T12.setTop (mkF m 29 #[.val (.ref a), .val (.int (Int32.ofNat sn)), .val (.int (Int32.ofNat 2))] []))
      exact trB_2 l Z a0 hw a u ku n g cz fm hfm sn hx hby hml hret hlk (X12.mono (Nat.le_of_ble_eq_true rfl) (Nat.le_of_ble_eq_true rfl)) hh12 hZ hown n0 OL N12 hB SC hcz SF E_a F_value_a F_coder_a V_u h3 hs (by omega) (by omega) hw2 hs2
  · refine own_up (fun tx kx => XS.icmpYes X0.here hx rfl (pc0 := 31) (pc' := 53) rfl (hb hby d5_31) rfl (flt hk).2.2.2 (by decide) (by decide) kx) ?_
    show OwnOk p e below _ (T.setTop (mkF m 53 #[.val (.ref a), .val (.int (Int32.ofNat sn)), .val (.int (Int32.ofNat 3))] []))
    have q1 : ¬ sn < 3 := fun q => hk (own_lt q (by decide))
    have hsn : sn = n := by
      rcases hs2 with q | ⟨q, r⟩
      · exact q
      · have r2 := hw1 sn (by omega) q
        rw [r] at r2
        exact absurd r2 (by decide)
    have hne : n = 3 := by omega
    have hte : own_te n (fun j => own_c8 (g j)) = 3 := by
      have z : ∀ i, own_nw n (fun j => own_c8 (g j)) i = 0 := fun i => by
        have hsa := hs
        rw [hsn] at hsa
        exact own_allws h3 hsa i
      unfold own_te; rw [if_pos (z 3), if_pos (z 2), if_pos (z 1), if_pos (z 0)]; exact hne
    refine own_up (fun tx kx => XS.aloadN X0.here hx rfl (hb hby d5_53) rfl rfl kx) ?_
    show OwnOk p e below _ (T.setTop (mkF m 54 #[.val (.ref a), .val (.int (Int32.ofNat sn)), .val (.int (Int32.ofNat 3))] [(.ref a)]))
    refine own_up (fun tx kx => XS.iloadN X0.here hx rfl (hb hby d5_54) rfl kx) ?_
    show OwnOk p e below _ (T.setTop (mkF m 55 #[.val (.ref a), .val (.int (Int32.ofNat sn)), .val (.int (Int32.ofNat 3))] [(.int (Int32.ofNat sn)), (.ref a)]))
    refine own_up (fun tx kx => XS.iloadN X0.here hx rfl (hb hby d5_55) rfl kx) ?_
    show OwnOk p e below _ (T.setTop (mkF m 56 #[.val (.ref a), .val (.int (Int32.ofNat sn)), .val (.int (Int32.ofNat 3))] [(.int (Int32.ofNat 3)), (.int (Int32.ofNat sn)), (.ref a)]))
    refine own_callVH X0 hB (own_ew hw) (sf := []) own_saf0 own_lt0 hx hZ (y := (⟨"java/lang/String", "substring", "(II)Ljava/lang/String;"⟩ : MethodName)) (z := (⟨"java/lang/String", "substring", "(II)Ljava/lang/String;"⟩ : MethodName)) hown (wd_42 hw) (wd_43 hw) (notFace_of_selects (args := #[]) (mvT hZ (wd_45 hw))) (wd_45 hw) (wd_44 hw) (wd_8 hw) (wd_46 hw) (by decide) (m_sub l Z a0 hw a u ku n g sn 3 cz fm hfm h0 n0 OL SC hcz SF E_a F_value_a F_coder_a V_u hse hen h3) e0 (argsL := [(.int (Int32.ofNat sn)), (.int (Int32.ofNat 3))]) (rest := []) E_a (by rw [hml]; rfl) (lenOf pd_16 rfl) rfl rfl (W := 0) rfl (hb hby d5_56) (by decide) (by decide) (by decide) (by decide) (fun s14 T14 v14 L14 X14 hB14 hZ14 hown14 hQ14 sf14 => ?_)
    obtain ⟨rr14, ur14, kr14, gr14, rfl, Nq14, Kq14, hg14, er14, fv14, fc14, vr14⟩ := hQ14
    have N14 := Fr.app N0 Nq14
    have OL14 := OL.keep Kq14 all0
    have KP14 := KP0.trans Kq14 all0
    show OwnOk p e below _ (T14.setTop (mkF m 59 #[.val (.ref a), .val (.int (Int32.ofNat sn)), .val (.int (Int32.ofNat 3))] [(.ref rr14)]))
    refine own_retRH X14 hB14 hZ14 (own_ew hw) hx (t := (.object "java/lang/String")) (show meth.sig.returnType = some (.object "java/lang/String") from hret) rfl hlk rfl (hb hby d5_59) rfl (Nat.le_of_ble_eq_true rfl) (Nat.le_of_ble_eq_true rfl) ?_
    exact ⟨rr14, ur14, kr14, gr14, rfl, N14, KP14, by rw [hs, hte]; exact hse, by rw [hte]; exact hen, by rw [hs, hte]; exact hg14, er14, fv14, fc14, by rw [hs, hte]; exact vr14⟩
set_option maxRecDepth 65536 in
set_option maxHeartbeats 40000000 in
theorem trB_4 (l : Launch) (Z : State) (a0 : Array Value) (hw : ∀ d ∈ tables_1, d.before a0 Z = true) (a u : Addr) (ku : ClassId) (n : Nat) (g : Nat → Int32) (cz : Int32) (fm : Value) (hfm : fm.isRef = true) (sn : Nat) {p : Program} {e : Env} {s s' : State} {m : MethodId} {below : List Frame} {meth : Method} {c : Code} {T : State} (hx : p.tables.exec = Jvm.exec) (hby : c.code = prog_8_method_2_code) (hml : c.maxLocals = 3) (hret : meth.sig.returnType = some (.object "java/lang/String")) (hlk : meth.locks = false) {locs : List Loc} (X0 : Stand p l e ({ frames := 5, cells := 4, slots := 12, locals := 110 } : Room) s' m #[(.ref a)] below meth c T locs 0 0) {h0 : Heap} (e0 : T.heap = h0) (hZ : Z.Warmed39 s'.vm) (hown : s'.vm.findClass "com/example/strict_replay/strictreplay/rules/FieldValues" = some m.cls) (n0 : Nat) (OL : Old Z n0 h0) (N0 : Fr n0 locs) (hB : own_FrH Z own_EL s s' h0) (SC : Sta Z Z.heap "java/lang/String" "COMPACT_STRINGS" "Z" (.int cz)) (hcz : ¬ cz = 0) (SF : Sta Z Z.heap "jdk/internal/util/Preconditions" "SIOOBE_FORMATTER" "Ljava/util/function/BiFunction;" fm) (E_a : Exa Z h0 a "java/lang/String") (F_value_a : Fld Z h0 a "java/lang/String" "value" "[B" (.ref u)) (F_coder_a : Fld Z h0 a "java/lang/String" "coder" "B" (.int (0 : Int32))) (V_u : Arv Z h0 u ku .byte (Int32.ofNat n) (own_F n g) (.int (0 : Int32))) (h3 : n ≤ 4) (hs : own_ts n (fun j => own_c8 (g j)) = sn) (hse : sn ≤ 4) (hen : 4 ≤ n) (hw1 : ∀ j, 4 ≤ j → j < n → own_ws (own_c8 (g j)) = 1) (hs2 : sn = n ∨ (sn < n ∧ own_ws (own_c8 (g sn)) = 0)) :
    OwnOk p e below (own_KH Z own_EL s (Q_m_trim Z n g h0 n0) ({ frames := 5, cells := 4, slots := 12, locals := 110 } : Room).cells ({ frames := 5, cells := 4, slots := 12, locals := 110 } : Room).slots) (T.setTop (mkF m 29 #[.val (.ref a), .val (.int (Int32.ofNat sn)), .val (.int (Int32.ofNat 4))] [])) := by
  have Z0 : n0 ≤ h0.size := OL.1 ▸ OL.2.1
  show OwnOk p e below _ (T.setTop (mkF m 29 #[.val (.ref a), .val (.int (Int32.ofNat sn)), .val (.int (Int32.ofNat 4))] []))
  have KP0 : Keep h0 h0 [] := Keep.refl h0 _
  refine own_up (fun tx kx => XS.iloadN X0.here hx rfl (hb hby d5_29) rfl kx) ?_
  show OwnOk p e below _ (T.setTop (mkF m 30 #[.val (.ref a), .val (.int (Int32.ofNat sn)), .val (.int (Int32.ofNat 4))] [(.int (Int32.ofNat 4))]))
  refine own_up (fun tx kx => XS.iloadN X0.here hx rfl (hb hby d5_30) rfl kx) ?_
  show OwnOk p e below _ (T.setTop (mkF m 31 #[.val (.ref a), .val (.int (Int32.ofNat sn)), .val (.int (Int32.ofNat 4))] [(.int (Int32.ofNat sn)), (.int (Int32.ofNat 4))]))
  by_cases hk : (Int32.ofNat sn) < (Int32.ofNat 4)
  · refine own_up (fun tx kx => XS.icmpNo X0.here hx rfl (hb hby d5_31) rfl (tlt hk).2.2.2 kx) ?_
    show OwnOk p e below _ (T.setTop (mkF m 34 #[.val (.ref a), .val (.int (Int32.ofNat sn)), .val (.int (Int32.ofNat 4))] []))
    have q1 : sn < 4 := Nat.lt_of_not_le fun q => own_nlt q (by omega) hk
    refine own_up (fun tx kx => XS.aloadN X0.here hx rfl (hb hby d5_34) rfl rfl kx) ?_
    show OwnOk p e below _ (T.setTop (mkF m 35 #[.val (.ref a), .val (.int (Int32.ofNat sn)), .val (.int (Int32.ofNat 4))] [(.ref a)]))
    refine own_up (fun tx kx => XS.iloadN X0.here hx rfl (hb hby d5_35) rfl kx) ?_
    show OwnOk p e below _ (T.setTop (mkF m 36 #[.val (.ref a), .val (.int (Int32.ofNat sn)), .val (.int (Int32.ofNat 4))] [(.int (Int32.ofNat 4)), (.ref a)]))
    refine own_up (fun tx kx => XS.iconst X0.here hx rfl (hb hby d5_36) kx) ?_
    show OwnOk p e below _ (T.setTop (mkF m 37 #[.val (.ref a), .val (.int (Int32.ofNat sn)), .val (.int (Int32.ofNat 4))] [(.int (1 : Int32)), (.int (Int32.ofNat 4)), (.ref a)]))
    refine own_up (fun tx kx => XS.isub X0.here hx rfl (hb hby d5_37) rfl kx) ?_
    show OwnOk p e below _ (T.setTop (mkF m 38 #[.val (.ref a), .val (.int (Int32.ofNat sn)), .val (.int (Int32.ofNat 4))] [(.int ((Int32.ofNat 4) - (1 : Int32))), (.ref a)]))
    rw [show ((Int32.ofNat 4) - (1 : Int32)) = (Int32.ofNat 3) from (show (Int32.ofNat 4) - (1 : Int32) = Int32.ofNat 3 by decide)]
    show OwnOk p e below _ (T.setTop (mkF m 38 #[.val (.ref a), .val (.int (Int32.ofNat sn)), .val (.int (Int32.ofNat 4))] [(.int (Int32.ofNat 3)), (.ref a)]))
    refine own_callV X0 hx hZ (y := (⟨"java/lang/String", "charAt", "(I)C"⟩ : MethodName)) (z := (⟨"java/lang/String", "charAt", "(I)C"⟩ : MethodName)) hown (wd_70 hw) (wd_71 hw) (notFace_of_selects (args := #[]) (mvT hZ (wd_73 hw))) (wd_73 hw) (wd_72 hw) (wd_8 hw) (wd_74 hw) (by decide) (j_charAt l Z a0 hw a u ku n g cz 3 fm hfm h0 n0 OL SC hcz SF E_a F_value_a F_coder_a V_u (by omega) (by omega)) e0 (argsL := [(.int (Int32.ofNat 3))]) (rest := []) E_a (by rw [hml]; rfl) (lenOf pd_17 rfl) rfl rfl (W := 0) rfl (hb hby d5_38) (by decide) (by decide) (by decide) (by decide) (fun T11 v11 L11 X11 hQ11 => ?_)
    obtain ⟨rfl, Nq11, hh11⟩ := hQ11
    have N11 := Fr.app N0 Nq11
    show OwnOk p e below _ (T11.setTop (mkF m 41 #[.val (.ref a), .val (.int (Int32.ofNat sn)), .val (.int (Int32.ofNat 4))] [(.int (own_c8 (g 3)))]))
    refine own_callS X11 hx hZ (y := (⟨"com/example/strict_replay/strictreplay/rules/FieldValues", "isSpaceOrTab", "(C)Z"⟩ : MethodName)) hown (wd_90 hw) (wd_91 hw) (wd_29 hw) (wd_92 hw) (by decide) (m_sot l Z a0 hw (own_c8 (g 3)) h0 n0 OL) hh11 (argsL := [(.int (own_c8 (g 3)))]) (rest := []) (by rw [hml]; rfl) (lenOf pd_18 rfl) rfl rfl (W := 0) rfl (hb hby d5_41) (by decide) (by decide) (by decide) (by decide) (fun T12 v12 L12 X12 hQ12 => ?_)
    obtain ⟨rfl, Nq12, hh12⟩ := hQ12
    have N12 := Fr.app N11 Nq12
    show OwnOk p e below _ (T12.setTop (mkF m 44 #[.val (.ref a), .val (.int (Int32.ofNat sn)), .val (.int (Int32.ofNat 4))] [(.int (own_ws (own_c8 (g 3))))]))
    by_cases hz : (own_ws (own_c8 (g 3))) = (0 : Int32)
    · refine own_up (fun tx kx => XS.ifYes X12.here hx rfl (pc0 := 44) (pc' := 53) rfl (hb hby d5_44) rfl ((if0 _ _).trans (teq hz).1) (by decide) (by decide) kx) ?_
      show OwnOk p e below _ (T12.setTop (mkF m 53 #[.val (.ref a), .val (.int (Int32.ofNat sn)), .val (.int (Int32.ofNat 4))] []))
      have hte : own_te n (fun j => own_c8 (g j)) = 4 := by unfold own_te; rw [if_neg (own_nw1 (i := 3) (c := (fun j => own_c8 (g j))) (by omega) hz)]
      refine own_up (fun tx kx => XS.aloadN X12.here hx rfl (hb hby d5_53) rfl rfl kx) ?_
      show OwnOk p e below _ (T12.setTop (mkF m 54 #[.val (.ref a), .val (.int (Int32.ofNat sn)), .val (.int (Int32.ofNat 4))] [(.ref a)]))
      refine own_up (fun tx kx => XS.iloadN X12.here hx rfl (hb hby d5_54) rfl kx) ?_
      show OwnOk p e below _ (T12.setTop (mkF m 55 #[.val (.ref a), .val (.int (Int32.ofNat sn)), .val (.int (Int32.ofNat 4))] [(.int (Int32.ofNat sn)), (.ref a)]))
      refine own_up (fun tx kx => XS.iloadN X12.here hx rfl (hb hby d5_55) rfl kx) ?_
      show OwnOk p e below _ (T12.setTop (mkF m 56 #[.val (.ref a), .val (.int (Int32.ofNat sn)), .val (.int (Int32.ofNat 4))] [(.int (Int32.ofNat 4)), (.int (Int32.ofNat sn)), (.ref a)]))
      refine own_callVH X12 hB (own_ew hw) (sf := []) own_saf0 own_lt0 hx hZ (y := (⟨"java/lang/String", "substring", "(II)Ljava/lang/String;"⟩ : MethodName)) (z := (⟨"java/lang/String", "substring", "(II)Ljava/lang/String;"⟩ : MethodName)) hown (wd_42 hw) (wd_43 hw) (notFace_of_selects (args := #[]) (mvT hZ (wd_45 hw))) (wd_45 hw) (wd_44 hw) (wd_8 hw) (wd_46 hw) (by decide) (m_sub l Z a0 hw a u ku n g sn 4 cz fm hfm h0 n0 OL SC hcz SF E_a F_value_a F_coder_a V_u hse hen h3) hh12 (argsL := [(.int (Int32.ofNat sn)), (.int (Int32.ofNat 4))]) (rest := []) E_a (by rw [hml]; rfl) (lenOf pd_16 rfl) rfl rfl (W := 0) rfl (hb hby d5_56) (by decide) (by decide) (by decide) (by decide) (fun s13 T13 v13 L13 X13 hB13 hZ13 hown13 hQ13 sf13 => ?_)
      obtain ⟨rr13, ur13, kr13, gr13, rfl, Nq13, Kq13, hg13, er13, fv13, fc13, vr13⟩ := hQ13
      have N13 := Fr.app N12 Nq13
      have OL13 := OL.keep Kq13 all0
      have KP13 := KP0.trans Kq13 all0
      show OwnOk p e below _ (T13.setTop (mkF m 59 #[.val (.ref a), .val (.int (Int32.ofNat sn)), .val (.int (Int32.ofNat 4))] [(.ref rr13)]))
      refine own_retRH X13 hB13 hZ13 (own_ew hw) hx (t := (.object "java/lang/String")) (show meth.sig.returnType = some (.object "java/lang/String") from hret) rfl hlk rfl (hb hby d5_59) rfl (Nat.le_of_ble_eq_true rfl) (Nat.le_of_ble_eq_true rfl) ?_
      exact ⟨rr13, ur13, kr13, gr13, rfl, N13, KP13, by rw [hs, hte]; exact hse, by rw [hte]; exact hen, by rw [hs, hte]; exact hg13, er13, fv13, fc13, by rw [hs, hte]; exact vr13⟩
    · refine own_up (fun tx kx => XS.ifNo X12.here hx rfl (hb hby d5_44) rfl ((if0 _ _).trans (feq hz).1) kx) ?_
      show OwnOk p e below _ (T12.setTop (mkF m 47 #[.val (.ref a), .val (.int (Int32.ofNat sn)), .val (.int (Int32.ofNat 4))] []))
      have hw2 : ∀ j, 3 ≤ j → j < n → own_ws (own_c8 (g j)) = 1 := fun j q r => by
        by_cases q2 : 4 ≤ j
        · exact hw1 j q2 r
        · have q3 : j = 3 := by omega
          subst q3; exact own_ws_1 hz
      refine own_up (fun tx kx => XS.iinc X12.here hx rfl (hb hby d5_47) rfl (l' := #[.val (.ref a), .val (.int (Int32.ofNat sn)), .val (.int ((Int32.ofNat 4) + (-1 : Int32)))]) rfl kx) ?_
      show OwnOk p e below _ (T12.setTop (mkF m 50 #[.val (.ref a), .val (.int (Int32.ofNat sn)), .val (.int ((Int32.ofNat 4) + (-1 : Int32)))] []))
      rw [show ((Int32.ofNat 4) + (-1 : Int32)) = (Int32.ofNat 3) from (show (Int32.ofNat 4) + (-1 : Int32) = Int32.ofNat 3 by decide)]
      show OwnOk p e below _ (T12.setTop (mkF m 50 #[.val (.ref a), .val (.int (Int32.ofNat sn)), .val (.int (Int32.ofNat 3))] []))
      refine own_up (fun tx kx => XS.goto X12.here hx rfl (pc0 := 50) (pc' := 29) rfl (hb hby d5_50) (by decide) (by decide) kx) ?_
      show OwnOk p e below _ (T12.setTop (mkF m 29 #[.val (.ref a), .val (.int (Int32.ofNat sn)), .val (.int (Int32.ofNat 3))] []))
      exact trB_3 l Z a0 hw a u ku n g cz fm hfm sn hx hby hml hret hlk (X12.mono (Nat.le_of_ble_eq_true rfl) (Nat.le_of_ble_eq_true rfl)) hh12 hZ hown n0 OL N12 hB SC hcz SF E_a F_value_a F_coder_a V_u h3 hs (by omega) (by omega) hw2 hs2
  · refine own_up (fun tx kx => XS.icmpYes X0.here hx rfl (pc0 := 31) (pc' := 53) rfl (hb hby d5_31) rfl (flt hk).2.2.2 (by decide) (by decide) kx) ?_
    show OwnOk p e below _ (T.setTop (mkF m 53 #[.val (.ref a), .val (.int (Int32.ofNat sn)), .val (.int (Int32.ofNat 4))] []))
    have q1 : ¬ sn < 4 := fun q => hk (own_lt q (by decide))
    have hsn : sn = n := by
      rcases hs2 with q | ⟨q, r⟩
      · exact q
      · have r2 := hw1 sn (by omega) q
        rw [r] at r2
        exact absurd r2 (by decide)
    have hne : n = 4 := by omega
    have hte : own_te n (fun j => own_c8 (g j)) = 4 := by
      have z : ∀ i, own_nw n (fun j => own_c8 (g j)) i = 0 := fun i => by
        have hsa := hs
        rw [hsn] at hsa
        exact own_allws h3 hsa i
      unfold own_te; rw [if_pos (z 3), if_pos (z 2), if_pos (z 1), if_pos (z 0)]; exact hne
    refine own_up (fun tx kx => XS.aloadN X0.here hx rfl (hb hby d5_53) rfl rfl kx) ?_
    show OwnOk p e below _ (T.setTop (mkF m 54 #[.val (.ref a), .val (.int (Int32.ofNat sn)), .val (.int (Int32.ofNat 4))] [(.ref a)]))
    refine own_up (fun tx kx => XS.iloadN X0.here hx rfl (hb hby d5_54) rfl kx) ?_
    show OwnOk p e below _ (T.setTop (mkF m 55 #[.val (.ref a), .val (.int (Int32.ofNat sn)), .val (.int (Int32.ofNat 4))] [(.int (Int32.ofNat sn)), (.ref a)]))
    refine own_up (fun tx kx => XS.iloadN X0.here hx rfl (hb hby d5_55) rfl kx) ?_
    show OwnOk p e below _ (T.setTop (mkF m 56 #[.val (.ref a), .val (.int (Int32.ofNat sn)), .val (.int (Int32.ofNat 4))] [(.int (Int32.ofNat 4)), (.int (Int32.ofNat sn)), (.ref a)]))
    refine own_callVH X0 hB (own_ew hw) (sf := []) own_saf0 own_lt0 hx hZ (y := (⟨"java/lang/String", "substring", "(II)Ljava/lang/String;"⟩ : MethodName)) (z := (⟨"java/lang/String", "substring", "(II)Ljava/lang/String;"⟩ : MethodName)) hown (wd_42 hw) (wd_43 hw) (notFace_of_selects (args := #[]) (mvT hZ (wd_45 hw))) (wd_45 hw) (wd_44 hw) (wd_8 hw) (wd_46 hw) (by decide) (m_sub l Z a0 hw a u ku n g sn 4 cz fm hfm h0 n0 OL SC hcz SF E_a F_value_a F_coder_a V_u hse hen h3) e0 (argsL := [(.int (Int32.ofNat sn)), (.int (Int32.ofNat 4))]) (rest := []) E_a (by rw [hml]; rfl) (lenOf pd_16 rfl) rfl rfl (W := 0) rfl (hb hby d5_56) (by decide) (by decide) (by decide) (by decide) (fun s14 T14 v14 L14 X14 hB14 hZ14 hown14 hQ14 sf14 => ?_)
    obtain ⟨rr14, ur14, kr14, gr14, rfl, Nq14, Kq14, hg14, er14, fv14, fc14, vr14⟩ := hQ14
    have N14 := Fr.app N0 Nq14
    have OL14 := OL.keep Kq14 all0
    have KP14 := KP0.trans Kq14 all0
    show OwnOk p e below _ (T14.setTop (mkF m 59 #[.val (.ref a), .val (.int (Int32.ofNat sn)), .val (.int (Int32.ofNat 4))] [(.ref rr14)]))
    refine own_retRH X14 hB14 hZ14 (own_ew hw) hx (t := (.object "java/lang/String")) (show meth.sig.returnType = some (.object "java/lang/String") from hret) rfl hlk rfl (hb hby d5_59) rfl (Nat.le_of_ble_eq_true rfl) (Nat.le_of_ble_eq_true rfl) ?_
    exact ⟨rr14, ur14, kr14, gr14, rfl, N14, KP14, by rw [hs, hte]; exact hse, by rw [hte]; exact hen, by rw [hs, hte]; exact hg14, er14, fv14, fc14, by rw [hs, hte]; exact vr14⟩
set_option maxRecDepth 65536 in
set_option maxHeartbeats 40000000 in
theorem trA_4 (l : Launch) (Z : State) (a0 : Array Value) (hw : ∀ d ∈ tables_1, d.before a0 Z = true) (a u : Addr) (ku : ClassId) (n : Nat) (g : Nat → Int32) (cz : Int32) (fm : Value) (hfm : fm.isRef = true) {p : Program} {e : Env} {s s' : State} {m : MethodId} {below : List Frame} {meth : Method} {c : Code} {T : State} (hx : p.tables.exec = Jvm.exec) (hby : c.code = prog_8_method_2_code) (hml : c.maxLocals = 3) (hret : meth.sig.returnType = some (.object "java/lang/String")) (hlk : meth.locks = false) {locs : List Loc} (X0 : Stand p l e ({ frames := 5, cells := 4, slots := 12, locals := 110 } : Room) s' m #[(.ref a)] below meth c T locs 0 0) {h0 : Heap} (e0 : T.heap = h0) (hZ : Z.Warmed39 s'.vm) (hown : s'.vm.findClass "com/example/strict_replay/strictreplay/rules/FieldValues" = some m.cls) (n0 : Nat) (OL : Old Z n0 h0) (N0 : Fr n0 locs) (hB : own_FrH Z own_EL s s' h0) (SC : Sta Z Z.heap "java/lang/String" "COMPACT_STRINGS" "Z" (.int cz)) (hcz : ¬ cz = 0) (SF : Sta Z Z.heap "jdk/internal/util/Preconditions" "SIOOBE_FORMATTER" "Ljava/util/function/BiFunction;" fm) (E_a : Exa Z h0 a "java/lang/String") (F_value_a : Fld Z h0 a "java/lang/String" "value" "[B" (.ref u)) (F_coder_a : Fld Z h0 a "java/lang/String" "coder" "B" (.int (0 : Int32))) (V_u : Arv Z h0 u ku .byte (Int32.ofNat n) (own_F n g) (.int (0 : Int32))) (h3 : n ≤ 4) (hin : 4 ≤ n) (hw0 : ∀ j, j < 4 → own_ws (own_c8 (g j)) = 1) :
    OwnOk p e below (own_KH Z own_EL s (Q_m_trim Z n g h0 n0) ({ frames := 5, cells := 4, slots := 12, locals := 110 } : Room).cells ({ frames := 5, cells := 4, slots := 12, locals := 110 } : Room).slots) (T.setTop (mkF m 7 #[.val (.ref a), .val (.int (Int32.ofNat 4)), .val (.int (Int32.ofNat n))] [])) := by
  have Z0 : n0 ≤ h0.size := OL.1 ▸ OL.2.1
  show OwnOk p e below _ (T.setTop (mkF m 7 #[.val (.ref a), .val (.int (Int32.ofNat 4)), .val (.int (Int32.ofNat n))] []))
  have KP0 : Keep h0 h0 [] := Keep.refl h0 _
  refine own_up (fun tx kx => XS.iloadN X0.here hx rfl (hb hby d5_7) rfl kx) ?_
  show OwnOk p e below _ (T.setTop (mkF m 8 #[.val (.ref a), .val (.int (Int32.ofNat 4)), .val (.int (Int32.ofNat n))] [(.int (Int32.ofNat 4))]))
  refine own_up (fun tx kx => XS.iloadN X0.here hx rfl (hb hby d5_8) rfl kx) ?_
  show OwnOk p e below _ (T.setTop (mkF m 9 #[.val (.ref a), .val (.int (Int32.ofNat 4)), .val (.int (Int32.ofNat n))] [(.int (Int32.ofNat n)), (.int (Int32.ofNat 4))]))
  by_cases hk : (Int32.ofNat 4) < (Int32.ofNat n)
  · refine own_up (fun tx kx => XS.icmpNo X0.here hx rfl (hb hby d5_9) rfl (tlt hk).2.1 kx) ?_
    show OwnOk p e below _ (T.setTop (mkF m 12 #[.val (.ref a), .val (.int (Int32.ofNat 4)), .val (.int (Int32.ofNat n))] []))
    have q1 : 4 < n := Nat.lt_of_not_le fun q => own_nlt q (by decide) hk
    exact absurd q1 (by omega)
  · refine own_up (fun tx kx => XS.icmpYes X0.here hx rfl (pc0 := 9) (pc' := 29) rfl (hb hby d5_9) rfl (flt hk).2.1 (by decide) (by decide) kx) ?_
    show OwnOk p e below _ (T.setTop (mkF m 29 #[.val (.ref a), .val (.int (Int32.ofNat 4)), .val (.int (Int32.ofNat n))] []))
    have q0 : ¬ 4 < n := fun q => hk (own_lt q (by omega))
    have q1 : n = 4 := by omega
    have hs : own_ts n (fun j => own_c8 (g j)) = 4 := by
      have z : ∀ i, own_nw n (fun j => own_c8 (g j)) i = 0 := fun i => by
        by_cases q : i < n
        · exact own_nw0 (Or.inr (hw0 i (by omega)))
        · exact own_nw0 (Or.inl (by omega))
      unfold own_ts; rw [if_pos (z 0), if_pos (z 1), if_pos (z 2), if_pos (z 3), q1]
    have hn5 : n = 0 ∨ n = 1 ∨ n = 2 ∨ n = 3 ∨ n = 4 := by omega
    rcases hn5 with rfl | rfl | rfl | rfl | rfl
    · exact absurd hin (by decide)
    · exact absurd hin (by decide)
    · exact absurd hin (by decide)
    · exact absurd hin (by decide)
    · show OwnOk p e below _ (T.setTop (mkF m 29 #[.val (.ref a), .val (.int (Int32.ofNat 4)), .val (.int (Int32.ofNat 4))] []))
      exact trB_4 l Z a0 hw a u ku 4 g cz fm hfm 4 hx hby hml hret hlk (X0.mono (Nat.le_of_ble_eq_true rfl) (Nat.le_of_ble_eq_true rfl)) e0 hZ hown n0 OL N0 hB SC hcz SF E_a F_value_a F_coder_a V_u h3 hs (by decide) (Nat.le_refl _) (fun j q r => absurd r (Nat.not_lt.mpr q)) (Or.inl rfl)
set_option maxRecDepth 65536 in
set_option maxHeartbeats 40000000 in
theorem trA_3 (l : Launch) (Z : State) (a0 : Array Value) (hw : ∀ d ∈ tables_1, d.before a0 Z = true) (a u : Addr) (ku : ClassId) (n : Nat) (g : Nat → Int32) (cz : Int32) (fm : Value) (hfm : fm.isRef = true) {p : Program} {e : Env} {s s' : State} {m : MethodId} {below : List Frame} {meth : Method} {c : Code} {T : State} (hx : p.tables.exec = Jvm.exec) (hby : c.code = prog_8_method_2_code) (hml : c.maxLocals = 3) (hret : meth.sig.returnType = some (.object "java/lang/String")) (hlk : meth.locks = false) {locs : List Loc} (X0 : Stand p l e ({ frames := 5, cells := 4, slots := 12, locals := 110 } : Room) s' m #[(.ref a)] below meth c T locs 0 0) {h0 : Heap} (e0 : T.heap = h0) (hZ : Z.Warmed39 s'.vm) (hown : s'.vm.findClass "com/example/strict_replay/strictreplay/rules/FieldValues" = some m.cls) (n0 : Nat) (OL : Old Z n0 h0) (N0 : Fr n0 locs) (hB : own_FrH Z own_EL s s' h0) (SC : Sta Z Z.heap "java/lang/String" "COMPACT_STRINGS" "Z" (.int cz)) (hcz : ¬ cz = 0) (SF : Sta Z Z.heap "jdk/internal/util/Preconditions" "SIOOBE_FORMATTER" "Ljava/util/function/BiFunction;" fm) (E_a : Exa Z h0 a "java/lang/String") (F_value_a : Fld Z h0 a "java/lang/String" "value" "[B" (.ref u)) (F_coder_a : Fld Z h0 a "java/lang/String" "coder" "B" (.int (0 : Int32))) (V_u : Arv Z h0 u ku .byte (Int32.ofNat n) (own_F n g) (.int (0 : Int32))) (h3 : n ≤ 4) (hin : 3 ≤ n) (hw0 : ∀ j, j < 3 → own_ws (own_c8 (g j)) = 1) :
    OwnOk p e below (own_KH Z own_EL s (Q_m_trim Z n g h0 n0) ({ frames := 5, cells := 4, slots := 12, locals := 110 } : Room).cells ({ frames := 5, cells := 4, slots := 12, locals := 110 } : Room).slots) (T.setTop (mkF m 7 #[.val (.ref a), .val (.int (Int32.ofNat 3)), .val (.int (Int32.ofNat n))] [])) := by
  have Z0 : n0 ≤ h0.size := OL.1 ▸ OL.2.1
  show OwnOk p e below _ (T.setTop (mkF m 7 #[.val (.ref a), .val (.int (Int32.ofNat 3)), .val (.int (Int32.ofNat n))] []))
  have KP0 : Keep h0 h0 [] := Keep.refl h0 _
  refine own_up (fun tx kx => XS.iloadN X0.here hx rfl (hb hby d5_7) rfl kx) ?_
  show OwnOk p e below _ (T.setTop (mkF m 8 #[.val (.ref a), .val (.int (Int32.ofNat 3)), .val (.int (Int32.ofNat n))] [(.int (Int32.ofNat 3))]))
  refine own_up (fun tx kx => XS.iloadN X0.here hx rfl (hb hby d5_8) rfl kx) ?_
  show OwnOk p e below _ (T.setTop (mkF m 9 #[.val (.ref a), .val (.int (Int32.ofNat 3)), .val (.int (Int32.ofNat n))] [(.int (Int32.ofNat n)), (.int (Int32.ofNat 3))]))
  by_cases hk : (Int32.ofNat 3) < (Int32.ofNat n)
  · refine own_up (fun tx kx => XS.icmpNo X0.here hx rfl (hb hby d5_9) rfl (tlt hk).2.1 kx) ?_
    show OwnOk p e below _ (T.setTop (mkF m 12 #[.val (.ref a), .val (.int (Int32.ofNat 3)), .val (.int (Int32.ofNat n))] []))
    have q1 : 3 < n := Nat.lt_of_not_le fun q => own_nlt q (by decide) hk
    refine own_up (fun tx kx => XS.aloadN X0.here hx rfl (hb hby d5_12) rfl rfl kx) ?_
    show OwnOk p e below _ (T.setTop (mkF m 13 #[.val (.ref a), .val (.int (Int32.ofNat 3)), .val (.int (Int32.ofNat n))] [(.ref a)]))
    refine own_up (fun tx kx => XS.iloadN X0.here hx rfl (hb hby d5_13) rfl kx) ?_
    show OwnOk p e below _ (T.setTop (mkF m 14 #[.val (.ref a), .val (.int (Int32.ofNat 3)), .val (.int (Int32.ofNat n))] [(.int (Int32.ofNat 3)), (.ref a)]))
    refine own_callV X0 hx hZ (y := (⟨"java/lang/String", "charAt", "(I)C"⟩ : MethodName)) (z := (⟨"java/lang/String", "charAt", "(I)C"⟩ : MethodName)) hown (wd_70 hw) (wd_71 hw) (notFace_of_selects (args := #[]) (mvT hZ (wd_73 hw))) (wd_73 hw) (wd_72 hw) (wd_8 hw) (wd_74 hw) (by decide) (j_charAt l Z a0 hw a u ku n g cz 3 fm hfm h0 n0 OL SC hcz SF E_a F_value_a F_coder_a V_u q1 (by omega)) e0 (argsL := [(.int (Int32.ofNat 3))]) (rest := []) E_a (by rw [hml]; rfl) (lenOf pd_17 rfl) rfl rfl (W := 0) rfl (hb hby d5_14) (by decide) (by decide) (by decide) (by decide) (fun T11 v11 L11 X11 hQ11 => ?_)
    obtain ⟨rfl, Nq11, hh11⟩ := hQ11
    have N11 := Fr.app N0 Nq11
    show OwnOk p e below _ (T11.setTop (mkF m 17 #[.val (.ref a), .val (.int (Int32.ofNat 3)), .val (.int (Int32.ofNat n))] [(.int (own_c8 (g 3)))]))
    refine own_callS X11 hx hZ (y := (⟨"com/example/strict_replay/strictreplay/rules/FieldValues", "isSpaceOrTab", "(C)Z"⟩ : MethodName)) hown (wd_90 hw) (wd_91 hw) (wd_29 hw) (wd_92 hw) (by decide) (m_sot l Z a0 hw (own_c8 (g 3)) h0 n0 OL) hh11 (argsL := [(.int (own_c8 (g 3)))]) (rest := []) (by rw [hml]; rfl) (lenOf pd_18 rfl) rfl rfl (W := 0) rfl (hb hby d5_17) (by decide) (by decide) (by decide) (by decide) (fun T12 v12 L12 X12 hQ12 => ?_)
    obtain ⟨rfl, Nq12, hh12⟩ := hQ12
    have N12 := Fr.app N11 Nq12
    show OwnOk p e below _ (T12.setTop (mkF m 20 #[.val (.ref a), .val (.int (Int32.ofNat 3)), .val (.int (Int32.ofNat n))] [(.int (own_ws (own_c8 (g 3))))]))
    by_cases hz : (own_ws (own_c8 (g 3))) = (0 : Int32)
    · refine own_up (fun tx kx => XS.ifYes X12.here hx rfl (pc0 := 20) (pc' := 29) rfl (hb hby d5_20) rfl ((if0 _ _).trans (teq hz).1) (by decide) (by decide) kx) ?_
      show OwnOk p e below _ (T12.setTop (mkF m 29 #[.val (.ref a), .val (.int (Int32.ofNat 3)), .val (.int (Int32.ofNat n))] []))
      have hs : own_ts n (fun j => own_c8 (g j)) = 3 := by unfold own_ts; rw [if_pos (own_nw0 (Or.inr (hw0 0 (by decide)))), if_pos (own_nw0 (Or.inr (hw0 1 (by decide)))), if_pos (own_nw0 (Or.inr (hw0 2 (by decide)))), if_neg (own_nw1 (c := (fun j => own_c8 (g j))) q1 hz)]
      have hn5 : n = 0 ∨ n = 1 ∨ n = 2 ∨ n = 3 ∨ n = 4 := by omega
      rcases hn5 with rfl | rfl | rfl | rfl | rfl
      · exact absurd hin (by decide)
      · exact absurd hin (by decide)
      · exact absurd hin (by decide)
      · exact absurd q1 (by decide)
      · show OwnOk p e below _ (T12.setTop (mkF m 29 #[.val (.ref a), .val (.int (Int32.ofNat 3)), .val (.int (Int32.ofNat 4))] []))
        exact trB_4 l Z a0 hw a u ku 4 g cz fm hfm 3 hx hby hml hret hlk (X12.mono (Nat.le_of_ble_eq_true rfl) (Nat.le_of_ble_eq_true rfl)) hh12 hZ hown n0 OL N12 hB SC hcz SF E_a F_value_a F_coder_a V_u h3 hs (by decide) (Nat.le_refl _) (fun j q r => absurd r (Nat.not_lt.mpr q)) (Or.inr ⟨by decide, hz⟩)
    · refine own_up (fun tx kx => XS.ifNo X12.here hx rfl (hb hby d5_20) rfl ((if0 _ _).trans (feq hz).1) kx) ?_
      show OwnOk p e below _ (T12.setTop (mkF m 23 #[.val (.ref a), .val (.int (Int32.ofNat 3)), .val (.int (Int32.ofNat n))] []))
      have hw2 : ∀ j, j < 4 → own_ws (own_c8 (g j)) = 1 := fun j q => by
        by_cases q2 : j < 3
        · exact hw0 j q2
        · have q3 : j = 3 := by omega
          subst q3; exact own_ws_1 hz
      refine own_up (fun tx kx => XS.iinc X12.here hx rfl (hb hby d5_23) rfl (l' := #[.val (.ref a), .val (.int ((Int32.ofNat 3) + (1 : Int32))), .val (.int (Int32.ofNat n))]) rfl kx) ?_
      show OwnOk p e below _ (T12.setTop (mkF m 26 #[.val (.ref a), .val (.int ((Int32.ofNat 3) + (1 : Int32))), .val (.int (Int32.ofNat n))] []))
      rw [show ((Int32.ofNat 3) + (1 : Int32)) = (Int32.ofNat 4) from (show (Int32.ofNat 3) + (1 : Int32) = Int32.ofNat 4 by decide)]
      show OwnOk p e below _ (T12.setTop (mkF m 26 #[.val (.ref a), .val (.int (Int32.ofNat 4)), .val (.int (Int32.ofNat n))] []))
      refine own_up (fun tx kx => XS.goto X12.here hx rfl (pc0 := 26) (pc' := 7) rfl (hb hby d5_26) (by decide) (by decide) kx) ?_
      show OwnOk p e below _ (T12.setTop (mkF m 7 #[.val (.ref a), .val (.int (Int32.ofNat 4)), .val (.int (Int32.ofNat n))] []))
      exact trA_4 l Z a0 hw a u ku n g cz fm hfm hx hby hml hret hlk (X12.mono (Nat.le_of_ble_eq_true rfl) (Nat.le_of_ble_eq_true rfl)) hh12 hZ hown n0 OL N12 hB SC hcz SF E_a F_value_a F_coder_a V_u h3 q1 hw2
  · refine own_up (fun tx kx => XS.icmpYes X0.here hx rfl (pc0 := 9) (pc' := 29) rfl (hb hby d5_9) rfl (flt hk).2.1 (by decide) (by decide) kx) ?_
    show OwnOk p e below _ (T.setTop (mkF m 29 #[.val (.ref a), .val (.int (Int32.ofNat 3)), .val (.int (Int32.ofNat n))] []))
    have q0 : ¬ 3 < n := fun q => hk (own_lt q (by omega))
    have q1 : n = 3 := by omega
    have hs : own_ts n (fun j => own_c8 (g j)) = 3 := by
      have z : ∀ i, own_nw n (fun j => own_c8 (g j)) i = 0 := fun i => by
        by_cases q : i < n
        · exact own_nw0 (Or.inr (hw0 i (by omega)))
        · exact own_nw0 (Or.inl (by omega))
      unfold own_ts; rw [if_pos (z 0), if_pos (z 1), if_pos (z 2), if_pos (z 3), q1]
    have hn5 : n = 0 ∨ n = 1 ∨ n = 2 ∨ n = 3 ∨ n = 4 := by omega
    rcases hn5 with rfl | rfl | rfl | rfl | rfl
    · exact absurd hin (by decide)
    · exact absurd hin (by decide)
    · exact absurd hin (by decide)
    · show OwnOk p e below _ (T.setTop (mkF m 29 #[.val (.ref a), .val (.int (Int32.ofNat 3)), .val (.int (Int32.ofNat 3))] []))
      exact trB_3 l Z a0 hw a u ku 3 g cz fm hfm 3 hx hby hml hret hlk (X0.mono (Nat.le_of_ble_eq_true rfl) (Nat.le_of_ble_eq_true rfl)) e0 hZ hown n0 OL N0 hB SC hcz SF E_a F_value_a F_coder_a V_u h3 hs (by decide) (Nat.le_refl _) (fun j q r => absurd r (Nat.not_lt.mpr q)) (Or.inl rfl)
    · exact absurd q1 (by decide)
set_option maxRecDepth 65536 in
set_option maxHeartbeats 40000000 in
theorem trA_2 (l : Launch) (Z : State) (a0 : Array Value) (hw : ∀ d ∈ tables_1, d.before a0 Z = true) (a u : Addr) (ku : ClassId) (n : Nat) (g : Nat → Int32) (cz : Int32) (fm : Value) (hfm : fm.isRef = true) {p : Program} {e : Env} {s s' : State} {m : MethodId} {below : List Frame} {meth : Method} {c : Code} {T : State} (hx : p.tables.exec = Jvm.exec) (hby : c.code = prog_8_method_2_code) (hml : c.maxLocals = 3) (hret : meth.sig.returnType = some (.object "java/lang/String")) (hlk : meth.locks = false) {locs : List Loc} (X0 : Stand p l e ({ frames := 5, cells := 4, slots := 12, locals := 110 } : Room) s' m #[(.ref a)] below meth c T locs 0 0) {h0 : Heap} (e0 : T.heap = h0) (hZ : Z.Warmed39 s'.vm) (hown : s'.vm.findClass "com/example/strict_replay/strictreplay/rules/FieldValues" = some m.cls) (n0 : Nat) (OL : Old Z n0 h0) (N0 : Fr n0 locs) (hB : own_FrH Z own_EL s s' h0) (SC : Sta Z Z.heap "java/lang/String" "COMPACT_STRINGS" "Z" (.int cz)) (hcz : ¬ cz = 0) (SF : Sta Z Z.heap "jdk/internal/util/Preconditions" "SIOOBE_FORMATTER" "Ljava/util/function/BiFunction;" fm) (E_a : Exa Z h0 a "java/lang/String") (F_value_a : Fld Z h0 a "java/lang/String" "value" "[B" (.ref u)) (F_coder_a : Fld Z h0 a "java/lang/String" "coder" "B" (.int (0 : Int32))) (V_u : Arv Z h0 u ku .byte (Int32.ofNat n) (own_F n g) (.int (0 : Int32))) (h3 : n ≤ 4) (hin : 2 ≤ n) (hw0 : ∀ j, j < 2 → own_ws (own_c8 (g j)) = 1) :
    OwnOk p e below (own_KH Z own_EL s (Q_m_trim Z n g h0 n0) ({ frames := 5, cells := 4, slots := 12, locals := 110 } : Room).cells ({ frames := 5, cells := 4, slots := 12, locals := 110 } : Room).slots) (T.setTop (mkF m 7 #[.val (.ref a), .val (.int (Int32.ofNat 2)), .val (.int (Int32.ofNat n))] [])) := by
  have Z0 : n0 ≤ h0.size := OL.1 ▸ OL.2.1
  show OwnOk p e below _ (T.setTop (mkF m 7 #[.val (.ref a), .val (.int (Int32.ofNat 2)), .val (.int (Int32.ofNat n))] []))
  have KP0 : Keep h0 h0 [] := Keep.refl h0 _
  refine own_up (fun tx kx => XS.iloadN X0.here hx rfl (hb hby d5_7) rfl kx) ?_
  show OwnOk p e below _ (T.setTop (mkF m 8 #[.val (.ref a), .val (.int (Int32.ofNat 2)), .val (.int (Int32.ofNat n))] [(.int (Int32.ofNat 2))]))
  refine own_up (fun tx kx => XS.iloadN X0.here hx rfl (hb hby d5_8) rfl kx) ?_
  show OwnOk p e below _ (T.setTop (mkF m 9 #[.val (.ref a), .val (.int (Int32.ofNat 2)), .val (.int (Int32.ofNat n))] [(.int (Int32.ofNat n)), (.int (Int32.ofNat 2))]))
  by_cases hk : (Int32.ofNat 2) < (Int32.ofNat n)
  · refine own_up (fun tx kx => XS.icmpNo X0.here hx rfl (hb hby d5_9) rfl (tlt hk).2.1 kx) ?_
    show OwnOk p e below _ (T.setTop (mkF m 12 #[.val (.ref a), .val (.int (Int32.ofNat 2)), .val (.int (Int32.ofNat n))] []))
    have q1 : 2 < n := Nat.lt_of_not_le fun q => own_nlt q (by decide) hk
    refine own_up (fun tx kx => XS.aloadN X0.here hx rfl (hb hby d5_12) rfl rfl kx) ?_
    show OwnOk p e below _ (T.setTop (mkF m 13 #[.val (.ref a), .val (.int (Int32.ofNat 2)), .val (.int (Int32.ofNat n))] [(.ref a)]))
    refine own_up (fun tx kx => XS.iloadN X0.here hx rfl (hb hby d5_13) rfl kx) ?_
    show OwnOk p e below _ (T.setTop (mkF m 14 #[.val (.ref a), .val (.int (Int32.ofNat 2)), .val (.int (Int32.ofNat n))] [(.int (Int32.ofNat 2)), (.ref a)]))
    refine own_callV X0 hx hZ (y := (⟨"java/lang/String", "charAt", "(I)C"⟩ : MethodName)) (z := (⟨"java/lang/String", "charAt", "(I)C"⟩ : MethodName)) hown (wd_70 hw) (wd_71 hw) (notFace_of_selects (args := #[]) (mvT hZ (wd_73 hw))) (wd_73 hw) (wd_72 hw) (wd_8 hw) (wd_74 hw) (by decide) (j_charAt l Z a0 hw a u ku n g cz 2 fm hfm h0 n0 OL SC hcz SF E_a F_value_a F_coder_a V_u q1 (by omega)) e0 (argsL := [(.int (Int32.ofNat 2))]) (rest := []) E_a (by rw [hml]; rfl) (lenOf pd_17 rfl) rfl rfl (W := 0) rfl (hb hby d5_14) (by decide) (by decide) (by decide) (by decide) (fun T11 v11 L11 X11 hQ11 => ?_)
    obtain ⟨rfl, Nq11, hh11⟩ := hQ11
    have N11 := Fr.app N0 Nq11
    show OwnOk p e below _ (T11.setTop (mkF m 17 #[.val (.ref a), .val (.int (Int32.ofNat 2)), .val (.int (Int32.ofNat n))] [(.int (own_c8 (g 2)))]))
    refine own_callS X11 hx hZ (y := (⟨"com/example/strict_replay/strictreplay/rules/FieldValues", "isSpaceOrTab", "(C)Z"⟩ : MethodName)) hown (wd_90 hw) (wd_91 hw) (wd_29 hw) (wd_92 hw) (by decide) (m_sot l Z a0 hw (own_c8 (g 2)) h0 n0 OL) hh11 (argsL := [(.int (own_c8 (g 2)))]) (rest := []) (by rw [hml]; rfl) (lenOf pd_18 rfl) rfl rfl (W := 0) rfl (hb hby d5_17) (by decide) (by decide) (by decide) (by decide) (fun T12 v12 L12 X12 hQ12 => ?_)
    obtain ⟨rfl, Nq12, hh12⟩ := hQ12
    have N12 := Fr.app N11 Nq12
    show OwnOk p e below _ (T12.setTop (mkF m 20 #[.val (.ref a), .val (.int (Int32.ofNat 2)), .val (.int (Int32.ofNat n))] [(.int (own_ws (own_c8 (g 2))))]))
    by_cases hz : (own_ws (own_c8 (g 2))) = (0 : Int32)
    · refine own_up (fun tx kx => XS.ifYes X12.here hx rfl (pc0 := 20) (pc' := 29) rfl (hb hby d5_20) rfl ((if0 _ _).trans (teq hz).1) (by decide) (by decide) kx) ?_
      show OwnOk p e below _ (T12.setTop (mkF m 29 #[.val (.ref a), .val (.int (Int32.ofNat 2)), .val (.int (Int32.ofNat n))] []))
      have hs : own_ts n (fun j => own_c8 (g j)) = 2 := by unfold own_ts; rw [if_pos (own_nw0 (Or.inr (hw0 0 (by decide)))), if_pos (own_nw0 (Or.inr (hw0 1 (by decide)))), if_neg (own_nw1 (c := (fun j => own_c8 (g j))) q1 hz)]
      have hn5 : n = 0 ∨ n = 1 ∨ n = 2 ∨ n = 3 ∨ n = 4 := by omega
      rcases hn5 with rfl | rfl | rfl | rfl | rfl
      · exact absurd hin (by decide)
      · exact absurd hin (by decide)
      · exact absurd q1 (by decide)
      · show OwnOk p e below _ (T12.setTop (mkF m 29 #[.val (.ref a), .val (.int (Int32.ofNat 2)), .val (.int (Int32.ofNat 3))] []))
        exact trB_3 l Z a0 hw a u ku 3 g cz fm hfm 2 hx hby hml hret hlk (X12.mono (Nat.le_of_ble_eq_true rfl) (Nat.le_of_ble_eq_true rfl)) hh12 hZ hown n0 OL N12 hB SC hcz SF E_a F_value_a F_coder_a V_u h3 hs (by decide) (Nat.le_refl _) (fun j q r => absurd r (Nat.not_lt.mpr q)) (Or.inr ⟨by decide, hz⟩)
      · show OwnOk p e below _ (T12.setTop (mkF m 29 #[.val (.ref a), .val (.int (Int32.ofNat 2)), .val (.int (Int32.ofNat 4))] []))
        exact trB_4 l Z a0 hw a u ku 4 g cz fm hfm 2 hx hby hml hret hlk (X12.mono (Nat.le_of_ble_eq_true rfl) (Nat.le_of_ble_eq_true rfl)) hh12 hZ hown n0 OL N12 hB SC hcz SF E_a F_value_a F_coder_a V_u h3 hs (by decide) (Nat.le_refl _) (fun j q r => absurd r (Nat.not_lt.mpr q)) (Or.inr ⟨by decide, hz⟩)
    · refine own_up (fun tx kx => XS.ifNo X12.here hx rfl (hb hby d5_20) rfl ((if0 _ _).trans (feq hz).1) kx) ?_
      show OwnOk p e below _ (T12.setTop (mkF m 23 #[.val (.ref a), .val (.int (Int32.ofNat 2)), .val (.int (Int32.ofNat n))] []))
      have hw2 : ∀ j, j < 3 → own_ws (own_c8 (g j)) = 1 := fun j q => by
        by_cases q2 : j < 2
        · exact hw0 j q2
        · have q3 : j = 2 := by omega
          subst q3; exact own_ws_1 hz
      refine own_up (fun tx kx => XS.iinc X12.here hx rfl (hb hby d5_23) rfl (l' := #[.val (.ref a), .val (.int ((Int32.ofNat 2) + (1 : Int32))), .val (.int (Int32.ofNat n))]) rfl kx) ?_
      show OwnOk p e below _ (T12.setTop (mkF m 26 #[.val (.ref a), .val (.int ((Int32.ofNat 2) + (1 : Int32))), .val (.int (Int32.ofNat n))] []))
      rw [show ((Int32.ofNat 2) + (1 : Int32)) = (Int32.ofNat 3) from (show (Int32.ofNat 2) + (1 : Int32) = Int32.ofNat 3 by decide)]
      show OwnOk p e below _ (T12.setTop (mkF m 26 #[.val (.ref a), .val (.int (Int32.ofNat 3)), .val (.int (Int32.ofNat n))] []))
      refine own_up (fun tx kx => XS.goto X12.here hx rfl (pc0 := 26) (pc' := 7) rfl (hb hby d5_26) (by decide) (by decide) kx) ?_
      show OwnOk p e below _ (T12.setTop (mkF m 7 #[.val (.ref a), .val (.int (Int32.ofNat 3)), .val (.int (Int32.ofNat n))] []))
      exact trA_3 l Z a0 hw a u ku n g cz fm hfm hx hby hml hret hlk (X12.mono (Nat.le_of_ble_eq_true rfl) (Nat.le_of_ble_eq_true rfl)) hh12 hZ hown n0 OL N12 hB SC hcz SF E_a F_value_a F_coder_a V_u h3 q1 hw2
  · refine own_up (fun tx kx => XS.icmpYes X0.here hx rfl (pc0 := 9) (pc' := 29) rfl (hb hby d5_9) rfl (flt hk).2.1 (by decide) (by decide) kx) ?_
    show OwnOk p e below _ (T.setTop (mkF m 29 #[.val (.ref a), .val (.int (Int32.ofNat 2)), .val (.int (Int32.ofNat n))] []))
    have q0 : ¬ 2 < n := fun q => hk (own_lt q (by omega))
    have q1 : n = 2 := by omega
    have hs : own_ts n (fun j => own_c8 (g j)) = 2 := by
      have z : ∀ i, own_nw n (fun j => own_c8 (g j)) i = 0 := fun i => by
        by_cases q : i < n
        · exact own_nw0 (Or.inr (hw0 i (by omega)))
        · exact own_nw0 (Or.inl (by omega))
      unfold own_ts; rw [if_pos (z 0), if_pos (z 1), if_pos (z 2), if_pos (z 3), q1]
    have hn5 : n = 0 ∨ n = 1 ∨ n = 2 ∨ n = 3 ∨ n = 4 := by omega
    rcases hn5 with rfl | rfl | rfl | rfl | rfl
    · exact absurd hin (by decide)
    · exact absurd hin (by decide)
    · show OwnOk p e below _ (T.setTop (mkF m 29 #[.val (.ref a), .val (.int (Int32.ofNat 2)), .val (.int (Int32.ofNat 2))] []))
      exact trB_2 l Z a0 hw a u ku 2 g cz fm hfm 2 hx hby hml hret hlk (X0.mono (Nat.le_of_ble_eq_true rfl) (Nat.le_of_ble_eq_true rfl)) e0 hZ hown n0 OL N0 hB SC hcz SF E_a F_value_a F_coder_a V_u h3 hs (by decide) (Nat.le_refl _) (fun j q r => absurd r (Nat.not_lt.mpr q)) (Or.inl rfl)
    · exact absurd q1 (by decide)
    · exact absurd q1 (by decide)
set_option maxRecDepth 65536 in
set_option maxHeartbeats 40000000 in
theorem trA_1 (l : Launch) (Z : State) (a0 : Array Value) (hw : ∀ d ∈ tables_1, d.before a0 Z = true) (a u : Addr) (ku : ClassId) (n : Nat) (g : Nat → Int32) (cz : Int32) (fm : Value) (hfm : fm.isRef = true) {p : Program} {e : Env} {s s' : State} {m : MethodId} {below : List Frame} {meth : Method} {c : Code} {T : State} (hx : p.tables.exec = Jvm.exec) (hby : c.code = prog_8_method_2_code) (hml : c.maxLocals = 3) (hret : meth.sig.returnType = some (.object "java/lang/String")) (hlk : meth.locks = false) {locs : List Loc} (X0 : Stand p l e ({ frames := 5, cells := 4, slots := 12, locals := 110 } : Room) s' m #[(.ref a)] below meth c T locs 0 0) {h0 : Heap} (e0 : T.heap = h0) (hZ : Z.Warmed39 s'.vm) (hown : s'.vm.findClass "com/example/strict_replay/strictreplay/rules/FieldValues" = some m.cls) (n0 : Nat) (OL : Old Z n0 h0) (N0 : Fr n0 locs) (hB : own_FrH Z own_EL s s' h0) (SC : Sta Z Z.heap "java/lang/String" "COMPACT_STRINGS" "Z" (.int cz)) (hcz : ¬ cz = 0) (SF : Sta Z Z.heap "jdk/internal/util/Preconditions" "SIOOBE_FORMATTER" "Ljava/util/function/BiFunction;" fm) (E_a : Exa Z h0 a "java/lang/String") (F_value_a : Fld Z h0 a "java/lang/String" "value" "[B" (.ref u)) (F_coder_a : Fld Z h0 a "java/lang/String" "coder" "B" (.int (0 : Int32))) (V_u : Arv Z h0 u ku .byte (Int32.ofNat n) (own_F n g) (.int (0 : Int32))) (h3 : n ≤ 4) (hin : 1 ≤ n) (hw0 : ∀ j, j < 1 → own_ws (own_c8 (g j)) = 1) :
    OwnOk p e below (own_KH Z own_EL s (Q_m_trim Z n g h0 n0) ({ frames := 5, cells := 4, slots := 12, locals := 110 } : Room).cells ({ frames := 5, cells := 4, slots := 12, locals := 110 } : Room).slots) (T.setTop (mkF m 7 #[.val (.ref a), .val (.int (Int32.ofNat 1)), .val (.int (Int32.ofNat n))] [])) := by
  have Z0 : n0 ≤ h0.size := OL.1 ▸ OL.2.1
  show OwnOk p e below _ (T.setTop (mkF m 7 #[.val (.ref a), .val (.int (Int32.ofNat 1)), .val (.int (Int32.ofNat n))] []))
  have KP0 : Keep h0 h0 [] := Keep.refl h0 _
  refine own_up (fun tx kx => XS.iloadN X0.here hx rfl (hb hby d5_7) rfl kx) ?_
  show OwnOk p e below _ (T.setTop (mkF m 8 #[.val (.ref a), .val (.int (Int32.ofNat 1)), .val (.int (Int32.ofNat n))] [(.int (Int32.ofNat 1))]))
  refine own_up (fun tx kx => XS.iloadN X0.here hx rfl (hb hby d5_8) rfl kx) ?_
  show OwnOk p e below _ (T.setTop (mkF m 9 #[.val (.ref a), .val (.int (Int32.ofNat 1)), .val (.int (Int32.ofNat n))] [(.int (Int32.ofNat n)), (.int (Int32.ofNat 1))]))
  by_cases hk : (Int32.ofNat 1) < (Int32.ofNat n)
  · refine own_up (fun tx kx => XS.icmpNo X0.here hx rfl (hb hby d5_9) rfl (tlt hk).2.1 kx) ?_
    show OwnOk p e below _ (T.setTop (mkF m 12 #[.val (.ref a), .val (.int (Int32.ofNat 1)), .val (.int (Int32.ofNat n))] []))
    have q1 : 1 < n := Nat.lt_of_not_le fun q => own_nlt q (by decide) hk
    refine own_up (fun tx kx => XS.aloadN X0.here hx rfl (hb hby d5_12) rfl rfl kx) ?_
    show OwnOk p e below _ (T.setTop (mkF m 13 #[.val (.ref a), .val (.int (Int32.ofNat 1)), .val (.int (Int32.ofNat n))] [(.ref a)]))
    refine own_up (fun tx kx => XS.iloadN X0.here hx rfl (hb hby d5_13) rfl kx) ?_
    show OwnOk p e below _ (T.setTop (mkF m 14 #[.val (.ref a), .val (.int (Int32.ofNat 1)), .val (.int (Int32.ofNat n))] [(.int (Int32.ofNat 1)), (.ref a)]))
    refine own_callV X0 hx hZ (y := (⟨"java/lang/String", "charAt", "(I)C"⟩ : MethodName)) (z := (⟨"java/lang/String", "charAt", "(I)C"⟩ : MethodName)) hown (wd_70 hw) (wd_71 hw) (notFace_of_selects (args := #[]) (mvT hZ (wd_73 hw))) (wd_73 hw) (wd_72 hw) (wd_8 hw) (wd_74 hw) (by decide) (j_charAt l Z a0 hw a u ku n g cz 1 fm hfm h0 n0 OL SC hcz SF E_a F_value_a F_coder_a V_u q1 (by omega)) e0 (argsL := [(.int (Int32.ofNat 1))]) (rest := []) E_a (by rw [hml]; rfl) (lenOf pd_17 rfl) rfl rfl (W := 0) rfl (hb hby d5_14) (by decide) (by decide) (by decide) (by decide) (fun T11 v11 L11 X11 hQ11 => ?_)
    obtain ⟨rfl, Nq11, hh11⟩ := hQ11
    have N11 := Fr.app N0 Nq11
    show OwnOk p e below _ (T11.setTop (mkF m 17 #[.val (.ref a), .val (.int (Int32.ofNat 1)), .val (.int (Int32.ofNat n))] [(.int (own_c8 (g 1)))]))
    refine own_callS X11 hx hZ (y := (⟨"com/example/strict_replay/strictreplay/rules/FieldValues", "isSpaceOrTab", "(C)Z"⟩ : MethodName)) hown (wd_90 hw) (wd_91 hw) (wd_29 hw) (wd_92 hw) (by decide) (m_sot l Z a0 hw (own_c8 (g 1)) h0 n0 OL) hh11 (argsL := [(.int (own_c8 (g 1)))]) (rest := []) (by rw [hml]; rfl) (lenOf pd_18 rfl) rfl rfl (W := 0) rfl (hb hby d5_17) (by decide) (by decide) (by decide) (by decide) (fun T12 v12 L12 X12 hQ12 => ?_)
    obtain ⟨rfl, Nq12, hh12⟩ := hQ12
    have N12 := Fr.app N11 Nq12
    show OwnOk p e below _ (T12.setTop (mkF m 20 #[.val (.ref a), .val (.int (Int32.ofNat 1)), .val (.int (Int32.ofNat n))] [(.int (own_ws (own_c8 (g 1))))]))
    by_cases hz : (own_ws (own_c8 (g 1))) = (0 : Int32)
    · refine own_up (fun tx kx => XS.ifYes X12.here hx rfl (pc0 := 20) (pc' := 29) rfl (hb hby d5_20) rfl ((if0 _ _).trans (teq hz).1) (by decide) (by decide) kx) ?_
      show OwnOk p e below _ (T12.setTop (mkF m 29 #[.val (.ref a), .val (.int (Int32.ofNat 1)), .val (.int (Int32.ofNat n))] []))
      have hs : own_ts n (fun j => own_c8 (g j)) = 1 := by unfold own_ts; rw [if_pos (own_nw0 (Or.inr (hw0 0 (by decide)))), if_neg (own_nw1 (c := (fun j => own_c8 (g j))) q1 hz)]
      have hn5 : n = 0 ∨ n = 1 ∨ n = 2 ∨ n = 3 ∨ n = 4 := by omega
      rcases hn5 with rfl | rfl | rfl | rfl | rfl
      · exact absurd hin (by decide)
      · exact absurd q1 (by decide)
      · show OwnOk p e below _ (T12.setTop (mkF m 29 #[.val (.ref a), .val (.int (Int32.ofNat 1)), .val (.int (Int32.ofNat 2))] []))
        exact trB_2 l Z a0 hw a u ku 2 g cz fm hfm 1 hx hby hml hret hlk (X12.mono (Nat.le_of_ble_eq_true rfl) (Nat.le_of_ble_eq_true rfl)) hh12 hZ hown n0 OL N12 hB SC hcz SF E_a F_value_a F_coder_a V_u h3 hs (by decide) (Nat.le_refl _) (fun j q r => absurd r (Nat.not_lt.mpr q)) (Or.inr ⟨by decide, hz⟩)
      · show OwnOk p e below _ (T12.setTop (mkF m 29 #[.val (.ref a), .val (.int (Int32.ofNat 1)), .val (.int (Int32.ofNat 3))] []))
        exact trB_3 l Z a0 hw a u ku 3 g cz fm hfm 1 hx hby hml hret hlk (X12.mono (Nat.le_of_ble_eq_true rfl) (Nat.le_of_ble_eq_true rfl)) hh12 hZ hown n0 OL N12 hB SC hcz SF E_a F_value_a F_coder_a V_u h3 hs (by decide) (Nat.le_refl _) (fun j q r => absurd r (Nat.not_lt.mpr q)) (Or.inr ⟨by decide, hz⟩)
      · show OwnOk p e below _ (T12.setTop (mkF m 29 #[.val (.ref a), .val (.int (Int32.ofNat 1)), .val (.int (Int32.ofNat 4))] []))
        exact trB_4 l Z a0 hw a u ku 4 g cz fm hfm 1 hx hby hml hret hlk (X12.mono (Nat.le_of_ble_eq_true rfl) (Nat.le_of_ble_eq_true rfl)) hh12 hZ hown n0 OL N12 hB SC hcz SF E_a F_value_a F_coder_a V_u h3 hs (by decide) (Nat.le_refl _) (fun j q r => absurd r (Nat.not_lt.mpr q)) (Or.inr ⟨by decide, hz⟩)
    · refine own_up (fun tx kx => XS.ifNo X12.here hx rfl (hb hby d5_20) rfl ((if0 _ _).trans (feq hz).1) kx) ?_
      show OwnOk p e below _ (T12.setTop (mkF m 23 #[.val (.ref a), .val (.int (Int32.ofNat 1)), .val (.int (Int32.ofNat n))] []))
      have hw2 : ∀ j, j < 2 → own_ws (own_c8 (g j)) = 1 := fun j q => by
        by_cases q2 : j < 1
        · exact hw0 j q2
        · have q3 : j = 1 := by omega
          subst q3; exact own_ws_1 hz
      refine own_up (fun tx kx => XS.iinc X12.here hx rfl (hb hby d5_23) rfl (l' := #[.val (.ref a), .val (.int ((Int32.ofNat 1) + (1 : Int32))), .val (.int (Int32.ofNat n))]) rfl kx) ?_
      show OwnOk p e below _ (T12.setTop (mkF m 26 #[.val (.ref a), .val (.int ((Int32.ofNat 1) + (1 : Int32))), .val (.int (Int32.ofNat n))] []))
      rw [show ((Int32.ofNat 1) + (1 : Int32)) = (Int32.ofNat 2) from (show (Int32.ofNat 1) + (1 : Int32) = Int32.ofNat 2 by decide)]
      show OwnOk p e below _ (T12.setTop (mkF m 26 #[.val (.ref a), .val (.int (Int32.ofNat 2)), .val (.int (Int32.ofNat n))] []))
      refine own_up (fun tx kx => XS.goto X12.here hx rfl (pc0 := 26) (pc' := 7) rfl (hb hby d5_26) (by decide) (by decide) kx) ?_
      show OwnOk p e below _ (T12.setTop (mkF m 7 #[.val (.ref a), .val (.int (Int32.ofNat 2)), .val (.int (Int32.ofNat n))] []))
      exact trA_2 l Z a0 hw a u ku n g cz fm hfm hx hby hml hret hlk (X12.mono (Nat.le_of_ble_eq_true rfl) (Nat.le_of_ble_eq_true rfl)) hh12 hZ hown n0 OL N12 hB SC hcz SF E_a F_value_a F_coder_a V_u h3 q1 hw2
  · refine own_up (fun tx kx => XS.icmpYes X0.here hx rfl (pc0 := 9) (pc' := 29) rfl (hb hby d5_9) rfl (flt hk).2.1 (by decide) (by decide) kx) ?_
    show OwnOk p e below _ (T.setTop (mkF m 29 #[.val (.ref a), .val (.int (Int32.ofNat 1)), .val (.int (Int32.ofNat n))] []))
    have q0 : ¬ 1 < n := fun q => hk (own_lt q (by omega))
    have q1 : n = 1 := by omega
    have hs : own_ts n (fun j => own_c8 (g j)) = 1 := by
      have z : ∀ i, own_nw n (fun j => own_c8 (g j)) i = 0 := fun i => by
        by_cases q : i < n
        · exact own_nw0 (Or.inr (hw0 i (by omega)))
        · exact own_nw0 (Or.inl (by omega))
      unfold own_ts; rw [if_pos (z 0), if_pos (z 1), if_pos (z 2), if_pos (z 3), q1]
    have hn5 : n = 0 ∨ n = 1 ∨ n = 2 ∨ n = 3 ∨ n = 4 := by omega
    rcases hn5 with rfl | rfl | rfl | rfl | rfl
    · exact absurd hin (by decide)
    · show OwnOk p e below _ (T.setTop (mkF m 29 #[.val (.ref a), .val (.int (Int32.ofNat 1)), .val (.int (Int32.ofNat 1))] []))
      exact trB_1 l Z a0 hw a u ku 1 g cz fm hfm 1 hx hby hml hret hlk (X0.mono (Nat.le_of_ble_eq_true rfl) (Nat.le_of_ble_eq_true rfl)) e0 hZ hown n0 OL N0 hB SC hcz SF E_a F_value_a F_coder_a V_u h3 hs (by decide) (Nat.le_refl _) (fun j q r => absurd r (Nat.not_lt.mpr q)) (Or.inl rfl)
    · exact absurd q1 (by decide)
    · exact absurd q1 (by decide)
    · exact absurd q1 (by decide)
set_option maxRecDepth 65536 in
set_option maxHeartbeats 40000000 in
theorem trA_0 (l : Launch) (Z : State) (a0 : Array Value) (hw : ∀ d ∈ tables_1, d.before a0 Z = true) (a u : Addr) (ku : ClassId) (n : Nat) (g : Nat → Int32) (cz : Int32) (fm : Value) (hfm : fm.isRef = true) {p : Program} {e : Env} {s s' : State} {m : MethodId} {below : List Frame} {meth : Method} {c : Code} {T : State} (hx : p.tables.exec = Jvm.exec) (hby : c.code = prog_8_method_2_code) (hml : c.maxLocals = 3) (hret : meth.sig.returnType = some (.object "java/lang/String")) (hlk : meth.locks = false) {locs : List Loc} (X0 : Stand p l e ({ frames := 5, cells := 4, slots := 12, locals := 110 } : Room) s' m #[(.ref a)] below meth c T locs 0 0) {h0 : Heap} (e0 : T.heap = h0) (hZ : Z.Warmed39 s'.vm) (hown : s'.vm.findClass "com/example/strict_replay/strictreplay/rules/FieldValues" = some m.cls) (n0 : Nat) (OL : Old Z n0 h0) (N0 : Fr n0 locs) (hB : own_FrH Z own_EL s s' h0) (SC : Sta Z Z.heap "java/lang/String" "COMPACT_STRINGS" "Z" (.int cz)) (hcz : ¬ cz = 0) (SF : Sta Z Z.heap "jdk/internal/util/Preconditions" "SIOOBE_FORMATTER" "Ljava/util/function/BiFunction;" fm) (E_a : Exa Z h0 a "java/lang/String") (F_value_a : Fld Z h0 a "java/lang/String" "value" "[B" (.ref u)) (F_coder_a : Fld Z h0 a "java/lang/String" "coder" "B" (.int (0 : Int32))) (V_u : Arv Z h0 u ku .byte (Int32.ofNat n) (own_F n g) (.int (0 : Int32))) (h3 : n ≤ 4) (hin : 0 ≤ n) (hw0 : ∀ j, j < 0 → own_ws (own_c8 (g j)) = 1) :
    OwnOk p e below (own_KH Z own_EL s (Q_m_trim Z n g h0 n0) ({ frames := 5, cells := 4, slots := 12, locals := 110 } : Room).cells ({ frames := 5, cells := 4, slots := 12, locals := 110 } : Room).slots) (T.setTop (mkF m 7 #[.val (.ref a), .val (.int (Int32.ofNat 0)), .val (.int (Int32.ofNat n))] [])) := by
  have Z0 : n0 ≤ h0.size := OL.1 ▸ OL.2.1
  show OwnOk p e below _ (T.setTop (mkF m 7 #[.val (.ref a), .val (.int (Int32.ofNat 0)), .val (.int (Int32.ofNat n))] []))
  have KP0 : Keep h0 h0 [] := Keep.refl h0 _
  refine own_up (fun tx kx => XS.iloadN X0.here hx rfl (hb hby d5_7) rfl kx) ?_
  show OwnOk p e below _ (T.setTop (mkF m 8 #[.val (.ref a), .val (.int (Int32.ofNat 0)), .val (.int (Int32.ofNat n))] [(.int (Int32.ofNat 0))]))
  refine own_up (fun tx kx => XS.iloadN X0.here hx rfl (hb hby d5_8) rfl kx) ?_
  show OwnOk p e below _ (T.setTop (mkF m 9 #[.val (.ref a), .val (.int (Int32.ofNat 0)), .val (.int (Int32.ofNat n))] [(.int (Int32.ofNat n)), (.int (Int32.ofNat 0))]))
  by_cases hk : (Int32.ofNat 0) < (Int32.ofNat n)
  · refine own_up (fun tx kx => XS.icmpNo X0.here hx rfl (hb hby d5_9) rfl (tlt hk).2.1 kx) ?_
    show OwnOk p e below _ (T.setTop (mkF m 12 #[.val (.ref a), .val (.int (Int32.ofNat 0)), .val (.int (Int32.ofNat n))] []))
    have q1 : 0 < n := Nat.lt_of_not_le fun q => own_nlt q (by decide) hk
    refine own_up (fun tx kx => XS.aloadN X0.here hx rfl (hb hby d5_12) rfl rfl kx) ?_
    show OwnOk p e below _ (T.setTop (mkF m 13 #[.val (.ref a), .val (.int (Int32.ofNat 0)), .val (.int (Int32.ofNat n))] [(.ref a)]))
    refine own_up (fun tx kx => XS.iloadN X0.here hx rfl (hb hby d5_13) rfl kx) ?_
    show OwnOk p e below _ (T.setTop (mkF m 14 #[.val (.ref a), .val (.int (Int32.ofNat 0)), .val (.int (Int32.ofNat n))] [(.int (Int32.ofNat 0)), (.ref a)]))
    refine own_callV X0 hx hZ (y := (⟨"java/lang/String", "charAt", "(I)C"⟩ : MethodName)) (z := (⟨"java/lang/String", "charAt", "(I)C"⟩ : MethodName)) hown (wd_70 hw) (wd_71 hw) (notFace_of_selects (args := #[]) (mvT hZ (wd_73 hw))) (wd_73 hw) (wd_72 hw) (wd_8 hw) (wd_74 hw) (by decide) (j_charAt l Z a0 hw a u ku n g cz 0 fm hfm h0 n0 OL SC hcz SF E_a F_value_a F_coder_a V_u q1 (by omega)) e0 (argsL := [(.int (Int32.ofNat 0))]) (rest := []) E_a (by rw [hml]; rfl) (lenOf pd_17 rfl) rfl rfl (W := 0) rfl (hb hby d5_14) (by decide) (by decide) (by decide) (by decide) (fun T11 v11 L11 X11 hQ11 => ?_)
    obtain ⟨rfl, Nq11, hh11⟩ := hQ11
    have N11 := Fr.app N0 Nq11
    show OwnOk p e below _ (T11.setTop (mkF m 17 #[.val (.ref a), .val (.int (Int32.ofNat 0)), .val (.int (Int32.ofNat n))] [(.int (own_c8 (g 0)))]))
    refine own_callS X11 hx hZ (y := (⟨"com/example/strict_replay/strictreplay/rules/FieldValues", "isSpaceOrTab", "(C)Z"⟩ : MethodName)) hown (wd_90 hw) (wd_91 hw) (wd_29 hw) (wd_92 hw) (by decide) (m_sot l Z a0 hw (own_c8 (g 0)) h0 n0 OL) hh11 (argsL := [(.int (own_c8 (g 0)))]) (rest := []) (by rw [hml]; rfl) (lenOf pd_18 rfl) rfl rfl (W := 0) rfl (hb hby d5_17) (by decide) (by decide) (by decide) (by decide) (fun T12 v12 L12 X12 hQ12 => ?_)
    obtain ⟨rfl, Nq12, hh12⟩ := hQ12
    have N12 := Fr.app N11 Nq12
    show OwnOk p e below _ (T12.setTop (mkF m 20 #[.val (.ref a), .val (.int (Int32.ofNat 0)), .val (.int (Int32.ofNat n))] [(.int (own_ws (own_c8 (g 0))))]))
    by_cases hz : (own_ws (own_c8 (g 0))) = (0 : Int32)
    · refine own_up (fun tx kx => XS.ifYes X12.here hx rfl (pc0 := 20) (pc' := 29) rfl (hb hby d5_20) rfl ((if0 _ _).trans (teq hz).1) (by decide) (by decide) kx) ?_
      show OwnOk p e below _ (T12.setTop (mkF m 29 #[.val (.ref a), .val (.int (Int32.ofNat 0)), .val (.int (Int32.ofNat n))] []))
      have hs : own_ts n (fun j => own_c8 (g j)) = 0 := by unfold own_ts; rw [if_neg (own_nw1 (c := (fun j => own_c8 (g j))) q1 hz)]
      have hn5 : n = 0 ∨ n = 1 ∨ n = 2 ∨ n = 3 ∨ n = 4 := by omega
      rcases hn5 with rfl | rfl | rfl | rfl | rfl
      · exact absurd q1 (by decide)
      · show OwnOk p e below _ (T12.setTop (mkF m 29 #[.val (.ref a), .val (.int (Int32.ofNat 0)), .val (.int (Int32.ofNat 1))] []))
        exact trB_1 l Z a0 hw a u ku 1 g cz fm hfm 0 hx hby hml hret hlk (X12.mono (Nat.le_of_ble_eq_true rfl) (Nat.le_of_ble_eq_true rfl)) hh12 hZ hown n0 OL N12 hB SC hcz SF E_a F_value_a F_coder_a V_u h3 hs (by decide) (Nat.le_refl _) (fun j q r => absurd r (Nat.not_lt.mpr q)) (Or.inr ⟨by decide, hz⟩)
      · show OwnOk p e below _ (T12.setTop (mkF m 29 #[.val (.ref a), .val (.int (Int32.ofNat 0)), .val (.int (Int32.ofNat 2))] []))
        exact trB_2 l Z a0 hw a u ku 2 g cz fm hfm 0 hx hby hml hret hlk (X12.mono (Nat.le_of_ble_eq_true rfl) (Nat.le_of_ble_eq_true rfl)) hh12 hZ hown n0 OL N12 hB SC hcz SF E_a F_value_a F_coder_a V_u h3 hs (by decide) (Nat.le_refl _) (fun j q r => absurd r (Nat.not_lt.mpr q)) (Or.inr ⟨by decide, hz⟩)
      · show OwnOk p e below _ (T12.setTop (mkF m 29 #[.val (.ref a), .val (.int (Int32.ofNat 0)), .val (.int (Int32.ofNat 3))] []))
        exact trB_3 l Z a0 hw a u ku 3 g cz fm hfm 0 hx hby hml hret hlk (X12.mono (Nat.le_of_ble_eq_true rfl) (Nat.le_of_ble_eq_true rfl)) hh12 hZ hown n0 OL N12 hB SC hcz SF E_a F_value_a F_coder_a V_u h3 hs (by decide) (Nat.le_refl _) (fun j q r => absurd r (Nat.not_lt.mpr q)) (Or.inr ⟨by decide, hz⟩)
      · show OwnOk p e below _ (T12.setTop (mkF m 29 #[.val (.ref a), .val (.int (Int32.ofNat 0)), .val (.int (Int32.ofNat 4))] []))
        exact trB_4 l Z a0 hw a u ku 4 g cz fm hfm 0 hx hby hml hret hlk (X12.mono (Nat.le_of_ble_eq_true rfl) (Nat.le_of_ble_eq_true rfl)) hh12 hZ hown n0 OL N12 hB SC hcz SF E_a F_value_a F_coder_a V_u h3 hs (by decide) (Nat.le_refl _) (fun j q r => absurd r (Nat.not_lt.mpr q)) (Or.inr ⟨by decide, hz⟩)
    · refine own_up (fun tx kx => XS.ifNo X12.here hx rfl (hb hby d5_20) rfl ((if0 _ _).trans (feq hz).1) kx) ?_
      show OwnOk p e below _ (T12.setTop (mkF m 23 #[.val (.ref a), .val (.int (Int32.ofNat 0)), .val (.int (Int32.ofNat n))] []))
      have hw2 : ∀ j, j < 1 → own_ws (own_c8 (g j)) = 1 := fun j q => by
        by_cases q2 : j < 0
        · exact hw0 j q2
        · have q3 : j = 0 := by omega
          subst q3; exact own_ws_1 hz
      refine own_up (fun tx kx => XS.iinc X12.here hx rfl (hb hby d5_23) rfl (l' := #[.val (.ref a), .val (.int ((Int32.ofNat 0) + (1 : Int32))), .val (.int (Int32.ofNat n))]) rfl kx) ?_
      show OwnOk p e below _ (T12.setTop (mkF m 26 #[.val (.ref a), .val (.int ((Int32.ofNat 0) + (1 : Int32))), .val (.int (Int32.ofNat n))] []))
      rw [show ((Int32.ofNat 0) + (1 : Int32)) = (Int32.ofNat 1) from (show (Int32.ofNat 0) + (1 : Int32) = Int32.ofNat 1 by decide)]
      show OwnOk p e below _ (T12.setTop (mkF m 26 #[.val (.ref a), .val (.int (Int32.ofNat 1)), .val (.int (Int32.ofNat n))] []))
      refine own_up (fun tx kx => XS.goto X12.here hx rfl (pc0 := 26) (pc' := 7) rfl (hb hby d5_26) (by decide) (by decide) kx) ?_
      show OwnOk p e below _ (T12.setTop (mkF m 7 #[.val (.ref a), .val (.int (Int32.ofNat 1)), .val (.int (Int32.ofNat n))] []))
      exact trA_1 l Z a0 hw a u ku n g cz fm hfm hx hby hml hret hlk (X12.mono (Nat.le_of_ble_eq_true rfl) (Nat.le_of_ble_eq_true rfl)) hh12 hZ hown n0 OL N12 hB SC hcz SF E_a F_value_a F_coder_a V_u h3 q1 hw2
  · refine own_up (fun tx kx => XS.icmpYes X0.here hx rfl (pc0 := 9) (pc' := 29) rfl (hb hby d5_9) rfl (flt hk).2.1 (by decide) (by decide) kx) ?_
    show OwnOk p e below _ (T.setTop (mkF m 29 #[.val (.ref a), .val (.int (Int32.ofNat 0)), .val (.int (Int32.ofNat n))] []))
    have q0 : ¬ 0 < n := fun q => hk (own_lt q (by omega))
    have q1 : n = 0 := by omega
    have hs : own_ts n (fun j => own_c8 (g j)) = 0 := by
      have z : ∀ i, own_nw n (fun j => own_c8 (g j)) i = 0 := fun i => by
        by_cases q : i < n
        · exact own_nw0 (Or.inr (hw0 i (by omega)))
        · exact own_nw0 (Or.inl (by omega))
      unfold own_ts; rw [if_pos (z 0), if_pos (z 1), if_pos (z 2), if_pos (z 3), q1]
    have hn5 : n = 0 ∨ n = 1 ∨ n = 2 ∨ n = 3 ∨ n = 4 := by omega
    rcases hn5 with rfl | rfl | rfl | rfl | rfl
    · show OwnOk p e below _ (T.setTop (mkF m 29 #[.val (.ref a), .val (.int (Int32.ofNat 0)), .val (.int (Int32.ofNat 0))] []))
      exact trB_0 l Z a0 hw a u ku 0 g cz fm hfm 0 hx hby hml hret hlk (X0.mono (Nat.le_of_ble_eq_true rfl) (Nat.le_of_ble_eq_true rfl)) e0 hZ hown n0 OL N0 hB SC hcz SF E_a F_value_a F_coder_a V_u h3 hs (by decide) (Nat.le_refl _) (fun j q r => absurd r (Nat.not_lt.mpr q)) (Or.inl rfl)
    · exact absurd q1 (by decide)
    · exact absurd q1 (by decide)
    · exact absurd q1 (by decide)
    · exact absurd q1 (by decide)
set_option maxRecDepth 65536 in
set_option maxHeartbeats 40000000 in
theorem m_trim (l : Launch) (Z : State) (a0 : Array Value) (hw : ∀ d ∈ tables_1, d.before a0 Z = true) (a u : Addr) (ku : ClassId) (n : Nat) (g : Nat → Int32) (cz : Int32) (fm : Value) (hfm : fm.isRef = true) (h0 : Heap) (n0 : Nat) (OL : Old Z n0 h0) (SC : Sta Z Z.heap "java/lang/String" "COMPACT_STRINGS" "Z" (.int cz)) (hcz : ¬ cz = 0) (SF : Sta Z Z.heap "jdk/internal/util/Preconditions" "SIOOBE_FORMATTER" "Ljava/util/function/BiFunction;" fm) (E_a : Exa Z h0 a "java/lang/String") (F_value_a : Fld Z h0 a "java/lang/String" "value" "[B" (.ref u)) (F_coder_a : Fld Z h0 a "java/lang/String" "coder" "B" (.int (0 : Int32))) (V_u : Arv Z h0 u ku .byte (Int32.ofNat n) (own_F n g) (.int (0 : Int32))) (h3 : n ≤ 4) :
    own_MetH l Z own_EL [] (⟨"com/example/strict_replay/strictreplay/rules/FieldValues", "trim", "(Ljava/lang/String;)Ljava/lang/String;"⟩ : MethodName) prog_8_method_2_code 3 (some (.object "java/lang/String")) ({ frames := 5, cells := 4, slots := 12, locals := 110 } : Room) #[(.ref a)] h0 (Q_m_trim Z n g h0 n0) := by
  refine own_bodyH (L0 := #[.val (.ref a), .unset, .unset]) (plainFor_of_name (by first | (simp [plainName, overriddenIn]; done) | decide +kernel)) (fun m => by first | (simp [entryFrame, mkF, argsToLocals, Value.category]; done) | rfl) ?_
  intro p e s m below meth c s₁ hx hby hml hZ hown hnm hret hlk X0 e0 hB hsf
  have N0 := Fr.nil n0
  have Z0 : n0 ≤ h0.size := OL.1 ▸ OL.2.1
  show OwnOk p e below _ (s₁.setTop (mkF m 0 #[.val (.ref a), .unset, .unset] []))
  have KP0 : Keep h0 h0 [] := Keep.refl h0 _
  refine own_up (fun tx kx => XS.iconst X0.here hx rfl (hb hby d5_0) kx) ?_
  show OwnOk p e below _ (s₁.setTop (mkF m 1 #[.val (.ref a), .unset, .unset] [(.int (0 : Int32))]))
  refine own_up (fun tx kx => XS.istoreN X0.here hx rfl (hb hby d5_1) rfl (l' := #[.val (.ref a), .val (.int (0 : Int32)), .unset]) rfl kx) ?_
  show OwnOk p e below _ (s₁.setTop (mkF m 2 #[.val (.ref a), .val (.int (0 : Int32)), .unset] []))
  refine own_up (fun tx kx => XS.aloadN X0.here hx rfl (hb hby d5_2) rfl rfl kx) ?_
  show OwnOk p e below _ (s₁.setTop (mkF m 3 #[.val (.ref a), .val (.int (0 : Int32)), .unset] [(.ref a)]))
  refine own_callV X0 hx hZ (y := (⟨"java/lang/String", "length", "()I"⟩ : MethodName)) (z := (⟨"java/lang/String", "length", "()I"⟩ : MethodName)) hown (wd_31 hw) (wd_32 hw) (notFace_of_selects (args := #[]) (mvT hZ (wd_34 hw))) (wd_34 hw) (wd_33 hw) (wd_8 hw) (wd_35 hw) (by decide) (j_length l Z a0 hw a u ku n g cz h0 n0 OL SC hcz E_a F_value_a F_coder_a V_u) e0 (argsL := []) (rest := []) E_a (by rw [hml]; rfl) (lenOf pd_13 rfl) rfl rfl (W := 0) rfl (hb hby d5_3) (by decide) (by decide) (by decide) (by decide) (fun T11 v11 L11 X11 hQ11 => ?_)
  obtain ⟨rfl, Nq11, hh11⟩ := hQ11
  have N11 := Fr.app N0 Nq11
  show OwnOk p e below _ (T11.setTop (mkF m 6 #[.val (.ref a), .val (.int (0 : Int32)), .unset] [(.int (Int32.ofNat n))]))
  refine own_up (fun tx kx => XS.istoreN X11.here hx rfl (hb hby d5_6) rfl (l' := #[.val (.ref a), .val (.int (0 : Int32)), .val (.int (Int32.ofNat n))]) rfl kx) ?_
  show OwnOk p e below _ (T11.setTop (mkF m 7 #[.val (.ref a), .val (.int (0 : Int32)), .val (.int (Int32.ofNat n))] []))
  show OwnOk p e below _ (T11.setTop (mkF m 7 #[.val (.ref a), .val (.int (Int32.ofNat 0)), .val (.int (Int32.ofNat n))] []))
  exact trA_0 l Z a0 hw a u ku n g cz fm hfm hx hby hml hret hlk (X11.mono (Nat.le_of_ble_eq_true rfl) (Nat.le_of_ble_eq_true rfl)) hh11 hZ hown n0 OL N11 hB SC hcz SF E_a F_value_a F_coder_a V_u h3 (Nat.zero_le _) (fun j q => absurd q (Nat.not_lt_zero j))
def Q_m_at (h0 : Heap) (n0 : Nat) (v : Option Value) (h : Heap) (L : List Loc) : Prop := v = some (.int 1) ∧ Fr n0 L ∧ h = h0
set_option maxRecDepth 65536 in
set_option maxHeartbeats 40000000 in
theorem m_at (l : Launch) (Z : State) (a0 : Array Value) (hw : ∀ d ∈ tables_1, d.before a0 Z = true) (r u : Addr) (ku : ClassId) (ln : Nat) (gg : Nat → Int32) (k sn : Nat) (cA : Addr) (kc : ClassId) (x0 x1 x2 x3 : Int32) (cz : Int32) (fm : Value) (hfm : fm.isRef = true) (h0 : Heap) (n0 : Nat) (OL : Old Z n0 h0) (SC : Sta Z Z.heap "java/lang/String" "COMPACT_STRINGS" "Z" (.int cz)) (hcz : ¬ cz = 0) (SF : Sta Z Z.heap "jdk/internal/util/Preconditions" "SIOOBE_FORMATTER" "Ljava/util/function/BiFunction;" fm) (E_r : Exa Z h0 r "java/lang/String") (F_value_r : Fld Z h0 r "java/lang/String" "value" "[B" (.ref u)) (F_coder_r : Fld Z h0 r "java/lang/String" "coder" "B" (.int (0 : Int32))) (V_u : Arv Z h0 u ku .byte (Int32.ofNat ln) (own_F ln gg) (.int (0 : Int32))) (V_c : Arv Z h0 cA kc .char (4 : Int32) [(.int x0), (.int x1), (.int x2), (.int x3)] (.int (0 : Int32))) (hk : k ≤ 3) (hsl : sn + ln ≤ 4) (hg : ∀ j, j < ln → own_c8 (gg j) = [x0, x1, x2, x3].getD (sn + j) 0) :
    own_Met l Z (⟨"com/example/strict_replay/strictreplay/rules/FieldValuesTrimPinLaw", "at", "(Ljava/lang/String;II[CI)Z"⟩ : MethodName) method_4_code 5 (some .boolean) ({ frames := 4, cells := 0, slots := 0, locals := 60 } : Room) #[(.ref r), (.int (Int32.ofNat k)), (.int (Int32.ofNat ln)), (.ref cA), (.int (Int32.ofNat sn))] h0 (Q_m_at h0 n0) := by
  refine own_body (L0 := #[.val (.ref r), .val (.int (Int32.ofNat k)), .val (.int (Int32.ofNat ln)), .val (.ref cA), .val (.int (Int32.ofNat sn))]) (plainFor_of_name (by first | (simp [plainName, overriddenIn]; done) | decide +kernel)) (fun m => by first | (simp [entryFrame, mkF, argsToLocals, Value.category]; done) | rfl) ?_
  intro p e s m below meth c s₁ hx hby hml hZ hown hnm hret hlk X0 e0
  have N0 := Fr.nil n0
  have Z0 : n0 ≤ h0.size := OL.1 ▸ OL.2.1
  show OwnOk p e below _ (s₁.setTop (mkF m 0 #[.val (.ref r), .val (.int (Int32.ofNat k)), .val (.int (Int32.ofNat ln)), .val (.ref cA), .val (.int (Int32.ofNat sn))] []))
  refine own_up (fun tx kx => XS.iloadN X0.here hx rfl (hb hby d11_0) rfl kx) ?_
  show OwnOk p e below _ (s₁.setTop (mkF m 1 #[.val (.ref r), .val (.int (Int32.ofNat k)), .val (.int (Int32.ofNat ln)), .val (.ref cA), .val (.int (Int32.ofNat sn))] [(.int (Int32.ofNat k))]))
  refine own_up (fun tx kx => XS.iloadN X0.here hx rfl (hb hby d11_1) rfl kx) ?_
  show OwnOk p e below _ (s₁.setTop (mkF m 2 #[.val (.ref r), .val (.int (Int32.ofNat k)), .val (.int (Int32.ofNat ln)), .val (.ref cA), .val (.int (Int32.ofNat sn))] [(.int (Int32.ofNat ln)), (.int (Int32.ofNat k))]))
  by_cases hq : (Int32.ofNat k) < (Int32.ofNat ln)
  · refine own_up (fun tx kx => XS.icmpNo X0.here hx rfl (hb hby d11_2) rfl (tlt hq).2.1 kx) ?_
    show OwnOk p e below _ (s₁.setTop (mkF m 5 #[.val (.ref r), .val (.int (Int32.ofNat k)), .val (.int (Int32.ofNat ln)), .val (.ref cA), .val (.int (Int32.ofNat sn))] []))
    have q1 : k < ln := Nat.lt_of_not_le fun q => own_nlt q (by omega) hq
    refine own_up (fun tx kx => XS.aloadN X0.here hx rfl (hb hby d11_5) rfl rfl kx) ?_
    show OwnOk p e below _ (s₁.setTop (mkF m 6 #[.val (.ref r), .val (.int (Int32.ofNat k)), .val (.int (Int32.ofNat ln)), .val (.ref cA), .val (.int (Int32.ofNat sn))] [(.ref r)]))
    refine own_up (fun tx kx => XS.iloadN X0.here hx rfl (hb hby d11_6) rfl kx) ?_
    show OwnOk p e below _ (s₁.setTop (mkF m 7 #[.val (.ref r), .val (.int (Int32.ofNat k)), .val (.int (Int32.ofNat ln)), .val (.ref cA), .val (.int (Int32.ofNat sn))] [(.int (Int32.ofNat k)), (.ref r)]))
    refine own_callV X0 hx hZ (y := (⟨"java/lang/String", "charAt", "(I)C"⟩ : MethodName)) (z := (⟨"java/lang/String", "charAt", "(I)C"⟩ : MethodName)) hown (wd_121 hw) (wd_71 hw) (notFace_of_selects (args := #[]) (mvT hZ (wd_73 hw))) (wd_73 hw) (wd_72 hw) (wd_8 hw) (wd_74 hw) (by decide) (j_charAt l Z a0 hw r u ku ln gg cz k fm hfm h0 n0 OL SC hcz SF E_r F_value_r F_coder_r V_u q1 (by omega)) e0 (argsL := [(.int (Int32.ofNat k))]) (rest := []) E_r (by rw [hml]; rfl) (lenOf pd_17 rfl) rfl rfl (W := 0) rfl (hb hby d11_7) (by decide) (by decide) (by decide) (by decide) (fun T11 v11 L11 X11 hQ11 => ?_)
    obtain ⟨rfl, Nq11, hh11⟩ := hQ11
    have N11 := Fr.app N0 Nq11
    show OwnOk p e below _ (T11.setTop (mkF m 10 #[.val (.ref r), .val (.int (Int32.ofNat k)), .val (.int (Int32.ofNat ln)), .val (.ref cA), .val (.int (Int32.ofNat sn))] [(.int (own_c8 (gg k)))]))
    refine own_up (fun tx kx => XS.aloadN X11.here hx rfl (hb hby d11_10) rfl rfl kx) ?_
    show OwnOk p e below _ (T11.setTop (mkF m 11 #[.val (.ref r), .val (.int (Int32.ofNat k)), .val (.int (Int32.ofNat ln)), .val (.ref cA), .val (.int (Int32.ofNat sn))] [(.ref cA), (.int (own_c8 (gg k)))]))
    refine own_up (fun tx kx => XS.iload X11.here hx rfl (hb hby d11_11) rfl kx) ?_
    show OwnOk p e below _ (T11.setTop (mkF m 13 #[.val (.ref r), .val (.int (Int32.ofNat k)), .val (.int (Int32.ofNat ln)), .val (.ref cA), .val (.int (Int32.ofNat sn))] [(.int (Int32.ofNat sn)), (.ref cA), (.int (own_c8 (gg k)))]))
    refine own_up (fun tx kx => XS.iloadN X11.here hx rfl (hb hby d11_13) rfl kx) ?_
    show OwnOk p e below _ (T11.setTop (mkF m 14 #[.val (.ref r), .val (.int (Int32.ofNat k)), .val (.int (Int32.ofNat ln)), .val (.ref cA), .val (.int (Int32.ofNat sn))] [(.int (Int32.ofNat k)), (.int (Int32.ofNat sn)), (.ref cA), (.int (own_c8 (gg k)))]))
    refine own_up (fun tx kx => XS.iadd X11.here hx rfl (hb hby d11_14) rfl kx) ?_
    show OwnOk p e below _ (T11.setTop (mkF m 15 #[.val (.ref r), .val (.int (Int32.ofNat k)), .val (.int (Int32.ofNat ln)), .val (.ref cA), .val (.int (Int32.ofNat sn))] [(.int ((Int32.ofNat sn) + (Int32.ofNat k))), (.ref cA), (.int (own_c8 (gg k)))]))
    rw [show ((Int32.ofNat sn) + (Int32.ofNat k)) = (Int32.ofNat (sn + k)) from (Int32.ofNat_add sn k).symm]
    show OwnOk p e below _ (T11.setTop (mkF m 15 #[.val (.ref r), .val (.int (Int32.ofNat k)), .val (.int (Int32.ofNat ln)), .val (.ref cA), .val (.int (Int32.ofNat sn))] [(.int (Int32.ofNat (sn + k))), (.ref cA), (.int (own_c8 (gg k)))]))
    obtain ⟨cl12, Ar12, qc12, Sz12, Nn12, Hs12, Gf12⟩ := id V_c
    have hin12 : ¬ ((Int32.ofNat (sn + k)) < 0 ∨ cl12.slots.size ≤ ((Int32.ofNat (sn + k))).toNatClampNeg) := inb_of Sz12 (own_in (n := 4) (by omega) (by decide))
    have hat12 : cl12.slots[((Int32.ofNat (sn + k))).toNatClampNeg]? = some (.int ([x0, x1, x2, x3].getD (sn + k) 0)) := Hs12.at hin12 (by rw [own_cl (sn + k) (by omega)]; exact own_at4 (sn + k) (by omega))
    refine own_up (fun tx kx => X11.caload hx (j := (Int32.ofNat (sn + k))) (v := (.int ([x0, x1, x2, x3].getD (sn + k) 0))) (own_ar hh11 Ar12.1) (State.isArrayOf_alike hZ.alike Ar12.2.1) Ar12.2.2 hin12 hat12 (g := (mkF m 15 #[.val (.ref r), .val (.int (Int32.ofNat k)), .val (.int (Int32.ofNat ln)), .val (.ref cA), .val (.int (Int32.ofNat sn))] [(.int (Int32.ofNat (sn + k))), (.ref cA), (.int (own_c8 (gg k)))])) rfl rfl (hb hby d11_15) _ kx) ?_
    show OwnOk p e below _ (T11.setTop (mkF m 16 #[.val (.ref r), .val (.int (Int32.ofNat k)), .val (.int (Int32.ofNat ln)), .val (.ref cA), .val (.int (Int32.ofNat sn))] [(.int ([x0, x1, x2, x3].getD (sn + k) 0)), (.int (own_c8 (gg k)))]))
    refine own_up (fun tx kx => XS.icmpNo X11.here hx rfl (hb hby d11_16) rfl (teq (hg k q1)).2 kx) ?_
    show OwnOk p e below _ (T11.setTop (mkF m 19 #[.val (.ref r), .val (.int (Int32.ofNat k)), .val (.int (Int32.ofNat ln)), .val (.ref cA), .val (.int (Int32.ofNat sn))] []))
    refine own_up (fun tx kx => XS.iconst X11.here hx rfl (hb hby d11_19) kx) ?_
    show OwnOk p e below _ (T11.setTop (mkF m 20 #[.val (.ref r), .val (.int (Int32.ofNat k)), .val (.int (Int32.ofNat ln)), .val (.ref cA), .val (.int (Int32.ofNat sn))] [(.int (1 : Int32))]))
    refine own_up (fun tx kx => XS.goto X11.here hx rfl (pc0 := 20) (pc' := 24) rfl (hb hby d11_20) (by decide) (by decide) kx) ?_
    show OwnOk p e below _ (T11.setTop (mkF m 24 #[.val (.ref r), .val (.int (Int32.ofNat k)), .val (.int (Int32.ofNat ln)), .val (.ref cA), .val (.int (Int32.ofNat sn))] [(.int (1 : Int32))]))
    refine own_retN X11 hx (t := .boolean) (show meth.sig.returnType = some .boolean from hret) (by simp) hlk (hb hby d11_24) (z' := (1 : Int32)) rfl hh11 (Nat.le_of_ble_eq_true rfl) (Nat.le_of_ble_eq_true rfl) ?_
    exact ⟨rfl, N11, rfl⟩
  · refine own_up (fun tx kx => XS.icmpYes X0.here hx rfl (pc0 := 2) (pc' := 19) rfl (hb hby d11_2) rfl (flt hq).2.1 (by decide) (by decide) kx) ?_
    show OwnOk p e below _ (s₁.setTop (mkF m 19 #[.val (.ref r), .val (.int (Int32.ofNat k)), .val (.int (Int32.ofNat ln)), .val (.ref cA), .val (.int (Int32.ofNat sn))] []))
    refine own_up (fun tx kx => XS.iconst X0.here hx rfl (hb hby d11_19) kx) ?_
    show OwnOk p e below _ (s₁.setTop (mkF m 20 #[.val (.ref r), .val (.int (Int32.ofNat k)), .val (.int (Int32.ofNat ln)), .val (.ref cA), .val (.int (Int32.ofNat sn))] [(.int (1 : Int32))]))
    refine own_up (fun tx kx => XS.goto X0.here hx rfl (pc0 := 20) (pc' := 24) rfl (hb hby d11_20) (by decide) (by decide) kx) ?_
    show OwnOk p e below _ (s₁.setTop (mkF m 24 #[.val (.ref r), .val (.int (Int32.ofNat k)), .val (.int (Int32.ofNat ln)), .val (.ref cA), .val (.int (Int32.ofNat sn))] [(.int (1 : Int32))]))
    refine own_retN X0 hx (t := .boolean) (show meth.sig.returnType = some .boolean from hret) (by simp) hlk (hb hby d11_24) (z' := (1 : Int32)) rfl e0 (Nat.le_of_ble_eq_true rfl) (Nat.le_of_ble_eq_true rfl) ?_
    exact ⟨rfl, N0, rfl⟩
def Q_rm0 (n0 : Nat) (v : Option Value) (h : Heap) (L : List Loc) : Prop := v = some (.int (1 : Int32)) ∧ Fr n0 L
theorem own_nw_congr {n : Nat} {c d : Nat → Int32} (h : ∀ j, j < n → c j = d j) (i : Nat) : own_nw n c i = own_nw n d i := by
  unfold own_nw
  by_cases q : i < n
  · rw [if_pos q, if_pos q, h i q]
  · rw [if_neg q, if_neg q]
theorem own_ts_congr {n : Nat} {c d : Nat → Int32} (h : ∀ j, j < n → c j = d j) : own_ts n c = own_ts n d := by
  unfold own_ts; rw [own_nw_congr h 0, own_nw_congr h 1, own_nw_congr h 2, own_nw_congr h 3]
theorem own_te_congr {n : Nat} {c d : Nat → Int32} (h : ∀ j, j < n → c j = d j) : own_te n c = own_te n d := by
  unfold own_te; rw [own_nw_congr h 0, own_nw_congr h 1, own_nw_congr h 2, own_nw_congr h 3]
set_option maxRecDepth 65536 in
set_option maxHeartbeats 40000000 in
theorem law_277 (l : Launch) (Z : State) (a0 : Array Value) (hw : ∀ d ∈ tables_1, d.before a0 Z = true) (len p0 p1 p2 p3 : Int32) (n : Nat) (cA aA r u : Addr) (kc ku : ClassId) (gg : Nat → Int32) (x0 x1 x2 x3 : Int32) (b0 b1 b2 b3 : Int32) (cz : Int32) (fm : Value) (hfm : fm.isRef = true) {p : Program} {e : Env} {s s' : State} {m : MethodId} {below : List Frame} {meth : Method} {c : Code} {T : State} (hx : p.tables.exec = Jvm.exec) (hby : c.code = code) (hml : c.maxLocals = 16) (hret : meth.sig.returnType = ret) (hlk : meth.locks = false) {locs : List Loc} (X0 : Stand p l e room_1 s' m #[(.int len), (.int p0), (.int p1), (.int p2), (.int p3)] below meth c T locs 14 300) {h0 : Heap} (e0 : T.heap = h0) (hZ : Z.Warmed39 s'.vm) (hown : s'.vm.findClass "com/example/strict_replay/strictreplay/rules/FieldValuesTrimPinLaw" = some m.cls) (n0 : Nat) (OL : Old Z n0 h0) (N0 : Fr n0 locs) (hB : own_FrH Z own_EL s s' h0) (SC : Sta Z Z.heap "java/lang/String" "COMPACT_STRINGS" "Z" (.int cz)) (hcz : ¬ cz = 0) (SF : Sta Z Z.heap "jdk/internal/util/Preconditions" "SIOOBE_FORMATTER" "Ljava/util/function/BiFunction;" fm) (E_r : Exa Z h0 r "java/lang/String") (F_value_r : Fld Z h0 r "java/lang/String" "value" "[B" (.ref u)) (F_coder_r : Fld Z h0 r "java/lang/String" "coder" "B" (.int (0 : Int32))) (V_u : Arv Z h0 u ku .byte (Int32.ofNat (own_te n (fun j => [x0, x1, x2, x3].getD j 0) - own_ts n (fun j => [x0, x1, x2, x3].getD j 0))) (own_F (own_te n (fun j => [x0, x1, x2, x3].getD j 0) - own_ts n (fun j => [x0, x1, x2, x3].getD j 0)) gg) (.int (0 : Int32))) (V_c : Arv Z h0 cA kc .char (4 : Int32) [(.int x0), (.int x1), (.int x2), (.int x3)] (.int (0 : Int32))) (h4 : n ≤ 4) (hse : (own_ts n (fun j => [x0, x1, x2, x3].getD j 0)) ≤ (own_te n (fun j => [x0, x1, x2, x3].getD j 0))) (hen : (own_te n (fun j => [x0, x1, x2, x3].getD j 0)) ≤ n) (hg : ∀ j, j < (own_te n (fun j => [x0, x1, x2, x3].getD j 0) - own_ts n (fun j => [x0, x1, x2, x3].getD j 0)) → own_c8 (gg j) = [x0, x1, x2, x3].getD ((own_ts n (fun j => [x0, x1, x2, x3].getD j 0)) + j) 0) (hb0 : b0 = (own_nw n (fun j => [x0, x1, x2, x3].getD j 0) 0)) (hb1 : b1 = (own_nw n (fun j => [x0, x1, x2, x3].getD j 0) 1)) (hb2 : b2 = (own_nw n (fun j => [x0, x1, x2, x3].getD j 0) 2)) (hb3 : b3 = (own_nw n (fun j => [x0, x1, x2, x3].getD j 0) 3)) :
    OwnOk p e below (own_KH Z own_EL s (Q_rm0 n0) room_1.cells room_1.slots) (T.setTop (mkF m 277 #[.val (.int len), .val (.int p0), .val (.int p1), .val (.int p2), .val (.int p3), .val (.int (Int32.ofNat n)), .val (.ref cA), .val (.ref aA), .val (.ref r), .val (.int b0), .val (.int b1), .val (.int b2), .val (.int b3), .unset, .unset, .unset] [])) := by
  have Z0 : n0 ≤ h0.size := OL.1 ▸ OL.2.1
  show OwnOk p e below _ (T.setTop (mkF m 277 #[.val (.int len), .val (.int p0), .val (.int p1), .val (.int p2), .val (.int p3), .val (.int (Int32.ofNat n)), .val (.ref cA), .val (.ref aA), .val (.ref r), .val (.int b0), .val (.int b1), .val (.int b2), .val (.int b3), .unset, .unset, .unset] []))
  subst hb0 hb1 hb2 hb3
  show OwnOk p e below _ (T.setTop (mkF m 277 #[.val (.int len), .val (.int p0), .val (.int p1), .val (.int p2), .val (.int p3), .val (.int (Int32.ofNat n)), .val (.ref cA), .val (.ref aA), .val (.ref r), .val (.int (own_nw n (fun j => [x0, x1, x2, x3].getD j 0) 0)), .val (.int (own_nw n (fun j => [x0, x1, x2, x3].getD j 0) 1)), .val (.int (own_nw n (fun j => [x0, x1, x2, x3].getD j 0) 2)), .val (.int (own_nw n (fun j => [x0, x1, x2, x3].getD j 0) 3)), .unset, .unset, .unset] []))
  have sg315 : ∀ tx, Steps p.tables e below (T.setTop (mkF m 315 #[.val (.int len), .val (.int p0), .val (.int p1), .val (.int p2), .val (.int p3), .val (.int (Int32.ofNat n)), .val (.ref cA), .val (.ref aA), .val (.ref r), .val (.int (own_nw n (fun j => [x0, x1, x2, x3].getD j 0) 0)), .val (.int (own_nw n (fun j => [x0, x1, x2, x3].getD j 0) 1)), .val (.int (own_nw n (fun j => [x0, x1, x2, x3].getD j 0) 2)), .val (.int (own_nw n (fun j => [x0, x1, x2, x3].getD j 0) 3)), .unset, .unset, .unset] [(.int (Int32.ofNat (own_ts n (fun j => [x0, x1, x2, x3].getD j 0))))])) tx → Steps p.tables e below (T.setTop (mkF m 277 #[.val (.int len), .val (.int p0), .val (.int p1), .val (.int p2), .val (.int p3), .val (.int (Int32.ofNat n)), .val (.ref cA), .val (.ref aA), .val (.ref r), .val (.int (own_nw n (fun j => [x0, x1, x2, x3].getD j 0) 0)), .val (.int (own_nw n (fun j => [x0, x1, x2, x3].getD j 0) 1)), .val (.int (own_nw n (fun j => [x0, x1, x2, x3].getD j 0) 2)), .val (.int (own_nw n (fun j => [x0, x1, x2, x3].getD j 0) 3)), .unset, .unset, .unset] [])) tx := by
    intro tx kk
    show Steps p.tables e below (T.setTop (mkF m 277 #[.val (.int len), .val (.int p0), .val (.int p1), .val (.int p2), .val (.int p3), .val (.int (Int32.ofNat n)), .val (.ref cA), .val (.ref aA), .val (.ref r), .val (.int (own_nw n (fun j => [x0, x1, x2, x3].getD j 0) 0)), .val (.int (own_nw n (fun j => [x0, x1, x2, x3].getD j 0) 1)), .val (.int (own_nw n (fun j => [x0, x1, x2, x3].getD j 0) 2)), .val (.int (own_nw n (fun j => [x0, x1, x2, x3].getD j 0) 3)), .unset, .unset, .unset] [])) _
    refine XS.iload X0.here hx rfl (hb hby at_277) rfl ?_
    show Steps p.tables e below (T.setTop (mkF m 279 #[.val (.int len), .val (.int p0), .val (.int p1), .val (.int p2), .val (.int p3), .val (.int (Int32.ofNat n)), .val (.ref cA), .val (.ref aA), .val (.ref r), .val (.int (own_nw n (fun j => [x0, x1, x2, x3].getD j 0) 0)), .val (.int (own_nw n (fun j => [x0, x1, x2, x3].getD j 0) 1)), .val (.int (own_nw n (fun j => [x0, x1, x2, x3].getD j 0) 2)), .val (.int (own_nw n (fun j => [x0, x1, x2, x3].getD j 0) 3)), .unset, .unset, .unset] [(.int (own_nw n (fun j => [x0, x1, x2, x3].getD j 0) 0))])) _
    by_cases q0 : (own_nw n (fun j => [x0, x1, x2, x3].getD j 0) 0) = (0 : Int32)
    · refine XS.ifYes X0.here hx rfl (pc0 := 279) (pc' := 286) rfl (hb hby at_279) rfl ((if0 _ _).trans (teq q0).1) (by decide) (by decide) ?_
      show Steps p.tables e below (T.setTop (mkF m 286 #[.val (.int len), .val (.int p0), .val (.int p1), .val (.int p2), .val (.int p3), .val (.int (Int32.ofNat n)), .val (.ref cA), .val (.ref aA), .val (.ref r), .val (.int (own_nw n (fun j => [x0, x1, x2, x3].getD j 0) 0)), .val (.int (own_nw n (fun j => [x0, x1, x2, x3].getD j 0) 1)), .val (.int (own_nw n (fun j => [x0, x1, x2, x3].getD j 0) 2)), .val (.int (own_nw n (fun j => [x0, x1, x2, x3].getD j 0) 3)), .unset, .unset, .unset] [])) _
      refine XS.iload X0.here hx rfl (hb hby at_286) rfl ?_
      show Steps p.tables e below (T.setTop (mkF m 288 #[.val (.int len), .val (.int p0), .val (.int p1), .val (.int p2), .val (.int p3), .val (.int (Int32.ofNat n)), .val (.ref cA), .val (.ref aA), .val (.ref r), .val (.int (own_nw n (fun j => [x0, x1, x2, x3].getD j 0) 0)), .val (.int (own_nw n (fun j => [x0, x1, x2, x3].getD j 0) 1)), .val (.int (own_nw n (fun j => [x0, x1, x2, x3].getD j 0) 2)), .val (.int (own_nw n (fun j => [x0, x1, x2, x3].getD j 0) 3)), .unset, .unset, .unset] [(.int (own_nw n (fun j => [x0, x1, x2, x3].getD j 0) 1))])) _
      by_cases q1 : (own_nw n (fun j => [x0, x1, x2, x3].getD j 0) 1) = (0 : Int32)
      · refine XS.ifYes X0.here hx rfl (pc0 := 288) (pc' := 295) rfl (hb hby at_288) rfl ((if0 _ _).trans (teq q1).1) (by decide) (by decide) ?_
        show Steps p.tables e below (T.setTop (mkF m 295 #[.val (.int len), .val (.int p0), .val (.int p1), .val (.int p2), .val (.int p3), .val (.int (Int32.ofNat n)), .val (.ref cA), .val (.ref aA), .val (.ref r), .val (.int (own_nw n (fun j => [x0, x1, x2, x3].getD j 0) 0)), .val (.int (own_nw n (fun j => [x0, x1, x2, x3].getD j 0) 1)), .val (.int (own_nw n (fun j => [x0, x1, x2, x3].getD j 0) 2)), .val (.int (own_nw n (fun j => [x0, x1, x2, x3].getD j 0) 3)), .unset, .unset, .unset] [])) _
        refine XS.iload X0.here hx rfl (hb hby at_295) rfl ?_
        show Steps p.tables e below (T.setTop (mkF m 297 #[.val (.int len), .val (.int p0), .val (.int p1), .val (.int p2), .val (.int p3), .val (.int (Int32.ofNat n)), .val (.ref cA), .val (.ref aA), .val (.ref r), .val (.int (own_nw n (fun j => [x0, x1, x2, x3].getD j 0) 0)), .val (.int (own_nw n (fun j => [x0, x1, x2, x3].getD j 0) 1)), .val (.int (own_nw n (fun j => [x0, x1, x2, x3].getD j 0) 2)), .val (.int (own_nw n (fun j => [x0, x1, x2, x3].getD j 0) 3)), .unset, .unset, .unset] [(.int (own_nw n (fun j => [x0, x1, x2, x3].getD j 0) 2))])) _
        by_cases q2 : (own_nw n (fun j => [x0, x1, x2, x3].getD j 0) 2) = (0 : Int32)
        · refine XS.ifYes X0.here hx rfl (pc0 := 297) (pc' := 304) rfl (hb hby at_297) rfl ((if0 _ _).trans (teq q2).1) (by decide) (by decide) ?_
          show Steps p.tables e below (T.setTop (mkF m 304 #[.val (.int len), .val (.int p0), .val (.int p1), .val (.int p2), .val (.int p3), .val (.int (Int32.ofNat n)), .val (.ref cA), .val (.ref aA), .val (.ref r), .val (.int (own_nw n (fun j => [x0, x1, x2, x3].getD j 0) 0)), .val (.int (own_nw n (fun j => [x0, x1, x2, x3].getD j 0) 1)), .val (.int (own_nw n (fun j => [x0, x1, x2, x3].getD j 0) 2)), .val (.int (own_nw n (fun j => [x0, x1, x2, x3].getD j 0) 3)), .unset, .unset, .unset] [])) _
          refine XS.iload X0.here hx rfl (hb hby at_304) rfl ?_
          show Steps p.tables e below (T.setTop (mkF m 306 #[.val (.int len), .val (.int p0), .val (.int p1), .val (.int p2), .val (.int p3), .val (.int (Int32.ofNat n)), .val (.ref cA), .val (.ref aA), .val (.ref r), .val (.int (own_nw n (fun j => [x0, x1, x2, x3].getD j 0) 0)), .val (.int (own_nw n (fun j => [x0, x1, x2, x3].getD j 0) 1)), .val (.int (own_nw n (fun j => [x0, x1, x2, x3].getD j 0) 2)), .val (.int (own_nw n (fun j => [x0, x1, x2, x3].getD j 0) 3)), .unset, .unset, .unset] [(.int (own_nw n (fun j => [x0, x1, x2, x3].getD j 0) 3))])) _
          by_cases q3 : (own_nw n (fun j => [x0, x1, x2, x3].getD j 0) 3) = (0 : Int32)
          · refine XS.ifYes X0.here hx rfl (pc0 := 306) (pc' := 313) rfl (hb hby at_306) rfl ((if0 _ _).trans (teq q3).1) (by decide) (by decide) ?_
            show Steps p.tables e below (T.setTop (mkF m 313 #[.val (.int len), .val (.int p0), .val (.int p1), .val (.int p2), .val (.int p3), .val (.int (Int32.ofNat n)), .val (.ref cA), .val (.ref aA), .val (.ref r), .val (.int (own_nw n (fun j => [x0, x1, x2, x3].getD j 0) 0)), .val (.int (own_nw n (fun j => [x0, x1, x2, x3].getD j 0) 1)), .val (.int (own_nw n (fun j => [x0, x1, x2, x3].getD j 0) 2)), .val (.int (own_nw n (fun j => [x0, x1, x2, x3].getD j 0) 3)), .unset, .unset, .unset] [])) _
            refine XS.iload X0.here hx rfl (hb hby at_313) rfl ?_
            show Steps p.tables e below (T.setTop (mkF m 315 #[.val (.int len), .val (.int p0), .val (.int p1), .val (.int p2), .val (.int p3), .val (.int (Int32.ofNat n)), .val (.ref cA), .val (.ref aA), .val (.ref r), .val (.int (own_nw n (fun j => [x0, x1, x2, x3].getD j 0) 0)), .val (.int (own_nw n (fun j => [x0, x1, x2, x3].getD j 0) 1)), .val (.int (own_nw n (fun j => [x0, x1, x2, x3].getD j 0) 2)), .val (.int (own_nw n (fun j => [x0, x1, x2, x3].getD j 0) 3)), .unset, .unset, .unset] [(.int (Int32.ofNat n))])) _
            rw [show Int32.ofNat (own_ts n (fun j => [x0, x1, x2, x3].getD j 0)) = Int32.ofNat n by unfold own_ts; rw [if_pos q0, if_pos q1, if_pos q2, if_pos q3]] at kk
            first | exact kk | (rw [show Int32.ofNat (own_ts n (fun j => [x0, x1, x2, x3].getD j 0)) = Int32.ofNat n by unfold own_ts; rw [if_pos q0, if_pos q1, if_pos q2, if_pos q3]]; exact kk)
          · refine XS.ifNo X0.here hx rfl (hb hby at_306) rfl ((if0 _ _).trans (feq q3).1) ?_
            show Steps p.tables e below (T.setTop (mkF m 309 #[.val (.int len), .val (.int p0), .val (.int p1), .val (.int p2), .val (.int p3), .val (.int (Int32.ofNat n)), .val (.ref cA), .val (.ref aA), .val (.ref r), .val (.int (own_nw n (fun j => [x0, x1, x2, x3].getD j 0) 0)), .val (.int (own_nw n (fun j => [x0, x1, x2, x3].getD j 0) 1)), .val (.int (own_nw n (fun j => [x0, x1, x2, x3].getD j 0) 2)), .val (.int (own_nw n (fun j => [x0, x1, x2, x3].getD j 0) 3)), .unset, .unset, .unset] [])) _
            refine XS.iconst X0.here hx rfl (hb hby at_309) ?_
            show Steps p.tables e below (T.setTop (mkF m 310 #[.val (.int len), .val (.int p0), .val (.int p1), .val (.int p2), .val (.int p3), .val (.int (Int32.ofNat n)), .val (.ref cA), .val (.ref aA), .val (.ref r), .val (.int (own_nw n (fun j => [x0, x1, x2, x3].getD j 0) 0)), .val (.int (own_nw n (fun j => [x0, x1, x2, x3].getD j 0) 1)), .val (.int (own_nw n (fun j => [x0, x1, x2, x3].getD j 0) 2)), .val (.int (own_nw n (fun j => [x0, x1, x2, x3].getD j 0) 3)), .unset, .unset, .unset] [(.int (3 : Int32))])) _
            refine XS.goto X0.here hx rfl (pc0 := 310) (pc' := 315) rfl (hb hby at_310) (by decide) (by decide) ?_
            show Steps p.tables e below (T.setTop (mkF m 315 #[.val (.int len), .val (.int p0), .val (.int p1), .val (.int p2), .val (.int p3), .val (.int (Int32.ofNat n)), .val (.ref cA), .val (.ref aA), .val (.ref r), .val (.int (own_nw n (fun j => [x0, x1, x2, x3].getD j 0) 0)), .val (.int (own_nw n (fun j => [x0, x1, x2, x3].getD j 0) 1)), .val (.int (own_nw n (fun j => [x0, x1, x2, x3].getD j 0) 2)), .val (.int (own_nw n (fun j => [x0, x1, x2, x3].getD j 0) 3)), .unset, .unset, .unset] [(.int (3 : Int32))])) _
            rw [show Int32.ofNat (own_ts n (fun j => [x0, x1, x2, x3].getD j 0)) = (3 : Int32) by unfold own_ts; rw [if_pos q0, if_pos q1, if_pos q2, if_neg q3]; rfl] at kk
            first | exact kk | (rw [show Int32.ofNat (own_ts n (fun j => [x0, x1, x2, x3].getD j 0)) = (3 : Int32) by unfold own_ts; rw [if_pos q0, if_pos q1, if_pos q2, if_neg q3]; rfl]; exact kk)
        · refine XS.ifNo X0.here hx rfl (hb hby at_297) rfl ((if0 _ _).trans (feq q2).1) ?_
          show Steps p.tables e below (T.setTop (mkF m 300 #[.val (.int len), .val (.int p0), .val (.int p1), .val (.int p2), .val (.int p3), .val (.int (Int32.ofNat n)), .val (.ref cA), .val (.ref aA), .val (.ref r), .val (.int (own_nw n (fun j => [x0, x1, x2, x3].getD j 0) 0)), .val (.int (own_nw n (fun j => [x0, x1, x2, x3].getD j 0) 1)), .val (.int (own_nw n (fun j => [x0, x1, x2, x3].getD j 0) 2)), .val (.int (own_nw n (fun j => [x0, x1, x2, x3].getD j 0) 3)), .unset, .unset, .unset] [])) _
          refine XS.iconst X0.here hx rfl (hb hby at_300) ?_
          show Steps p.tables e below (T.setTop (mkF m 301 #[.val (.int len), .val (.int p0), .val (.int p1), .val (.int p2), .val (.int p3), .val (.int (Int32.ofNat n)), .val (.ref cA), .val (.ref aA), .val (.ref r), .val (.int (own_nw n (fun j => [x0, x1, x2, x3].getD j 0) 0)), .val (.int (own_nw n (fun j => [x0, x1, x2, x3].getD j 0) 1)), .val (.int (own_nw n (fun j => [x0, x1, x2, x3].getD j 0) 2)), .val (.int (own_nw n (fun j => [x0, x1, x2, x3].getD j 0) 3)), .unset, .unset, .unset] [(.int (2 : Int32))])) _
          refine XS.goto X0.here hx rfl (pc0 := 301) (pc' := 315) rfl (hb hby at_301) (by decide) (by decide) ?_
          show Steps p.tables e below (T.setTop (mkF m 315 #[.val (.int len), .val (.int p0), .val (.int p1), .val (.int p2), .val (.int p3), .val (.int (Int32.ofNat n)), .val (.ref cA), .val (.ref aA), .val (.ref r), .val (.int (own_nw n (fun j => [x0, x1, x2, x3].getD j 0) 0)), .val (.int (own_nw n (fun j => [x0, x1, x2, x3].getD j 0) 1)), .val (.int (own_nw n (fun j => [x0, x1, x2, x3].getD j 0) 2)), .val (.int (own_nw n (fun j => [x0, x1, x2, x3].getD j 0) 3)), .unset, .unset, .unset] [(.int (2 : Int32))])) _
          rw [show Int32.ofNat (own_ts n (fun j => [x0, x1, x2, x3].getD j 0)) = (2 : Int32) by unfold own_ts; rw [if_pos q0, if_pos q1, if_neg q2]; rfl] at kk
          first | exact kk | (rw [show Int32.ofNat (own_ts n (fun j => [x0, x1, x2, x3].getD j 0)) = (2 : Int32) by unfold own_ts; rw [if_pos q0, if_pos q1, if_neg q2]; rfl]; exact kk)
      · refine XS.ifNo X0.here hx rfl (hb hby at_288) rfl ((if0 _ _).trans (feq q1).1) ?_
        show Steps p.tables e below (T.setTop (mkF m 291 #[.val (.int len), .val (.int p0), .val (.int p1), .val (.int p2), .val (.int p3), .val (.int (Int32.ofNat n)), .val (.ref cA), .val (.ref aA), .val (.ref r), .val (.int (own_nw n (fun j => [x0, x1, x2, x3].getD j 0) 0)), .val (.int (own_nw n (fun j => [x0, x1, x2, x3].getD j 0) 1)), .val (.int (own_nw n (fun j => [x0, x1, x2, x3].getD j 0) 2)), .val (.int (own_nw n (fun j => [x0, x1, x2, x3].getD j 0) 3)), .unset, .unset, .unset] [])) _
        refine XS.iconst X0.here hx rfl (hb hby at_291) ?_
        show Steps p.tables e below (T.setTop (mkF m 292 #[.val (.int len), .val (.int p0), .val (.int p1), .val (.int p2), .val (.int p3), .val (.int (Int32.ofNat n)), .val (.ref cA), .val (.ref aA), .val (.ref r), .val (.int (own_nw n (fun j => [x0, x1, x2, x3].getD j 0) 0)), .val (.int (own_nw n (fun j => [x0, x1, x2, x3].getD j 0) 1)), .val (.int (own_nw n (fun j => [x0, x1, x2, x3].getD j 0) 2)), .val (.int (own_nw n (fun j => [x0, x1, x2, x3].getD j 0) 3)), .unset, .unset, .unset] [(.int (1 : Int32))])) _
        refine XS.goto X0.here hx rfl (pc0 := 292) (pc' := 315) rfl (hb hby at_292) (by decide) (by decide) ?_
        show Steps p.tables e below (T.setTop (mkF m 315 #[.val (.int len), .val (.int p0), .val (.int p1), .val (.int p2), .val (.int p3), .val (.int (Int32.ofNat n)), .val (.ref cA), .val (.ref aA), .val (.ref r), .val (.int (own_nw n (fun j => [x0, x1, x2, x3].getD j 0) 0)), .val (.int (own_nw n (fun j => [x0, x1, x2, x3].getD j 0) 1)), .val (.int (own_nw n (fun j => [x0, x1, x2, x3].getD j 0) 2)), .val (.int (own_nw n (fun j => [x0, x1, x2, x3].getD j 0) 3)), .unset, .unset, .unset] [(.int (1 : Int32))])) _
        rw [show Int32.ofNat (own_ts n (fun j => [x0, x1, x2, x3].getD j 0)) = (1 : Int32) by unfold own_ts; rw [if_pos q0, if_neg q1]; rfl] at kk
        first | exact kk | (rw [show Int32.ofNat (own_ts n (fun j => [x0, x1, x2, x3].getD j 0)) = (1 : Int32) by unfold own_ts; rw [if_pos q0, if_neg q1]; rfl]; exact kk)
    · refine XS.ifNo X0.here hx rfl (hb hby at_279) rfl ((if0 _ _).trans (feq q0).1) ?_
      show Steps p.tables e below (T.setTop (mkF m 282 #[.val (.int len), .val (.int p0), .val (.int p1), .val (.int p2), .val (.int p3), .val (.int (Int32.ofNat n)), .val (.ref cA), .val (.ref aA), .val (.ref r), .val (.int (own_nw n (fun j => [x0, x1, x2, x3].getD j 0) 0)), .val (.int (own_nw n (fun j => [x0, x1, x2, x3].getD j 0) 1)), .val (.int (own_nw n (fun j => [x0, x1, x2, x3].getD j 0) 2)), .val (.int (own_nw n (fun j => [x0, x1, x2, x3].getD j 0) 3)), .unset, .unset, .unset] [])) _
      refine XS.iconst X0.here hx rfl (hb hby at_282) ?_
      show Steps p.tables e below (T.setTop (mkF m 283 #[.val (.int len), .val (.int p0), .val (.int p1), .val (.int p2), .val (.int p3), .val (.int (Int32.ofNat n)), .val (.ref cA), .val (.ref aA), .val (.ref r), .val (.int (own_nw n (fun j => [x0, x1, x2, x3].getD j 0) 0)), .val (.int (own_nw n (fun j => [x0, x1, x2, x3].getD j 0) 1)), .val (.int (own_nw n (fun j => [x0, x1, x2, x3].getD j 0) 2)), .val (.int (own_nw n (fun j => [x0, x1, x2, x3].getD j 0) 3)), .unset, .unset, .unset] [(.int (0 : Int32))])) _
      refine XS.goto X0.here hx rfl (pc0 := 283) (pc' := 315) rfl (hb hby at_283) (by decide) (by decide) ?_
      show Steps p.tables e below (T.setTop (mkF m 315 #[.val (.int len), .val (.int p0), .val (.int p1), .val (.int p2), .val (.int p3), .val (.int (Int32.ofNat n)), .val (.ref cA), .val (.ref aA), .val (.ref r), .val (.int (own_nw n (fun j => [x0, x1, x2, x3].getD j 0) 0)), .val (.int (own_nw n (fun j => [x0, x1, x2, x3].getD j 0) 1)), .val (.int (own_nw n (fun j => [x0, x1, x2, x3].getD j 0) 2)), .val (.int (own_nw n (fun j => [x0, x1, x2, x3].getD j 0) 3)), .unset, .unset, .unset] [(.int (0 : Int32))])) _
      rw [show Int32.ofNat (own_ts n (fun j => [x0, x1, x2, x3].getD j 0)) = (0 : Int32) by unfold own_ts; rw [if_neg q0]; rfl] at kk
      first | exact kk | (rw [show Int32.ofNat (own_ts n (fun j => [x0, x1, x2, x3].getD j 0)) = (0 : Int32) by unfold own_ts; rw [if_neg q0]; rfl]; exact kk)
  refine own_up sg315 ?_
  show OwnOk p e below _ (T.setTop (mkF m 315 #[.val (.int len), .val (.int p0), .val (.int p1), .val (.int p2), .val (.int p3), .val (.int (Int32.ofNat n)), .val (.ref cA), .val (.ref aA), .val (.ref r), .val (.int (own_nw n (fun j => [x0, x1, x2, x3].getD j 0) 0)), .val (.int (own_nw n (fun j => [x0, x1, x2, x3].getD j 0) 1)), .val (.int (own_nw n (fun j => [x0, x1, x2, x3].getD j 0) 2)), .val (.int (own_nw n (fun j => [x0, x1, x2, x3].getD j 0) 3)), .unset, .unset, .unset] [(.int (Int32.ofNat (own_ts n (fun j => [x0, x1, x2, x3].getD j 0))))]))
  refine own_up (fun tx kx => XS.istore X0.here hx rfl (hb hby at_315) rfl (l' := #[.val (.int len), .val (.int p0), .val (.int p1), .val (.int p2), .val (.int p3), .val (.int (Int32.ofNat n)), .val (.ref cA), .val (.ref aA), .val (.ref r), .val (.int (own_nw n (fun j => [x0, x1, x2, x3].getD j 0) 0)), .val (.int (own_nw n (fun j => [x0, x1, x2, x3].getD j 0) 1)), .val (.int (own_nw n (fun j => [x0, x1, x2, x3].getD j 0) 2)), .val (.int (own_nw n (fun j => [x0, x1, x2, x3].getD j 0) 3)), .val (.int (Int32.ofNat (own_ts n (fun j => [x0, x1, x2, x3].getD j 0)))), .unset, .unset]) rfl kx) ?_
  show OwnOk p e below _ (T.setTop (mkF m 317 #[.val (.int len), .val (.int p0), .val (.int p1), .val (.int p2), .val (.int p3), .val (.int (Int32.ofNat n)), .val (.ref cA), .val (.ref aA), .val (.ref r), .val (.int (own_nw n (fun j => [x0, x1, x2, x3].getD j 0) 0)), .val (.int (own_nw n (fun j => [x0, x1, x2, x3].getD j 0) 1)), .val (.int (own_nw n (fun j => [x0, x1, x2, x3].getD j 0) 2)), .val (.int (own_nw n (fun j => [x0, x1, x2, x3].getD j 0) 3)), .val (.int (Int32.ofNat (own_ts n (fun j => [x0, x1, x2, x3].getD j 0)))), .unset, .unset] []))
  have sg355 : ∀ tx, Steps p.tables e below (T.setTop (mkF m 355 #[.val (.int len), .val (.int p0), .val (.int p1), .val (.int p2), .val (.int p3), .val (.int (Int32.ofNat n)), .val (.ref cA), .val (.ref aA), .val (.ref r), .val (.int (own_nw n (fun j => [x0, x1, x2, x3].getD j 0) 0)), .val (.int (own_nw n (fun j => [x0, x1, x2, x3].getD j 0) 1)), .val (.int (own_nw n (fun j => [x0, x1, x2, x3].getD j 0) 2)), .val (.int (own_nw n (fun j => [x0, x1, x2, x3].getD j 0) 3)), .val (.int (Int32.ofNat (own_ts n (fun j => [x0, x1, x2, x3].getD j 0)))), .unset, .unset] [(.int (Int32.ofNat (own_te n (fun j => [x0, x1, x2, x3].getD j 0))))])) tx → Steps p.tables e below (T.setTop (mkF m 317 #[.val (.int len), .val (.int p0), .val (.int p1), .val (.int p2), .val (.int p3), .val (.int (Int32.ofNat n)), .val (.ref cA), .val (.ref aA), .val (.ref r), .val (.int (own_nw n (fun j => [x0, x1, x2, x3].getD j 0) 0)), .val (.int (own_nw n (fun j => [x0, x1, x2, x3].getD j 0) 1)), .val (.int (own_nw n (fun j => [x0, x1, x2, x3].getD j 0) 2)), .val (.int (own_nw n (fun j => [x0, x1, x2, x3].getD j 0) 3)), .val (.int (Int32.ofNat (own_ts n (fun j => [x0, x1, x2, x3].getD j 0)))), .unset, .unset] [])) tx := by
    intro tx kk
    show Steps p.tables e below (T.setTop (mkF m 317 #[.val (.int len), .val (.int p0), .val (.int p1), .val (.int p2), .val (.int p3), .val (.int (Int32.ofNat n)), .val (.ref cA), .val (.ref aA), .val (.ref r), .val (.int (own_nw n (fun j => [x0, x1, x2, x3].getD j 0) 0)), .val (.int (own_nw n (fun j => [x0, x1, x2, x3].getD j 0) 1)), .val (.int (own_nw n (fun j => [x0, x1, x2, x3].getD j 0) 2)), .val (.int (own_nw n (fun j => [x0, x1, x2, x3].getD j 0) 3)), .val (.int (Int32.ofNat (own_ts n (fun j => [x0, x1, x2, x3].getD j 0)))), .unset, .unset] [])) _
    refine XS.iload X0.here hx rfl (hb hby at_317) rfl ?_
    show Steps p.tables e below (T.setTop (mkF m 319 #[.val (.int len), .val (.int p0), .val (.int p1), .val (.int p2), .val (.int p3), .val (.int (Int32.ofNat n)), .val (.ref cA), .val (.ref aA), .val (.ref r), .val (.int (own_nw n (fun j => [x0, x1, x2, x3].getD j 0) 0)), .val (.int (own_nw n (fun j => [x0, x1, x2, x3].getD j 0) 1)), .val (.int (own_nw n (fun j => [x0, x1, x2, x3].getD j 0) 2)), .val (.int (own_nw n (fun j => [x0, x1, x2, x3].getD j 0) 3)), .val (.int (Int32.ofNat (own_ts n (fun j => [x0, x1, x2, x3].getD j 0)))), .unset, .unset] [(.int (own_nw n (fun j => [x0, x1, x2, x3].getD j 0) 3))])) _
    by_cases q3 : (own_nw n (fun j => [x0, x1, x2, x3].getD j 0) 3) = (0 : Int32)
    · refine XS.ifYes X0.here hx rfl (pc0 := 319) (pc' := 326) rfl (hb hby at_319) rfl ((if0 _ _).trans (teq q3).1) (by decide) (by decide) ?_
      show Steps p.tables e below (T.setTop (mkF m 326 #[.val (.int len), .val (.int p0), .val (.int p1), .val (.int p2), .val (.int p3), .val (.int (Int32.ofNat n)), .val (.ref cA), .val (.ref aA), .val (.ref r), .val (.int (own_nw n (fun j => [x0, x1, x2, x3].getD j 0) 0)), .val (.int (own_nw n (fun j => [x0, x1, x2, x3].getD j 0) 1)), .val (.int (own_nw n (fun j => [x0, x1, x2, x3].getD j 0) 2)), .val (.int (own_nw n (fun j => [x0, x1, x2, x3].getD j 0) 3)), .val (.int (Int32.ofNat (own_ts n (fun j => [x0, x1, x2, x3].getD j 0)))), .unset, .unset] [])) _
      refine XS.iload X0.here hx rfl (hb hby at_326) rfl ?_
      show Steps p.tables e below (T.setTop (mkF m 328 #[.val (.int len), .val (.int p0), .val (.int p1), .val (.int p2), .val (.int p3), .val (.int (Int32.ofNat n)), .val (.ref cA), .val (.ref aA), .val (.ref r), .val (.int (own_nw n (fun j => [x0, x1, x2, x3].getD j 0) 0)), .val (.int (own_nw n (fun j => [x0, x1, x2, x3].getD j 0) 1)), .val (.int (own_nw n (fun j => [x0, x1, x2, x3].getD j 0) 2)), .val (.int (own_nw n (fun j => [x0, x1, x2, x3].getD j 0) 3)), .val (.int (Int32.ofNat (own_ts n (fun j => [x0, x1, x2, x3].getD j 0)))), .unset, .unset] [(.int (own_nw n (fun j => [x0, x1, x2, x3].getD j 0) 2))])) _
      by_cases q2 : (own_nw n (fun j => [x0, x1, x2, x3].getD j 0) 2) = (0 : Int32)
      · refine XS.ifYes X0.here hx rfl (pc0 := 328) (pc' := 335) rfl (hb hby at_328) rfl ((if0 _ _).trans (teq q2).1) (by decide) (by decide) ?_
        show Steps p.tables e below (T.setTop (mkF m 335 #[.val (.int len), .val (.int p0), .val (.int p1), .val (.int p2), .val (.int p3), .val (.int (Int32.ofNat n)), .val (.ref cA), .val (.ref aA), .val (.ref r), .val (.int (own_nw n (fun j => [x0, x1, x2, x3].getD j 0) 0)), .val (.int (own_nw n (fun j => [x0, x1, x2, x3].getD j 0) 1)), .val (.int (own_nw n (fun j => [x0, x1, x2, x3].getD j 0) 2)), .val (.int (own_nw n (fun j => [x0, x1, x2, x3].getD j 0) 3)), .val (.int (Int32.ofNat (own_ts n (fun j => [x0, x1, x2, x3].getD j 0)))), .unset, .unset] [])) _
        refine XS.iload X0.here hx rfl (hb hby at_335) rfl ?_
        show Steps p.tables e below (T.setTop (mkF m 337 #[.val (.int len), .val (.int p0), .val (.int p1), .val (.int p2), .val (.int p3), .val (.int (Int32.ofNat n)), .val (.ref cA), .val (.ref aA), .val (.ref r), .val (.int (own_nw n (fun j => [x0, x1, x2, x3].getD j 0) 0)), .val (.int (own_nw n (fun j => [x0, x1, x2, x3].getD j 0) 1)), .val (.int (own_nw n (fun j => [x0, x1, x2, x3].getD j 0) 2)), .val (.int (own_nw n (fun j => [x0, x1, x2, x3].getD j 0) 3)), .val (.int (Int32.ofNat (own_ts n (fun j => [x0, x1, x2, x3].getD j 0)))), .unset, .unset] [(.int (own_nw n (fun j => [x0, x1, x2, x3].getD j 0) 1))])) _
        by_cases q1 : (own_nw n (fun j => [x0, x1, x2, x3].getD j 0) 1) = (0 : Int32)
        · refine XS.ifYes X0.here hx rfl (pc0 := 337) (pc' := 344) rfl (hb hby at_337) rfl ((if0 _ _).trans (teq q1).1) (by decide) (by decide) ?_
          show Steps p.tables e below (T.setTop (mkF m 344 #[.val (.int len), .val (.int p0), .val (.int p1), .val (.int p2), .val (.int p3), .val (.int (Int32.ofNat n)), .val (.ref cA), .val (.ref aA), .val (.ref r), .val (.int (own_nw n (fun j => [x0, x1, x2, x3].getD j 0) 0)), .val (.int (own_nw n (fun j => [x0, x1, x2, x3].getD j 0) 1)), .val (.int (own_nw n (fun j => [x0, x1, x2, x3].getD j 0) 2)), .val (.int (own_nw n (fun j => [x0, x1, x2, x3].getD j 0) 3)), .val (.int (Int32.ofNat (own_ts n (fun j => [x0, x1, x2, x3].getD j 0)))), .unset, .unset] [])) _
          refine XS.iload X0.here hx rfl (hb hby at_344) rfl ?_
          show Steps p.tables e below (T.setTop (mkF m 346 #[.val (.int len), .val (.int p0), .val (.int p1), .val (.int p2), .val (.int p3), .val (.int (Int32.ofNat n)), .val (.ref cA), .val (.ref aA), .val (.ref r), .val (.int (own_nw n (fun j => [x0, x1, x2, x3].getD j 0) 0)), .val (.int (own_nw n (fun j => [x0, x1, x2, x3].getD j 0) 1)), .val (.int (own_nw n (fun j => [x0, x1, x2, x3].getD j 0) 2)), .val (.int (own_nw n (fun j => [x0, x1, x2, x3].getD j 0) 3)), .val (.int (Int32.ofNat (own_ts n (fun j => [x0, x1, x2, x3].getD j 0)))), .unset, .unset] [(.int (own_nw n (fun j => [x0, x1, x2, x3].getD j 0) 0))])) _
          by_cases q0 : (own_nw n (fun j => [x0, x1, x2, x3].getD j 0) 0) = (0 : Int32)
          · refine XS.ifYes X0.here hx rfl (pc0 := 346) (pc' := 353) rfl (hb hby at_346) rfl ((if0 _ _).trans (teq q0).1) (by decide) (by decide) ?_
            show Steps p.tables e below (T.setTop (mkF m 353 #[.val (.int len), .val (.int p0), .val (.int p1), .val (.int p2), .val (.int p3), .val (.int (Int32.ofNat n)), .val (.ref cA), .val (.ref aA), .val (.ref r), .val (.int (own_nw n (fun j => [x0, x1, x2, x3].getD j 0) 0)), .val (.int (own_nw n (fun j => [x0, x1, x2, x3].getD j 0) 1)), .val (.int (own_nw n (fun j => [x0, x1, x2, x3].getD j 0) 2)), .val (.int (own_nw n (fun j => [x0, x1, x2, x3].getD j 0) 3)), .val (.int (Int32.ofNat (own_ts n (fun j => [x0, x1, x2, x3].getD j 0)))), .unset, .unset] [])) _
            refine XS.iload X0.here hx rfl (hb hby at_353) rfl ?_
            show Steps p.tables e below (T.setTop (mkF m 355 #[.val (.int len), .val (.int p0), .val (.int p1), .val (.int p2), .val (.int p3), .val (.int (Int32.ofNat n)), .val (.ref cA), .val (.ref aA), .val (.ref r), .val (.int (own_nw n (fun j => [x0, x1, x2, x3].getD j 0) 0)), .val (.int (own_nw n (fun j => [x0, x1, x2, x3].getD j 0) 1)), .val (.int (own_nw n (fun j => [x0, x1, x2, x3].getD j 0) 2)), .val (.int (own_nw n (fun j => [x0, x1, x2, x3].getD j 0) 3)), .val (.int (Int32.ofNat (own_ts n (fun j => [x0, x1, x2, x3].getD j 0)))), .unset, .unset] [(.int (Int32.ofNat n))])) _
            rw [show Int32.ofNat (own_te n (fun j => [x0, x1, x2, x3].getD j 0)) = Int32.ofNat n by unfold own_te; rw [if_pos q3, if_pos q2, if_pos q1, if_pos q0]] at kk
            first | exact kk | (rw [show Int32.ofNat (own_te n (fun j => [x0, x1, x2, x3].getD j 0)) = Int32.ofNat n by unfold own_te; rw [if_pos q3, if_pos q2, if_pos q1, if_pos q0]]; exact kk)
          · refine XS.ifNo X0.here hx rfl (hb hby at_346) rfl ((if0 _ _).trans (feq q0).1) ?_
            show Steps p.tables e below (T.setTop (mkF m 349 #[.val (.int len), .val (.int p0), .val (.int p1), .val (.int p2), .val (.int p3), .val (.int (Int32.ofNat n)), .val (.ref cA), .val (.ref aA), .val (.ref r), .val (.int (own_nw n (fun j => [x0, x1, x2, x3].getD j 0) 0)), .val (.int (own_nw n (fun j => [x0, x1, x2, x3].getD j 0) 1)), .val (.int (own_nw n (fun j => [x0, x1, x2, x3].getD j 0) 2)), .val (.int (own_nw n (fun j => [x0, x1, x2, x3].getD j 0) 3)), .val (.int (Int32.ofNat (own_ts n (fun j => [x0, x1, x2, x3].getD j 0)))), .unset, .unset] [])) _
            refine XS.iconst X0.here hx rfl (hb hby at_349) ?_
            show Steps p.tables e below (T.setTop (mkF m 350 #[.val (.int len), .val (.int p0), .val (.int p1), .val (.int p2), .val (.int p3), .val (.int (Int32.ofNat n)), .val (.ref cA), .val (.ref aA), .val (.ref r), .val (.int (own_nw n (fun j => [x0, x1, x2, x3].getD j 0) 0)), .val (.int (own_nw n (fun j => [x0, x1, x2, x3].getD j 0) 1)), .val (.int (own_nw n (fun j => [x0, x1, x2, x3].getD j 0) 2)), .val (.int (own_nw n (fun j => [x0, x1, x2, x3].getD j 0) 3)), .val (.int (Int32.ofNat (own_ts n (fun j => [x0, x1, x2, x3].getD j 0)))), .unset, .unset] [(.int (1 : Int32))])) _
            refine XS.goto X0.here hx rfl (pc0 := 350) (pc' := 355) rfl (hb hby at_350) (by decide) (by decide) ?_
            show Steps p.tables e below (T.setTop (mkF m 355 #[.val (.int len), .val (.int p0), .val (.int p1), .val (.int p2), .val (.int p3), .val (.int (Int32.ofNat n)), .val (.ref cA), .val (.ref aA), .val (.ref r), .val (.int (own_nw n (fun j => [x0, x1, x2, x3].getD j 0) 0)), .val (.int (own_nw n (fun j => [x0, x1, x2, x3].getD j 0) 1)), .val (.int (own_nw n (fun j => [x0, x1, x2, x3].getD j 0) 2)), .val (.int (own_nw n (fun j => [x0, x1, x2, x3].getD j 0) 3)), .val (.int (Int32.ofNat (own_ts n (fun j => [x0, x1, x2, x3].getD j 0)))), .unset, .unset] [(.int (1 : Int32))])) _
            rw [show Int32.ofNat (own_te n (fun j => [x0, x1, x2, x3].getD j 0)) = (1 : Int32) by unfold own_te; rw [if_pos q3, if_pos q2, if_pos q1, if_neg q0]; rfl] at kk
            first | exact kk | (rw [show Int32.ofNat (own_te n (fun j => [x0, x1, x2, x3].getD j 0)) = (1 : Int32) by unfold own_te; rw [if_pos q3, if_pos q2, if_pos q1, if_neg q0]; rfl]; exact kk)
        · refine XS.ifNo X0.here hx rfl (hb hby at_337) rfl ((if0 _ _).trans (feq q1).1) ?_
          show Steps p.tables e below (T.setTop (mkF m 340 #[.val (.int len), .val (.int p0), .val (.int p1), .val (.int p2), .val (.int p3), .val (.int (Int32.ofNat n)), .val (.ref cA), .val (.ref aA), .val (.ref r), .val (.int (own_nw n (fun j => [x0, x1, x2, x3].getD j 0) 0)), .val (.int (own_nw n (fun j => [x0, x1, x2, x3].getD j 0) 1)), .val (.int (own_nw n (fun j => [x0, x1, x2, x3].getD j 0) 2)), .val (.int (own_nw n (fun j => [x0, x1, x2, x3].getD j 0) 3)), .val (.int (Int32.ofNat (own_ts n (fun j => [x0, x1, x2, x3].getD j 0)))), .unset, .unset] [])) _
          refine XS.iconst X0.here hx rfl (hb hby at_340) ?_
          show Steps p.tables e below (T.setTop (mkF m 341 #[.val (.int len), .val (.int p0), .val (.int p1), .val (.int p2), .val (.int p3), .val (.int (Int32.ofNat n)), .val (.ref cA), .val (.ref aA), .val (.ref r), .val (.int (own_nw n (fun j => [x0, x1, x2, x3].getD j 0) 0)), .val (.int (own_nw n (fun j => [x0, x1, x2, x3].getD j 0) 1)), .val (.int (own_nw n (fun j => [x0, x1, x2, x3].getD j 0) 2)), .val (.int (own_nw n (fun j => [x0, x1, x2, x3].getD j 0) 3)), .val (.int (Int32.ofNat (own_ts n (fun j => [x0, x1, x2, x3].getD j 0)))), .unset, .unset] [(.int (2 : Int32))])) _
          refine XS.goto X0.here hx rfl (pc0 := 341) (pc' := 355) rfl (hb hby at_341) (by decide) (by decide) ?_
          show Steps p.tables e below (T.setTop (mkF m 355 #[.val (.int len), .val (.int p0), .val (.int p1), .val (.int p2), .val (.int p3), .val (.int (Int32.ofNat n)), .val (.ref cA), .val (.ref aA), .val (.ref r), .val (.int (own_nw n (fun j => [x0, x1, x2, x3].getD j 0) 0)), .val (.int (own_nw n (fun j => [x0, x1, x2, x3].getD j 0) 1)), .val (.int (own_nw n (fun j => [x0, x1, x2, x3].getD j 0) 2)), .val (.int (own_nw n (fun j => [x0, x1, x2, x3].getD j 0) 3)), .val (.int (Int32.ofNat (own_ts n (fun j => [x0, x1, x2, x3].getD j 0)))), .unset, .unset] [(.int (2 : Int32))])) _
          rw [show Int32.ofNat (own_te n (fun j => [x0, x1, x2, x3].getD j 0)) = (2 : Int32) by unfold own_te; rw [if_pos q3, if_pos q2, if_neg q1]; rfl] at kk
          first | exact kk | (rw [show Int32.ofNat (own_te n (fun j => [x0, x1, x2, x3].getD j 0)) = (2 : Int32) by unfold own_te; rw [if_pos q3, if_pos q2, if_neg q1]; rfl]; exact kk)
      · refine XS.ifNo X0.here hx rfl (hb hby at_328) rfl ((if0 _ _).trans (feq q2).1) ?_
        show Steps p.tables e below (T.setTop (mkF m 331 #[.val (.int len), .val (.int p0), .val (.int p1), .val (.int p2), .val (.int p3), .val (.int (Int32.ofNat n)), .val (.ref cA), .val (.ref aA), .val (.ref r), .val (.int (own_nw n (fun j => [x0, x1, x2, x3].getD j 0) 0)), .val (.int (own_nw n (fun j => [x0, x1, x2, x3].getD j 0) 1)), .val (.int (own_nw n (fun j => [x0, x1, x2, x3].getD j 0) 2)), .val (.int (own_nw n (fun j => [x0, x1, x2, x3].getD j 0) 3)), .val (.int (Int32.ofNat (own_ts n (fun j => [x0, x1, x2, x3].getD j 0)))), .unset, .unset] [])) _
        refine XS.iconst X0.here hx rfl (hb hby at_331) ?_
        show Steps p.tables e below (T.setTop (mkF m 332 #[.val (.int len), .val (.int p0), .val (.int p1), .val (.int p2), .val (.int p3), .val (.int (Int32.ofNat n)), .val (.ref cA), .val (.ref aA), .val (.ref r), .val (.int (own_nw n (fun j => [x0, x1, x2, x3].getD j 0) 0)), .val (.int (own_nw n (fun j => [x0, x1, x2, x3].getD j 0) 1)), .val (.int (own_nw n (fun j => [x0, x1, x2, x3].getD j 0) 2)), .val (.int (own_nw n (fun j => [x0, x1, x2, x3].getD j 0) 3)), .val (.int (Int32.ofNat (own_ts n (fun j => [x0, x1, x2, x3].getD j 0)))), .unset, .unset] [(.int (3 : Int32))])) _
        refine XS.goto X0.here hx rfl (pc0 := 332) (pc' := 355) rfl (hb hby at_332) (by decide) (by decide) ?_
        show Steps p.tables e below (T.setTop (mkF m 355 #[.val (.int len), .val (.int p0), .val (.int p1), .val (.int p2), .val (.int p3), .val (.int (Int32.ofNat n)), .val (.ref cA), .val (.ref aA), .val (.ref r), .val (.int (own_nw n (fun j => [x0, x1, x2, x3].getD j 0) 0)), .val (.int (own_nw n (fun j => [x0, x1, x2, x3].getD j 0) 1)), .val (.int (own_nw n (fun j => [x0, x1, x2, x3].getD j 0) 2)), .val (.int (own_nw n (fun j => [x0, x1, x2, x3].getD j 0) 3)), .val (.int (Int32.ofNat (own_ts n (fun j => [x0, x1, x2, x3].getD j 0)))), .unset, .unset] [(.int (3 : Int32))])) _
        rw [show Int32.ofNat (own_te n (fun j => [x0, x1, x2, x3].getD j 0)) = (3 : Int32) by unfold own_te; rw [if_pos q3, if_neg q2]; rfl] at kk
        first | exact kk | (rw [show Int32.ofNat (own_te n (fun j => [x0, x1, x2, x3].getD j 0)) = (3 : Int32) by unfold own_te; rw [if_pos q3, if_neg q2]; rfl]; exact kk)
    · refine XS.ifNo X0.here hx rfl (hb hby at_319) rfl ((if0 _ _).trans (feq q3).1) ?_
      show Steps p.tables e below (T.setTop (mkF m 322 #[.val (.int len), .val (.int p0), .val (.int p1), .val (.int p2), .val (.int p3), .val (.int (Int32.ofNat n)), .val (.ref cA), .val (.ref aA), .val (.ref r), .val (.int (own_nw n (fun j => [x0, x1, x2, x3].getD j 0) 0)), .val (.int (own_nw n (fun j => [x0, x1, x2, x3].getD j 0) 1)), .val (.int (own_nw n (fun j => [x0, x1, x2, x3].getD j 0) 2)), .val (.int (own_nw n (fun j => [x0, x1, x2, x3].getD j 0) 3)), .val (.int (Int32.ofNat (own_ts n (fun j => [x0, x1, x2, x3].getD j 0)))), .unset, .unset] [])) _
      refine XS.iconst X0.here hx rfl (hb hby at_322) ?_
      show Steps p.tables e below (T.setTop (mkF m 323 #[.val (.int len), .val (.int p0), .val (.int p1), .val (.int p2), .val (.int p3), .val (.int (Int32.ofNat n)), .val (.ref cA), .val (.ref aA), .val (.ref r), .val (.int (own_nw n (fun j => [x0, x1, x2, x3].getD j 0) 0)), .val (.int (own_nw n (fun j => [x0, x1, x2, x3].getD j 0) 1)), .val (.int (own_nw n (fun j => [x0, x1, x2, x3].getD j 0) 2)), .val (.int (own_nw n (fun j => [x0, x1, x2, x3].getD j 0) 3)), .val (.int (Int32.ofNat (own_ts n (fun j => [x0, x1, x2, x3].getD j 0)))), .unset, .unset] [(.int (4 : Int32))])) _
      refine XS.goto X0.here hx rfl (pc0 := 323) (pc' := 355) rfl (hb hby at_323) (by decide) (by decide) ?_
      show Steps p.tables e below (T.setTop (mkF m 355 #[.val (.int len), .val (.int p0), .val (.int p1), .val (.int p2), .val (.int p3), .val (.int (Int32.ofNat n)), .val (.ref cA), .val (.ref aA), .val (.ref r), .val (.int (own_nw n (fun j => [x0, x1, x2, x3].getD j 0) 0)), .val (.int (own_nw n (fun j => [x0, x1, x2, x3].getD j 0) 1)), .val (.int (own_nw n (fun j => [x0, x1, x2, x3].getD j 0) 2)), .val (.int (own_nw n (fun j => [x0, x1, x2, x3].getD j 0) 3)), .val (.int (Int32.ofNat (own_ts n (fun j => [x0, x1, x2, x3].getD j 0)))), .unset, .unset] [(.int (4 : Int32))])) _
      rw [show Int32.ofNat (own_te n (fun j => [x0, x1, x2, x3].getD j 0)) = (4 : Int32) by unfold own_te; rw [if_neg q3]; rfl] at kk
      first | exact kk | (rw [show Int32.ofNat (own_te n (fun j => [x0, x1, x2, x3].getD j 0)) = (4 : Int32) by unfold own_te; rw [if_neg q3]; rfl]; exact kk)
  refine own_up sg355 ?_
  show OwnOk p e below _ (T.setTop (mkF m 355 #[.val (.int len), .val (.int p0), .val (.int p1), .val (.int p2), .val (.int p3), .val (.int (Int32.ofNat n)), .val (.ref cA), .val (.ref aA), .val (.ref r), .val (.int (own_nw n (fun j => [x0, x1, x2, x3].getD j 0) 0)), .val (.int (own_nw n (fun j => [x0, x1, x2, x3].getD j 0) 1)), .val (.int (own_nw n (fun j => [x0, x1, x2, x3].getD j 0) 2)), .val (.int (own_nw n (fun j => [x0, x1, x2, x3].getD j 0) 3)), .val (.int (Int32.ofNat (own_ts n (fun j => [x0, x1, x2, x3].getD j 0)))), .unset, .unset] [(.int (Int32.ofNat (own_te n (fun j => [x0, x1, x2, x3].getD j 0))))]))
  refine own_up (fun tx kx => XS.istore X0.here hx rfl (hb hby at_355) rfl (l' := #[.val (.int len), .val (.int p0), .val (.int p1), .val (.int p2), .val (.int p3), .val (.int (Int32.ofNat n)), .val (.ref cA), .val (.ref aA), .val (.ref r), .val (.int (own_nw n (fun j => [x0, x1, x2, x3].getD j 0) 0)), .val (.int (own_nw n (fun j => [x0, x1, x2, x3].getD j 0) 1)), .val (.int (own_nw n (fun j => [x0, x1, x2, x3].getD j 0) 2)), .val (.int (own_nw n (fun j => [x0, x1, x2, x3].getD j 0) 3)), .val (.int (Int32.ofNat (own_ts n (fun j => [x0, x1, x2, x3].getD j 0)))), .val (.int (Int32.ofNat (own_te n (fun j => [x0, x1, x2, x3].getD j 0)))), .unset]) rfl kx) ?_
  show OwnOk p e below _ (T.setTop (mkF m 357 #[.val (.int len), .val (.int p0), .val (.int p1), .val (.int p2), .val (.int p3), .val (.int (Int32.ofNat n)), .val (.ref cA), .val (.ref aA), .val (.ref r), .val (.int (own_nw n (fun j => [x0, x1, x2, x3].getD j 0) 0)), .val (.int (own_nw n (fun j => [x0, x1, x2, x3].getD j 0) 1)), .val (.int (own_nw n (fun j => [x0, x1, x2, x3].getD j 0) 2)), .val (.int (own_nw n (fun j => [x0, x1, x2, x3].getD j 0) 3)), .val (.int (Int32.ofNat (own_ts n (fun j => [x0, x1, x2, x3].getD j 0)))), .val (.int (Int32.ofNat (own_te n (fun j => [x0, x1, x2, x3].getD j 0)))), .unset] []))
  refine own_up (fun tx kx => XS.iload X0.here hx rfl (hb hby at_357) rfl kx) ?_
  show OwnOk p e below _ (T.setTop (mkF m 359 #[.val (.int len), .val (.int p0), .val (.int p1), .val (.int p2), .val (.int p3), .val (.int (Int32.ofNat n)), .val (.ref cA), .val (.ref aA), .val (.ref r), .val (.int (own_nw n (fun j => [x0, x1, x2, x3].getD j 0) 0)), .val (.int (own_nw n (fun j => [x0, x1, x2, x3].getD j 0) 1)), .val (.int (own_nw n (fun j => [x0, x1, x2, x3].getD j 0) 2)), .val (.int (own_nw n (fun j => [x0, x1, x2, x3].getD j 0) 3)), .val (.int (Int32.ofNat (own_ts n (fun j => [x0, x1, x2, x3].getD j 0)))), .val (.int (Int32.ofNat (own_te n (fun j => [x0, x1, x2, x3].getD j 0)))), .unset] [(.int (Int32.ofNat (own_te n (fun j => [x0, x1, x2, x3].getD j 0))))]))
  refine own_up (fun tx kx => XS.iload X0.here hx rfl (hb hby at_359) rfl kx) ?_
  show OwnOk p e below _ (T.setTop (mkF m 361 #[.val (.int len), .val (.int p0), .val (.int p1), .val (.int p2), .val (.int p3), .val (.int (Int32.ofNat n)), .val (.ref cA), .val (.ref aA), .val (.ref r), .val (.int (own_nw n (fun j => [x0, x1, x2, x3].getD j 0) 0)), .val (.int (own_nw n (fun j => [x0, x1, x2, x3].getD j 0) 1)), .val (.int (own_nw n (fun j => [x0, x1, x2, x3].getD j 0) 2)), .val (.int (own_nw n (fun j => [x0, x1, x2, x3].getD j 0) 3)), .val (.int (Int32.ofNat (own_ts n (fun j => [x0, x1, x2, x3].getD j 0)))), .val (.int (Int32.ofNat (own_te n (fun j => [x0, x1, x2, x3].getD j 0)))), .unset] [(.int (Int32.ofNat (own_ts n (fun j => [x0, x1, x2, x3].getD j 0)))), (.int (Int32.ofNat (own_te n (fun j => [x0, x1, x2, x3].getD j 0))))]))
  refine own_up (fun tx kx => XS.isub X0.here hx rfl (hb hby at_361) rfl kx) ?_
  show OwnOk p e below _ (T.setTop (mkF m 362 #[.val (.int len), .val (.int p0), .val (.int p1), .val (.int p2), .val (.int p3), .val (.int (Int32.ofNat n)), .val (.ref cA), .val (.ref aA), .val (.ref r), .val (.int (own_nw n (fun j => [x0, x1, x2, x3].getD j 0) 0)), .val (.int (own_nw n (fun j => [x0, x1, x2, x3].getD j 0) 1)), .val (.int (own_nw n (fun j => [x0, x1, x2, x3].getD j 0) 2)), .val (.int (own_nw n (fun j => [x0, x1, x2, x3].getD j 0) 3)), .val (.int (Int32.ofNat (own_ts n (fun j => [x0, x1, x2, x3].getD j 0)))), .val (.int (Int32.ofNat (own_te n (fun j => [x0, x1, x2, x3].getD j 0)))), .unset] [(.int ((Int32.ofNat (own_te n (fun j => [x0, x1, x2, x3].getD j 0))) - (Int32.ofNat (own_ts n (fun j => [x0, x1, x2, x3].getD j 0)))))]))
  rw [show ((Int32.ofNat (own_te n (fun j => [x0, x1, x2, x3].getD j 0))) - (Int32.ofNat (own_ts n (fun j => [x0, x1, x2, x3].getD j 0)))) = (Int32.ofNat (own_te n (fun j => [x0, x1, x2, x3].getD j 0) - own_ts n (fun j => [x0, x1, x2, x3].getD j 0))) from (Int32.ofNat_sub (own_te n (fun j => [x0, x1, x2, x3].getD j 0)) (own_ts n (fun j => [x0, x1, x2, x3].getD j 0)) hse).symm]
  show OwnOk p e below _ (T.setTop (mkF m 362 #[.val (.int len), .val (.int p0), .val (.int p1), .val (.int p2), .val (.int p3), .val (.int (Int32.ofNat n)), .val (.ref cA), .val (.ref aA), .val (.ref r), .val (.int (own_nw n (fun j => [x0, x1, x2, x3].getD j 0) 0)), .val (.int (own_nw n (fun j => [x0, x1, x2, x3].getD j 0) 1)), .val (.int (own_nw n (fun j => [x0, x1, x2, x3].getD j 0) 2)), .val (.int (own_nw n (fun j => [x0, x1, x2, x3].getD j 0) 3)), .val (.int (Int32.ofNat (own_ts n (fun j => [x0, x1, x2, x3].getD j 0)))), .val (.int (Int32.ofNat (own_te n (fun j => [x0, x1, x2, x3].getD j 0)))), .unset] [(.int (Int32.ofNat (own_te n (fun j => [x0, x1, x2, x3].getD j 0) - own_ts n (fun j => [x0, x1, x2, x3].getD j 0))))]))
  refine own_up (fun tx kx => XS.istore X0.here hx rfl (hb hby at_362) rfl (l' := #[.val (.int len), .val (.int p0), .val (.int p1), .val (.int p2), .val (.int p3), .val (.int (Int32.ofNat n)), .val (.ref cA), .val (.ref aA), .val (.ref r), .val (.int (own_nw n (fun j => [x0, x1, x2, x3].getD j 0) 0)), .val (.int (own_nw n (fun j => [x0, x1, x2, x3].getD j 0) 1)), .val (.int (own_nw n (fun j => [x0, x1, x2, x3].getD j 0) 2)), .val (.int (own_nw n (fun j => [x0, x1, x2, x3].getD j 0) 3)), .val (.int (Int32.ofNat (own_ts n (fun j => [x0, x1, x2, x3].getD j 0)))), .val (.int (Int32.ofNat (own_te n (fun j => [x0, x1, x2, x3].getD j 0)))), .val (.int (Int32.ofNat (own_te n (fun j => [x0, x1, x2, x3].getD j 0) - own_ts n (fun j => [x0, x1, x2, x3].getD j 0))))]) rfl kx) ?_
  show OwnOk p e below _ (T.setTop (mkF m 364 #[.val (.int len), .val (.int p0), .val (.int p1), .val (.int p2), .val (.int p3), .val (.int (Int32.ofNat n)), .val (.ref cA), .val (.ref aA), .val (.ref r), .val (.int (own_nw n (fun j => [x0, x1, x2, x3].getD j 0) 0)), .val (.int (own_nw n (fun j => [x0, x1, x2, x3].getD j 0) 1)), .val (.int (own_nw n (fun j => [x0, x1, x2, x3].getD j 0) 2)), .val (.int (own_nw n (fun j => [x0, x1, x2, x3].getD j 0) 3)), .val (.int (Int32.ofNat (own_ts n (fun j => [x0, x1, x2, x3].getD j 0)))), .val (.int (Int32.ofNat (own_te n (fun j => [x0, x1, x2, x3].getD j 0)))), .val (.int (Int32.ofNat (own_te n (fun j => [x0, x1, x2, x3].getD j 0) - own_ts n (fun j => [x0, x1, x2, x3].getD j 0))))] []))
  refine own_up (fun tx kx => XS.aload X0.here hx rfl (hb hby at_364) rfl rfl kx) ?_
  show OwnOk p e below _ (T.setTop (mkF m 366 #[.val (.int len), .val (.int p0), .val (.int p1), .val (.int p2), .val (.int p3), .val (.int (Int32.ofNat n)), .val (.ref cA), .val (.ref aA), .val (.ref r), .val (.int (own_nw n (fun j => [x0, x1, x2, x3].getD j 0) 0)), .val (.int (own_nw n (fun j => [x0, x1, x2, x3].getD j 0) 1)), .val (.int (own_nw n (fun j => [x0, x1, x2, x3].getD j 0) 2)), .val (.int (own_nw n (fun j => [x0, x1, x2, x3].getD j 0) 3)), .val (.int (Int32.ofNat (own_ts n (fun j => [x0, x1, x2, x3].getD j 0)))), .val (.int (Int32.ofNat (own_te n (fun j => [x0, x1, x2, x3].getD j 0)))), .val (.int (Int32.ofNat (own_te n (fun j => [x0, x1, x2, x3].getD j 0) - own_ts n (fun j => [x0, x1, x2, x3].getD j 0))))] [(.ref r)]))
  refine own_callV X0 hx hZ (y := (⟨"java/lang/String", "length", "()I"⟩ : MethodName)) (z := (⟨"java/lang/String", "length", "()I"⟩ : MethodName)) hown (wd_56 hw) (wd_32 hw) (notFace_of_selects (args := #[]) (mvT hZ (wd_34 hw))) (wd_34 hw) (wd_33 hw) (wd_8 hw) (wd_35 hw) (by decide) (j_length l Z a0 hw r u ku (own_te n (fun j => [x0, x1, x2, x3].getD j 0) - own_ts n (fun j => [x0, x1, x2, x3].getD j 0)) gg cz h0 n0 OL SC hcz E_r F_value_r F_coder_r V_u) e0 (argsL := []) (rest := []) E_r (by rw [hml]; rfl) (lenOf pd_13 rfl) rfl rfl (W := 0) rfl (hb hby at_366) (by decide) (by decide) (by decide) (by decide) (fun T11 v11 L11 X11 hQ11 => ?_)
  obtain ⟨rfl, Nq11, hh11⟩ := hQ11
  have N11 := Fr.app N0 Nq11
  show OwnOk p e below _ (T11.setTop (mkF m 369 #[.val (.int len), .val (.int p0), .val (.int p1), .val (.int p2), .val (.int p3), .val (.int (Int32.ofNat n)), .val (.ref cA), .val (.ref aA), .val (.ref r), .val (.int (own_nw n (fun j => [x0, x1, x2, x3].getD j 0) 0)), .val (.int (own_nw n (fun j => [x0, x1, x2, x3].getD j 0) 1)), .val (.int (own_nw n (fun j => [x0, x1, x2, x3].getD j 0) 2)), .val (.int (own_nw n (fun j => [x0, x1, x2, x3].getD j 0) 3)), .val (.int (Int32.ofNat (own_ts n (fun j => [x0, x1, x2, x3].getD j 0)))), .val (.int (Int32.ofNat (own_te n (fun j => [x0, x1, x2, x3].getD j 0)))), .val (.int (Int32.ofNat (own_te n (fun j => [x0, x1, x2, x3].getD j 0) - own_ts n (fun j => [x0, x1, x2, x3].getD j 0))))] [(.int (Int32.ofNat (own_te n (fun j => [x0, x1, x2, x3].getD j 0) - own_ts n (fun j => [x0, x1, x2, x3].getD j 0))))]))
  refine own_up (fun tx kx => XS.iload X11.here hx rfl (hb hby at_369) rfl kx) ?_
  show OwnOk p e below _ (T11.setTop (mkF m 371 #[.val (.int len), .val (.int p0), .val (.int p1), .val (.int p2), .val (.int p3), .val (.int (Int32.ofNat n)), .val (.ref cA), .val (.ref aA), .val (.ref r), .val (.int (own_nw n (fun j => [x0, x1, x2, x3].getD j 0) 0)), .val (.int (own_nw n (fun j => [x0, x1, x2, x3].getD j 0) 1)), .val (.int (own_nw n (fun j => [x0, x1, x2, x3].getD j 0) 2)), .val (.int (own_nw n (fun j => [x0, x1, x2, x3].getD j 0) 3)), .val (.int (Int32.ofNat (own_ts n (fun j => [x0, x1, x2, x3].getD j 0)))), .val (.int (Int32.ofNat (own_te n (fun j => [x0, x1, x2, x3].getD j 0)))), .val (.int (Int32.ofNat (own_te n (fun j => [x0, x1, x2, x3].getD j 0) - own_ts n (fun j => [x0, x1, x2, x3].getD j 0))))] [(.int (Int32.ofNat (own_te n (fun j => [x0, x1, x2, x3].getD j 0) - own_ts n (fun j => [x0, x1, x2, x3].getD j 0)))), (.int (Int32.ofNat (own_te n (fun j => [x0, x1, x2, x3].getD j 0) - own_ts n (fun j => [x0, x1, x2, x3].getD j 0))))]))
  refine own_up (fun tx kx => XS.icmpYes X11.here hx rfl (pc0 := 371) (pc' := 376) rfl (hb hby at_371) rfl (teq rfl).1 (by decide) (by decide) kx) ?_
  show OwnOk p e below _ (T11.setTop (mkF m 376 #[.val (.int len), .val (.int p0), .val (.int p1), .val (.int p2), .val (.int p3), .val (.int (Int32.ofNat n)), .val (.ref cA), .val (.ref aA), .val (.ref r), .val (.int (own_nw n (fun j => [x0, x1, x2, x3].getD j 0) 0)), .val (.int (own_nw n (fun j => [x0, x1, x2, x3].getD j 0) 1)), .val (.int (own_nw n (fun j => [x0, x1, x2, x3].getD j 0) 2)), .val (.int (own_nw n (fun j => [x0, x1, x2, x3].getD j 0) 3)), .val (.int (Int32.ofNat (own_ts n (fun j => [x0, x1, x2, x3].getD j 0)))), .val (.int (Int32.ofNat (own_te n (fun j => [x0, x1, x2, x3].getD j 0)))), .val (.int (Int32.ofNat (own_te n (fun j => [x0, x1, x2, x3].getD j 0) - own_ts n (fun j => [x0, x1, x2, x3].getD j 0))))] []))
  refine own_up (fun tx kx => XS.aload X11.here hx rfl (hb hby at_376) rfl rfl kx) ?_
  show OwnOk p e below _ (T11.setTop (mkF m 378 #[.val (.int len), .val (.int p0), .val (.int p1), .val (.int p2), .val (.int p3), .val (.int (Int32.ofNat n)), .val (.ref cA), .val (.ref aA), .val (.ref r), .val (.int (own_nw n (fun j => [x0, x1, x2, x3].getD j 0) 0)), .val (.int (own_nw n (fun j => [x0, x1, x2, x3].getD j 0) 1)), .val (.int (own_nw n (fun j => [x0, x1, x2, x3].getD j 0) 2)), .val (.int (own_nw n (fun j => [x0, x1, x2, x3].getD j 0) 3)), .val (.int (Int32.ofNat (own_ts n (fun j => [x0, x1, x2, x3].getD j 0)))), .val (.int (Int32.ofNat (own_te n (fun j => [x0, x1, x2, x3].getD j 0)))), .val (.int (Int32.ofNat (own_te n (fun j => [x0, x1, x2, x3].getD j 0) - own_ts n (fun j => [x0, x1, x2, x3].getD j 0))))] [(.ref r)]))
  refine own_up (fun tx kx => XS.iconst X11.here hx rfl (hb hby at_378) kx) ?_
  show OwnOk p e below _ (T11.setTop (mkF m 379 #[.val (.int len), .val (.int p0), .val (.int p1), .val (.int p2), .val (.int p3), .val (.int (Int32.ofNat n)), .val (.ref cA), .val (.ref aA), .val (.ref r), .val (.int (own_nw n (fun j => [x0, x1, x2, x3].getD j 0) 0)), .val (.int (own_nw n (fun j => [x0, x1, x2, x3].getD j 0) 1)), .val (.int (own_nw n (fun j => [x0, x1, x2, x3].getD j 0) 2)), .val (.int (own_nw n (fun j => [x0, x1, x2, x3].getD j 0) 3)), .val (.int (Int32.ofNat (own_ts n (fun j => [x0, x1, x2, x3].getD j 0)))), .val (.int (Int32.ofNat (own_te n (fun j => [x0, x1, x2, x3].getD j 0)))), .val (.int (Int32.ofNat (own_te n (fun j => [x0, x1, x2, x3].getD j 0) - own_ts n (fun j => [x0, x1, x2, x3].getD j 0))))] [(.int (0 : Int32)), (.ref r)]))
  refine own_up (fun tx kx => XS.iload X11.here hx rfl (hb hby at_379) rfl kx) ?_
  show OwnOk p e below _ (T11.setTop (mkF m 381 #[.val (.int len), .val (.int p0), .val (.int p1), .val (.int p2), .val (.int p3), .val (.int (Int32.ofNat n)), .val (.ref cA), .val (.ref aA), .val (.ref r), .val (.int (own_nw n (fun j => [x0, x1, x2, x3].getD j 0) 0)), .val (.int (own_nw n (fun j => [x0, x1, x2, x3].getD j 0) 1)), .val (.int (own_nw n (fun j => [x0, x1, x2, x3].getD j 0) 2)), .val (.int (own_nw n (fun j => [x0, x1, x2, x3].getD j 0) 3)), .val (.int (Int32.ofNat (own_ts n (fun j => [x0, x1, x2, x3].getD j 0)))), .val (.int (Int32.ofNat (own_te n (fun j => [x0, x1, x2, x3].getD j 0)))), .val (.int (Int32.ofNat (own_te n (fun j => [x0, x1, x2, x3].getD j 0) - own_ts n (fun j => [x0, x1, x2, x3].getD j 0))))] [(.int (Int32.ofNat (own_te n (fun j => [x0, x1, x2, x3].getD j 0) - own_ts n (fun j => [x0, x1, x2, x3].getD j 0)))), (.int (0 : Int32)), (.ref r)]))
  refine own_up (fun tx kx => XS.aload X11.here hx rfl (hb hby at_381) rfl rfl kx) ?_
  show OwnOk p e below _ (T11.setTop (mkF m 383 #[.val (.int len), .val (.int p0), .val (.int p1), .val (.int p2), .val (.int p3), .val (.int (Int32.ofNat n)), .val (.ref cA), .val (.ref aA), .val (.ref r), .val (.int (own_nw n (fun j => [x0, x1, x2, x3].getD j 0) 0)), .val (.int (own_nw n (fun j => [x0, x1, x2, x3].getD j 0) 1)), .val (.int (own_nw n (fun j => [x0, x1, x2, x3].getD j 0) 2)), .val (.int (own_nw n (fun j => [x0, x1, x2, x3].getD j 0) 3)), .val (.int (Int32.ofNat (own_ts n (fun j => [x0, x1, x2, x3].getD j 0)))), .val (.int (Int32.ofNat (own_te n (fun j => [x0, x1, x2, x3].getD j 0)))), .val (.int (Int32.ofNat (own_te n (fun j => [x0, x1, x2, x3].getD j 0) - own_ts n (fun j => [x0, x1, x2, x3].getD j 0))))] [(.ref cA), (.int (Int32.ofNat (own_te n (fun j => [x0, x1, x2, x3].getD j 0) - own_ts n (fun j => [x0, x1, x2, x3].getD j 0)))), (.int (0 : Int32)), (.ref r)]))
  refine own_up (fun tx kx => XS.iload X11.here hx rfl (hb hby at_383) rfl kx) ?_
  show OwnOk p e below _ (T11.setTop (mkF m 385 #[.val (.int len), .val (.int p0), .val (.int p1), .val (.int p2), .val (.int p3), .val (.int (Int32.ofNat n)), .val (.ref cA), .val (.ref aA), .val (.ref r), .val (.int (own_nw n (fun j => [x0, x1, x2, x3].getD j 0) 0)), .val (.int (own_nw n (fun j => [x0, x1, x2, x3].getD j 0) 1)), .val (.int (own_nw n (fun j => [x0, x1, x2, x3].getD j 0) 2)), .val (.int (own_nw n (fun j => [x0, x1, x2, x3].getD j 0) 3)), .val (.int (Int32.ofNat (own_ts n (fun j => [x0, x1, x2, x3].getD j 0)))), .val (.int (Int32.ofNat (own_te n (fun j => [x0, x1, x2, x3].getD j 0)))), .val (.int (Int32.ofNat (own_te n (fun j => [x0, x1, x2, x3].getD j 0) - own_ts n (fun j => [x0, x1, x2, x3].getD j 0))))] [(.int (Int32.ofNat (own_ts n (fun j => [x0, x1, x2, x3].getD j 0)))), (.ref cA), (.int (Int32.ofNat (own_te n (fun j => [x0, x1, x2, x3].getD j 0) - own_ts n (fun j => [x0, x1, x2, x3].getD j 0)))), (.int (0 : Int32)), (.ref r)]))
  show OwnOk p e below _ (T11.setTop (mkF m 385 #[.val (.int len), .val (.int p0), .val (.int p1), .val (.int p2), .val (.int p3), .val (.int (Int32.ofNat n)), .val (.ref cA), .val (.ref aA), .val (.ref r), .val (.int (own_nw n (fun j => [x0, x1, x2, x3].getD j 0) 0)), .val (.int (own_nw n (fun j => [x0, x1, x2, x3].getD j 0) 1)), .val (.int (own_nw n (fun j => [x0, x1, x2, x3].getD j 0) 2)), .val (.int (own_nw n (fun j => [x0, x1, x2, x3].getD j 0) 3)), .val (.int (Int32.ofNat (own_ts n (fun j => [x0, x1, x2, x3].getD j 0)))), .val (.int (Int32.ofNat (own_te n (fun j => [x0, x1, x2, x3].getD j 0)))), .val (.int (Int32.ofNat (own_te n (fun j => [x0, x1, x2, x3].getD j 0) - own_ts n (fun j => [x0, x1, x2, x3].getD j 0))))] [(.int (Int32.ofNat (own_ts n (fun j => [x0, x1, x2, x3].getD j 0)))), (.ref cA), (.int (Int32.ofNat (own_te n (fun j => [x0, x1, x2, x3].getD j 0) - own_ts n (fun j => [x0, x1, x2, x3].getD j 0)))), (.int (Int32.ofNat 0)), (.ref r)]))
  refine own_callS X11 hx hZ (y := (⟨"com/example/strict_replay/strictreplay/rules/FieldValuesTrimPinLaw", "at", "(Ljava/lang/String;II[CI)Z"⟩ : MethodName)) hown (wd_57 hw) (wd_58 hw) (wd_4 hw) (wd_59 hw) (by decide) (m_at l Z a0 hw r u ku (own_te n (fun j => [x0, x1, x2, x3].getD j 0) - own_ts n (fun j => [x0, x1, x2, x3].getD j 0)) gg 0 (own_ts n (fun j => [x0, x1, x2, x3].getD j 0)) cA kc x0 x1 x2 x3 cz fm hfm h0 n0 OL SC hcz SF E_r F_value_r F_coder_r V_u V_c (by decide) (by omega) hg) hh11 (argsL := [(.ref r), (.int (Int32.ofNat 0)), (.int (Int32.ofNat (own_te n (fun j => [x0, x1, x2, x3].getD j 0) - own_ts n (fun j => [x0, x1, x2, x3].getD j 0)))), (.ref cA), (.int (Int32.ofNat (own_ts n (fun j => [x0, x1, x2, x3].getD j 0))))]) (rest := []) (by rw [hml]; rfl) (lenOf pd_19 rfl) rfl rfl (W := 0) rfl (hb hby at_385) (by decide) (by decide) (by decide) (by decide) (fun T12 v12 L12 X12 hQ12 => ?_)
  obtain ⟨rfl, Nq12, hh12⟩ := hQ12
  have N12 := Fr.app N11 Nq12
  show OwnOk p e below _ (T12.setTop (mkF m 388 #[.val (.int len), .val (.int p0), .val (.int p1), .val (.int p2), .val (.int p3), .val (.int (Int32.ofNat n)), .val (.ref cA), .val (.ref aA), .val (.ref r), .val (.int (own_nw n (fun j => [x0, x1, x2, x3].getD j 0) 0)), .val (.int (own_nw n (fun j => [x0, x1, x2, x3].getD j 0) 1)), .val (.int (own_nw n (fun j => [x0, x1, x2, x3].getD j 0) 2)), .val (.int (own_nw n (fun j => [x0, x1, x2, x3].getD j 0) 3)), .val (.int (Int32.ofNat (own_ts n (fun j => [x0, x1, x2, x3].getD j 0)))), .val (.int (Int32.ofNat (own_te n (fun j => [x0, x1, x2, x3].getD j 0)))), .val (.int (Int32.ofNat (own_te n (fun j => [x0, x1, x2, x3].getD j 0) - own_ts n (fun j => [x0, x1, x2, x3].getD j 0))))] [(.int (1 : Int32))]))
  refine own_up (fun tx kx => XS.ifNo X12.here hx rfl (hb hby at_388) rfl ((if0 _ _).trans (feq (by decide)).1) kx) ?_
  show OwnOk p e below _ (T12.setTop (mkF m 391 #[.val (.int len), .val (.int p0), .val (.int p1), .val (.int p2), .val (.int p3), .val (.int (Int32.ofNat n)), .val (.ref cA), .val (.ref aA), .val (.ref r), .val (.int (own_nw n (fun j => [x0, x1, x2, x3].getD j 0) 0)), .val (.int (own_nw n (fun j => [x0, x1, x2, x3].getD j 0) 1)), .val (.int (own_nw n (fun j => [x0, x1, x2, x3].getD j 0) 2)), .val (.int (own_nw n (fun j => [x0, x1, x2, x3].getD j 0) 3)), .val (.int (Int32.ofNat (own_ts n (fun j => [x0, x1, x2, x3].getD j 0)))), .val (.int (Int32.ofNat (own_te n (fun j => [x0, x1, x2, x3].getD j 0)))), .val (.int (Int32.ofNat (own_te n (fun j => [x0, x1, x2, x3].getD j 0) - own_ts n (fun j => [x0, x1, x2, x3].getD j 0))))] []))
  refine own_up (fun tx kx => XS.aload X12.here hx rfl (hb hby at_391) rfl rfl kx) ?_
  show OwnOk p e below _ (T12.setTop (mkF m 393 #[.val (.int len), .val (.int p0), .val (.int p1), .val (.int p2), .val (.int p3), .val (.int (Int32.ofNat n)), .val (.ref cA), .val (.ref aA), .val (.ref r), .val (.int (own_nw n (fun j => [x0, x1, x2, x3].getD j 0) 0)), .val (.int (own_nw n (fun j => [x0, x1, x2, x3].getD j 0) 1)), .val (.int (own_nw n (fun j => [x0, x1, x2, x3].getD j 0) 2)), .val (.int (own_nw n (fun j => [x0, x1, x2, x3].getD j 0) 3)), .val (.int (Int32.ofNat (own_ts n (fun j => [x0, x1, x2, x3].getD j 0)))), .val (.int (Int32.ofNat (own_te n (fun j => [x0, x1, x2, x3].getD j 0)))), .val (.int (Int32.ofNat (own_te n (fun j => [x0, x1, x2, x3].getD j 0) - own_ts n (fun j => [x0, x1, x2, x3].getD j 0))))] [(.ref r)]))
  refine own_up (fun tx kx => XS.iconst X12.here hx rfl (hb hby at_393) kx) ?_
  show OwnOk p e below _ (T12.setTop (mkF m 394 #[.val (.int len), .val (.int p0), .val (.int p1), .val (.int p2), .val (.int p3), .val (.int (Int32.ofNat n)), .val (.ref cA), .val (.ref aA), .val (.ref r), .val (.int (own_nw n (fun j => [x0, x1, x2, x3].getD j 0) 0)), .val (.int (own_nw n (fun j => [x0, x1, x2, x3].getD j 0) 1)), .val (.int (own_nw n (fun j => [x0, x1, x2, x3].getD j 0) 2)), .val (.int (own_nw n (fun j => [x0, x1, x2, x3].getD j 0) 3)), .val (.int (Int32.ofNat (own_ts n (fun j => [x0, x1, x2, x3].getD j 0)))), .val (.int (Int32.ofNat (own_te n (fun j => [x0, x1, x2, x3].getD j 0)))), .val (.int (Int32.ofNat (own_te n (fun j => [x0, x1, x2, x3].getD j 0) - own_ts n (fun j => [x0, x1, x2, x3].getD j 0))))] [(.int (1 : Int32)), (.ref r)]))
  refine own_up (fun tx kx => XS.iload X12.here hx rfl (hb hby at_394) rfl kx) ?_
  show OwnOk p e below _ (T12.setTop (mkF m 396 #[.val (.int len), .val (.int p0), .val (.int p1), .val (.int p2), .val (.int p3), .val (.int (Int32.ofNat n)), .val (.ref cA), .val (.ref aA), .val (.ref r), .val (.int (own_nw n (fun j => [x0, x1, x2, x3].getD j 0) 0)), .val (.int (own_nw n (fun j => [x0, x1, x2, x3].getD j 0) 1)), .val (.int (own_nw n (fun j => [x0, x1, x2, x3].getD j 0) 2)), .val (.int (own_nw n (fun j => [x0, x1, x2, x3].getD j 0) 3)), .val (.int (Int32.ofNat (own_ts n (fun j => [x0, x1, x2, x3].getD j 0)))), .val (.int (Int32.ofNat (own_te n (fun j => [x0, x1, x2, x3].getD j 0)))), .val (.int (Int32.ofNat (own_te n (fun j => [x0, x1, x2, x3].getD j 0) - own_ts n (fun j => [x0, x1, x2, x3].getD j 0))))] [(.int (Int32.ofNat (own_te n (fun j => [x0, x1, x2, x3].getD j 0) - own_ts n (fun j => [x0, x1, x2, x3].getD j 0)))), (.int (1 : Int32)), (.ref r)]))
  refine own_up (fun tx kx => XS.aload X12.here hx rfl (hb hby at_396) rfl rfl kx) ?_
  show OwnOk p e below _ (T12.setTop (mkF m 398 #[.val (.int len), .val (.int p0), .val (.int p1), .val (.int p2), .val (.int p3), .val (.int (Int32.ofNat n)), .val (.ref cA), .val (.ref aA), .val (.ref r), .val (.int (own_nw n (fun j => [x0, x1, x2, x3].getD j 0) 0)), .val (.int (own_nw n (fun j => [x0, x1, x2, x3].getD j 0) 1)), .val (.int (own_nw n (fun j => [x0, x1, x2, x3].getD j 0) 2)), .val (.int (own_nw n (fun j => [x0, x1, x2, x3].getD j 0) 3)), .val (.int (Int32.ofNat (own_ts n (fun j => [x0, x1, x2, x3].getD j 0)))), .val (.int (Int32.ofNat (own_te n (fun j => [x0, x1, x2, x3].getD j 0)))), .val (.int (Int32.ofNat (own_te n (fun j => [x0, x1, x2, x3].getD j 0) - own_ts n (fun j => [x0, x1, x2, x3].getD j 0))))] [(.ref cA), (.int (Int32.ofNat (own_te n (fun j => [x0, x1, x2, x3].getD j 0) - own_ts n (fun j => [x0, x1, x2, x3].getD j 0)))), (.int (1 : Int32)), (.ref r)]))
  refine own_up (fun tx kx => XS.iload X12.here hx rfl (hb hby at_398) rfl kx) ?_
  show OwnOk p e below _ (T12.setTop (mkF m 400 #[.val (.int len), .val (.int p0), .val (.int p1), .val (.int p2), .val (.int p3), .val (.int (Int32.ofNat n)), .val (.ref cA), .val (.ref aA), .val (.ref r), .val (.int (own_nw n (fun j => [x0, x1, x2, x3].getD j 0) 0)), .val (.int (own_nw n (fun j => [x0, x1, x2, x3].getD j 0) 1)), .val (.int (own_nw n (fun j => [x0, x1, x2, x3].getD j 0) 2)), .val (.int (own_nw n (fun j => [x0, x1, x2, x3].getD j 0) 3)), .val (.int (Int32.ofNat (own_ts n (fun j => [x0, x1, x2, x3].getD j 0)))), .val (.int (Int32.ofNat (own_te n (fun j => [x0, x1, x2, x3].getD j 0)))), .val (.int (Int32.ofNat (own_te n (fun j => [x0, x1, x2, x3].getD j 0) - own_ts n (fun j => [x0, x1, x2, x3].getD j 0))))] [(.int (Int32.ofNat (own_ts n (fun j => [x0, x1, x2, x3].getD j 0)))), (.ref cA), (.int (Int32.ofNat (own_te n (fun j => [x0, x1, x2, x3].getD j 0) - own_ts n (fun j => [x0, x1, x2, x3].getD j 0)))), (.int (1 : Int32)), (.ref r)]))
  show OwnOk p e below _ (T12.setTop (mkF m 400 #[.val (.int len), .val (.int p0), .val (.int p1), .val (.int p2), .val (.int p3), .val (.int (Int32.ofNat n)), .val (.ref cA), .val (.ref aA), .val (.ref r), .val (.int (own_nw n (fun j => [x0, x1, x2, x3].getD j 0) 0)), .val (.int (own_nw n (fun j => [x0, x1, x2, x3].getD j 0) 1)), .val (.int (own_nw n (fun j => [x0, x1, x2, x3].getD j 0) 2)), .val (.int (own_nw n (fun j => [x0, x1, x2, x3].getD j 0) 3)), .val (.int (Int32.ofNat (own_ts n (fun j => [x0, x1, x2, x3].getD j 0)))), .val (.int (Int32.ofNat (own_te n (fun j => [x0, x1, x2, x3].getD j 0)))), .val (.int (Int32.ofNat (own_te n (fun j => [x0, x1, x2, x3].getD j 0) - own_ts n (fun j => [x0, x1, x2, x3].getD j 0))))] [(.int (Int32.ofNat (own_ts n (fun j => [x0, x1, x2, x3].getD j 0)))), (.ref cA), (.int (Int32.ofNat (own_te n (fun j => [x0, x1, x2, x3].getD j 0) - own_ts n (fun j => [x0, x1, x2, x3].getD j 0)))), (.int (Int32.ofNat 1)), (.ref r)]))
  refine own_callS X12 hx hZ (y := (⟨"com/example/strict_replay/strictreplay/rules/FieldValuesTrimPinLaw", "at", "(Ljava/lang/String;II[CI)Z"⟩ : MethodName)) hown (wd_57 hw) (wd_58 hw) (wd_4 hw) (wd_59 hw) (by decide) (m_at l Z a0 hw r u ku (own_te n (fun j => [x0, x1, x2, x3].getD j 0) - own_ts n (fun j => [x0, x1, x2, x3].getD j 0)) gg 1 (own_ts n (fun j => [x0, x1, x2, x3].getD j 0)) cA kc x0 x1 x2 x3 cz fm hfm h0 n0 OL SC hcz SF E_r F_value_r F_coder_r V_u V_c (by decide) (by omega) hg) hh12 (argsL := [(.ref r), (.int (Int32.ofNat 1)), (.int (Int32.ofNat (own_te n (fun j => [x0, x1, x2, x3].getD j 0) - own_ts n (fun j => [x0, x1, x2, x3].getD j 0)))), (.ref cA), (.int (Int32.ofNat (own_ts n (fun j => [x0, x1, x2, x3].getD j 0))))]) (rest := []) (by rw [hml]; rfl) (lenOf pd_19 rfl) rfl rfl (W := 0) rfl (hb hby at_400) (by decide) (by decide) (by decide) (by decide) (fun T13 v13 L13 X13 hQ13 => ?_)
  obtain ⟨rfl, Nq13, hh13⟩ := hQ13
  have N13 := Fr.app N12 Nq13
  show OwnOk p e below _ (T13.setTop (mkF m 403 #[.val (.int len), .val (.int p0), .val (.int p1), .val (.int p2), .val (.int p3), .val (.int (Int32.ofNat n)), .val (.ref cA), .val (.ref aA), .val (.ref r), .val (.int (own_nw n (fun j => [x0, x1, x2, x3].getD j 0) 0)), .val (.int (own_nw n (fun j => [x0, x1, x2, x3].getD j 0) 1)), .val (.int (own_nw n (fun j => [x0, x1, x2, x3].getD j 0) 2)), .val (.int (own_nw n (fun j => [x0, x1, x2, x3].getD j 0) 3)), .val (.int (Int32.ofNat (own_ts n (fun j => [x0, x1, x2, x3].getD j 0)))), .val (.int (Int32.ofNat (own_te n (fun j => [x0, x1, x2, x3].getD j 0)))), .val (.int (Int32.ofNat (own_te n (fun j => [x0, x1, x2, x3].getD j 0) - own_ts n (fun j => [x0, x1, x2, x3].getD j 0))))] [(.int (1 : Int32))]))
  refine own_up (fun tx kx => XS.ifNo X13.here hx rfl (hb hby at_403) rfl ((if0 _ _).trans (feq (by decide)).1) kx) ?_
  show OwnOk p e below _ (T13.setTop (mkF m 406 #[.val (.int len), .val (.int p0), .val (.int p1), .val (.int p2), .val (.int p3), .val (.int (Int32.ofNat n)), .val (.ref cA), .val (.ref aA), .val (.ref r), .val (.int (own_nw n (fun j => [x0, x1, x2, x3].getD j 0) 0)), .val (.int (own_nw n (fun j => [x0, x1, x2, x3].getD j 0) 1)), .val (.int (own_nw n (fun j => [x0, x1, x2, x3].getD j 0) 2)), .val (.int (own_nw n (fun j => [x0, x1, x2, x3].getD j 0) 3)), .val (.int (Int32.ofNat (own_ts n (fun j => [x0, x1, x2, x3].getD j 0)))), .val (.int (Int32.ofNat (own_te n (fun j => [x0, x1, x2, x3].getD j 0)))), .val (.int (Int32.ofNat (own_te n (fun j => [x0, x1, x2, x3].getD j 0) - own_ts n (fun j => [x0, x1, x2, x3].getD j 0))))] []))
  refine own_up (fun tx kx => XS.aload X13.here hx rfl (hb hby at_406) rfl rfl kx) ?_
  show OwnOk p e below _ (T13.setTop (mkF m 408 #[.val (.int len), .val (.int p0), .val (.int p1), .val (.int p2), .val (.int p3), .val (.int (Int32.ofNat n)), .val (.ref cA), .val (.ref aA), .val (.ref r), .val (.int (own_nw n (fun j => [x0, x1, x2, x3].getD j 0) 0)), .val (.int (own_nw n (fun j => [x0, x1, x2, x3].getD j 0) 1)), .val (.int (own_nw n (fun j => [x0, x1, x2, x3].getD j 0) 2)), .val (.int (own_nw n (fun j => [x0, x1, x2, x3].getD j 0) 3)), .val (.int (Int32.ofNat (own_ts n (fun j => [x0, x1, x2, x3].getD j 0)))), .val (.int (Int32.ofNat (own_te n (fun j => [x0, x1, x2, x3].getD j 0)))), .val (.int (Int32.ofNat (own_te n (fun j => [x0, x1, x2, x3].getD j 0) - own_ts n (fun j => [x0, x1, x2, x3].getD j 0))))] [(.ref r)]))
  refine own_up (fun tx kx => XS.iconst X13.here hx rfl (hb hby at_408) kx) ?_
  show OwnOk p e below _ (T13.setTop (mkF m 409 #[.val (.int len), .val (.int p0), .val (.int p1), .val (.int p2), .val (.int p3), .val (.int (Int32.ofNat n)), .val (.ref cA), .val (.ref aA), .val (.ref r), .val (.int (own_nw n (fun j => [x0, x1, x2, x3].getD j 0) 0)), .val (.int (own_nw n (fun j => [x0, x1, x2, x3].getD j 0) 1)), .val (.int (own_nw n (fun j => [x0, x1, x2, x3].getD j 0) 2)), .val (.int (own_nw n (fun j => [x0, x1, x2, x3].getD j 0) 3)), .val (.int (Int32.ofNat (own_ts n (fun j => [x0, x1, x2, x3].getD j 0)))), .val (.int (Int32.ofNat (own_te n (fun j => [x0, x1, x2, x3].getD j 0)))), .val (.int (Int32.ofNat (own_te n (fun j => [x0, x1, x2, x3].getD j 0) - own_ts n (fun j => [x0, x1, x2, x3].getD j 0))))] [(.int (2 : Int32)), (.ref r)]))
  refine own_up (fun tx kx => XS.iload X13.here hx rfl (hb hby at_409) rfl kx) ?_
  show OwnOk p e below _ (T13.setTop (mkF m 411 #[.val (.int len), .val (.int p0), .val (.int p1), .val (.int p2), .val (.int p3), .val (.int (Int32.ofNat n)), .val (.ref cA), .val (.ref aA), .val (.ref r), .val (.int (own_nw n (fun j => [x0, x1, x2, x3].getD j 0) 0)), .val (.int (own_nw n (fun j => [x0, x1, x2, x3].getD j 0) 1)), .val (.int (own_nw n (fun j => [x0, x1, x2, x3].getD j 0) 2)), .val (.int (own_nw n (fun j => [x0, x1, x2, x3].getD j 0) 3)), .val (.int (Int32.ofNat (own_ts n (fun j => [x0, x1, x2, x3].getD j 0)))), .val (.int (Int32.ofNat (own_te n (fun j => [x0, x1, x2, x3].getD j 0)))), .val (.int (Int32.ofNat (own_te n (fun j => [x0, x1, x2, x3].getD j 0) - own_ts n (fun j => [x0, x1, x2, x3].getD j 0))))] [(.int (Int32.ofNat (own_te n (fun j => [x0, x1, x2, x3].getD j 0) - own_ts n (fun j => [x0, x1, x2, x3].getD j 0)))), (.int (2 : Int32)), (.ref r)]))
  refine own_up (fun tx kx => XS.aload X13.here hx rfl (hb hby at_411) rfl rfl kx) ?_
  show OwnOk p e below _ (T13.setTop (mkF m 413 #[.val (.int len), .val (.int p0), .val (.int p1), .val (.int p2), .val (.int p3), .val (.int (Int32.ofNat n)), .val (.ref cA), .val (.ref aA), .val (.ref r), .val (.int (own_nw n (fun j => [x0, x1, x2, x3].getD j 0) 0)), .val (.int (own_nw n (fun j => [x0, x1, x2, x3].getD j 0) 1)), .val (.int (own_nw n (fun j => [x0, x1, x2, x3].getD j 0) 2)), .val (.int (own_nw n (fun j => [x0, x1, x2, x3].getD j 0) 3)), .val (.int (Int32.ofNat (own_ts n (fun j => [x0, x1, x2, x3].getD j 0)))), .val (.int (Int32.ofNat (own_te n (fun j => [x0, x1, x2, x3].getD j 0)))), .val (.int (Int32.ofNat (own_te n (fun j => [x0, x1, x2, x3].getD j 0) - own_ts n (fun j => [x0, x1, x2, x3].getD j 0))))] [(.ref cA), (.int (Int32.ofNat (own_te n (fun j => [x0, x1, x2, x3].getD j 0) - own_ts n (fun j => [x0, x1, x2, x3].getD j 0)))), (.int (2 : Int32)), (.ref r)]))
  refine own_up (fun tx kx => XS.iload X13.here hx rfl (hb hby at_413) rfl kx) ?_
  show OwnOk p e below _ (T13.setTop (mkF m 415 #[.val (.int len), .val (.int p0), .val (.int p1), .val (.int p2), .val (.int p3), .val (.int (Int32.ofNat n)), .val (.ref cA), .val (.ref aA), .val (.ref r), .val (.int (own_nw n (fun j => [x0, x1, x2, x3].getD j 0) 0)), .val (.int (own_nw n (fun j => [x0, x1, x2, x3].getD j 0) 1)), .val (.int (own_nw n (fun j => [x0, x1, x2, x3].getD j 0) 2)), .val (.int (own_nw n (fun j => [x0, x1, x2, x3].getD j 0) 3)), .val (.int (Int32.ofNat (own_ts n (fun j => [x0, x1, x2, x3].getD j 0)))), .val (.int (Int32.ofNat (own_te n (fun j => [x0, x1, x2, x3].getD j 0)))), .val (.int (Int32.ofNat (own_te n (fun j => [x0, x1, x2, x3].getD j 0) - own_ts n (fun j => [x0, x1, x2, x3].getD j 0))))] [(.int (Int32.ofNat (own_ts n (fun j => [x0, x1, x2, x3].getD j 0)))), (.ref cA), (.int (Int32.ofNat (own_te n (fun j => [x0, x1, x2, x3].getD j 0) - own_ts n (fun j => [x0, x1, x2, x3].getD j 0)))), (.int (2 : Int32)), (.ref r)]))
  show OwnOk p e below _ (T13.setTop (mkF m 415 #[.val (.int len), .val (.int p0), .val (.int p1), .val (.int p2), .val (.int p3), .val (.int (Int32.ofNat n)), .val (.ref cA), .val (.ref aA), .val (.ref r), .val (.int (own_nw n (fun j => [x0, x1, x2, x3].getD j 0) 0)), .val (.int (own_nw n (fun j => [x0, x1, x2, x3].getD j 0) 1)), .val (.int (own_nw n (fun j => [x0, x1, x2, x3].getD j 0) 2)), .val (.int (own_nw n (fun j => [x0, x1, x2, x3].getD j 0) 3)), .val (.int (Int32.ofNat (own_ts n (fun j => [x0, x1, x2, x3].getD j 0)))), .val (.int (Int32.ofNat (own_te n (fun j => [x0, x1, x2, x3].getD j 0)))), .val (.int (Int32.ofNat (own_te n (fun j => [x0, x1, x2, x3].getD j 0) - own_ts n (fun j => [x0, x1, x2, x3].getD j 0))))] [(.int (Int32.ofNat (own_ts n (fun j => [x0, x1, x2, x3].getD j 0)))), (.ref cA), (.int (Int32.ofNat (own_te n (fun j => [x0, x1, x2, x3].getD j 0) - own_ts n (fun j => [x0, x1, x2, x3].getD j 0)))), (.int (Int32.ofNat 2)), (.ref r)]))
  refine own_callS X13 hx hZ (y := (⟨"com/example/strict_replay/strictreplay/rules/FieldValuesTrimPinLaw", "at", "(Ljava/lang/String;II[CI)Z"⟩ : MethodName)) hown (wd_57 hw) (wd_58 hw) (wd_4 hw) (wd_59 hw) (by decide) (m_at l Z a0 hw r u ku (own_te n (fun j => [x0, x1, x2, x3].getD j 0) - own_ts n (fun j => [x0, x1, x2, x3].getD j 0)) gg 2 (own_ts n (fun j => [x0, x1, x2, x3].getD j 0)) cA kc x0 x1 x2 x3 cz fm hfm h0 n0 OL SC hcz SF E_r F_value_r F_coder_r V_u V_c (by decide) (by omega) hg) hh13 (argsL := [(.ref r), (.int (Int32.ofNat 2)), (.int (Int32.ofNat (own_te n (fun j => [x0, x1, x2, x3].getD j 0) - own_ts n (fun j => [x0, x1, x2, x3].getD j 0)))), (.ref cA), (.int (Int32.ofNat (own_ts n (fun j => [x0, x1, x2, x3].getD j 0))))]) (rest := []) (by rw [hml]; rfl) (lenOf pd_19 rfl) rfl rfl (W := 0) rfl (hb hby at_415) (by decide) (by decide) (by decide) (by decide) (fun T14 v14 L14 X14 hQ14 => ?_)
  obtain ⟨rfl, Nq14, hh14⟩ := hQ14
  have N14 := Fr.app N13 Nq14
  show OwnOk p e below _ (T14.setTop (mkF m 418 #[.val (.int len), .val (.int p0), .val (.int p1), .val (.int p2), .val (.int p3), .val (.int (Int32.ofNat n)), .val (.ref cA), .val (.ref aA), .val (.ref r), .val (.int (own_nw n (fun j => [x0, x1, x2, x3].getD j 0) 0)), .val (.int (own_nw n (fun j => [x0, x1, x2, x3].getD j 0) 1)), .val (.int (own_nw n (fun j => [x0, x1, x2, x3].getD j 0) 2)), .val (.int (own_nw n (fun j => [x0, x1, x2, x3].getD j 0) 3)), .val (.int (Int32.ofNat (own_ts n (fun j => [x0, x1, x2, x3].getD j 0)))), .val (.int (Int32.ofNat (own_te n (fun j => [x0, x1, x2, x3].getD j 0)))), .val (.int (Int32.ofNat (own_te n (fun j => [x0, x1, x2, x3].getD j 0) - own_ts n (fun j => [x0, x1, x2, x3].getD j 0))))] [(.int (1 : Int32))]))
  refine own_up (fun tx kx => XS.ifNo X14.here hx rfl (hb hby at_418) rfl ((if0 _ _).trans (feq (by decide)).1) kx) ?_
  show OwnOk p e below _ (T14.setTop (mkF m 421 #[.val (.int len), .val (.int p0), .val (.int p1), .val (.int p2), .val (.int p3), .val (.int (Int32.ofNat n)), .val (.ref cA), .val (.ref aA), .val (.ref r), .val (.int (own_nw n (fun j => [x0, x1, x2, x3].getD j 0) 0)), .val (.int (own_nw n (fun j => [x0, x1, x2, x3].getD j 0) 1)), .val (.int (own_nw n (fun j => [x0, x1, x2, x3].getD j 0) 2)), .val (.int (own_nw n (fun j => [x0, x1, x2, x3].getD j 0) 3)), .val (.int (Int32.ofNat (own_ts n (fun j => [x0, x1, x2, x3].getD j 0)))), .val (.int (Int32.ofNat (own_te n (fun j => [x0, x1, x2, x3].getD j 0)))), .val (.int (Int32.ofNat (own_te n (fun j => [x0, x1, x2, x3].getD j 0) - own_ts n (fun j => [x0, x1, x2, x3].getD j 0))))] []))
  refine own_up (fun tx kx => XS.aload X14.here hx rfl (hb hby at_421) rfl rfl kx) ?_
  show OwnOk p e below _ (T14.setTop (mkF m 423 #[.val (.int len), .val (.int p0), .val (.int p1), .val (.int p2), .val (.int p3), .val (.int (Int32.ofNat n)), .val (.ref cA), .val (.ref aA), .val (.ref r), .val (.int (own_nw n (fun j => [x0, x1, x2, x3].getD j 0) 0)), .val (.int (own_nw n (fun j => [x0, x1, x2, x3].getD j 0) 1)), .val (.int (own_nw n (fun j => [x0, x1, x2, x3].getD j 0) 2)), .val (.int (own_nw n (fun j => [x0, x1, x2, x3].getD j 0) 3)), .val (.int (Int32.ofNat (own_ts n (fun j => [x0, x1, x2, x3].getD j 0)))), .val (.int (Int32.ofNat (own_te n (fun j => [x0, x1, x2, x3].getD j 0)))), .val (.int (Int32.ofNat (own_te n (fun j => [x0, x1, x2, x3].getD j 0) - own_ts n (fun j => [x0, x1, x2, x3].getD j 0))))] [(.ref r)]))
  refine own_up (fun tx kx => XS.iconst X14.here hx rfl (hb hby at_423) kx) ?_
  show OwnOk p e below _ (T14.setTop (mkF m 424 #[.val (.int len), .val (.int p0), .val (.int p1), .val (.int p2), .val (.int p3), .val (.int (Int32.ofNat n)), .val (.ref cA), .val (.ref aA), .val (.ref r), .val (.int (own_nw n (fun j => [x0, x1, x2, x3].getD j 0) 0)), .val (.int (own_nw n (fun j => [x0, x1, x2, x3].getD j 0) 1)), .val (.int (own_nw n (fun j => [x0, x1, x2, x3].getD j 0) 2)), .val (.int (own_nw n (fun j => [x0, x1, x2, x3].getD j 0) 3)), .val (.int (Int32.ofNat (own_ts n (fun j => [x0, x1, x2, x3].getD j 0)))), .val (.int (Int32.ofNat (own_te n (fun j => [x0, x1, x2, x3].getD j 0)))), .val (.int (Int32.ofNat (own_te n (fun j => [x0, x1, x2, x3].getD j 0) - own_ts n (fun j => [x0, x1, x2, x3].getD j 0))))] [(.int (3 : Int32)), (.ref r)]))
  refine own_up (fun tx kx => XS.iload X14.here hx rfl (hb hby at_424) rfl kx) ?_
  show OwnOk p e below _ (T14.setTop (mkF m 426 #[.val (.int len), .val (.int p0), .val (.int p1), .val (.int p2), .val (.int p3), .val (.int (Int32.ofNat n)), .val (.ref cA), .val (.ref aA), .val (.ref r), .val (.int (own_nw n (fun j => [x0, x1, x2, x3].getD j 0) 0)), .val (.int (own_nw n (fun j => [x0, x1, x2, x3].getD j 0) 1)), .val (.int (own_nw n (fun j => [x0, x1, x2, x3].getD j 0) 2)), .val (.int (own_nw n (fun j => [x0, x1, x2, x3].getD j 0) 3)), .val (.int (Int32.ofNat (own_ts n (fun j => [x0, x1, x2, x3].getD j 0)))), .val (.int (Int32.ofNat (own_te n (fun j => [x0, x1, x2, x3].getD j 0)))), .val (.int (Int32.ofNat (own_te n (fun j => [x0, x1, x2, x3].getD j 0) - own_ts n (fun j => [x0, x1, x2, x3].getD j 0))))] [(.int (Int32.ofNat (own_te n (fun j => [x0, x1, x2, x3].getD j 0) - own_ts n (fun j => [x0, x1, x2, x3].getD j 0)))), (.int (3 : Int32)), (.ref r)]))
  refine own_up (fun tx kx => XS.aload X14.here hx rfl (hb hby at_426) rfl rfl kx) ?_
  show OwnOk p e below _ (T14.setTop (mkF m 428 #[.val (.int len), .val (.int p0), .val (.int p1), .val (.int p2), .val (.int p3), .val (.int (Int32.ofNat n)), .val (.ref cA), .val (.ref aA), .val (.ref r), .val (.int (own_nw n (fun j => [x0, x1, x2, x3].getD j 0) 0)), .val (.int (own_nw n (fun j => [x0, x1, x2, x3].getD j 0) 1)), .val (.int (own_nw n (fun j => [x0, x1, x2, x3].getD j 0) 2)), .val (.int (own_nw n (fun j => [x0, x1, x2, x3].getD j 0) 3)), .val (.int (Int32.ofNat (own_ts n (fun j => [x0, x1, x2, x3].getD j 0)))), .val (.int (Int32.ofNat (own_te n (fun j => [x0, x1, x2, x3].getD j 0)))), .val (.int (Int32.ofNat (own_te n (fun j => [x0, x1, x2, x3].getD j 0) - own_ts n (fun j => [x0, x1, x2, x3].getD j 0))))] [(.ref cA), (.int (Int32.ofNat (own_te n (fun j => [x0, x1, x2, x3].getD j 0) - own_ts n (fun j => [x0, x1, x2, x3].getD j 0)))), (.int (3 : Int32)), (.ref r)]))
  refine own_up (fun tx kx => XS.iload X14.here hx rfl (hb hby at_428) rfl kx) ?_
  show OwnOk p e below _ (T14.setTop (mkF m 430 #[.val (.int len), .val (.int p0), .val (.int p1), .val (.int p2), .val (.int p3), .val (.int (Int32.ofNat n)), .val (.ref cA), .val (.ref aA), .val (.ref r), .val (.int (own_nw n (fun j => [x0, x1, x2, x3].getD j 0) 0)), .val (.int (own_nw n (fun j => [x0, x1, x2, x3].getD j 0) 1)), .val (.int (own_nw n (fun j => [x0, x1, x2, x3].getD j 0) 2)), .val (.int (own_nw n (fun j => [x0, x1, x2, x3].getD j 0) 3)), .val (.int (Int32.ofNat (own_ts n (fun j => [x0, x1, x2, x3].getD j 0)))), .val (.int (Int32.ofNat (own_te n (fun j => [x0, x1, x2, x3].getD j 0)))), .val (.int (Int32.ofNat (own_te n (fun j => [x0, x1, x2, x3].getD j 0) - own_ts n (fun j => [x0, x1, x2, x3].getD j 0))))] [(.int (Int32.ofNat (own_ts n (fun j => [x0, x1, x2, x3].getD j 0)))), (.ref cA), (.int (Int32.ofNat (own_te n (fun j => [x0, x1, x2, x3].getD j 0) - own_ts n (fun j => [x0, x1, x2, x3].getD j 0)))), (.int (3 : Int32)), (.ref r)]))
  show OwnOk p e below _ (T14.setTop (mkF m 430 #[.val (.int len), .val (.int p0), .val (.int p1), .val (.int p2), .val (.int p3), .val (.int (Int32.ofNat n)), .val (.ref cA), .val (.ref aA), .val (.ref r), .val (.int (own_nw n (fun j => [x0, x1, x2, x3].getD j 0) 0)), .val (.int (own_nw n (fun j => [x0, x1, x2, x3].getD j 0) 1)), .val (.int (own_nw n (fun j => [x0, x1, x2, x3].getD j 0) 2)), .val (.int (own_nw n (fun j => [x0, x1, x2, x3].getD j 0) 3)), .val (.int (Int32.ofNat (own_ts n (fun j => [x0, x1, x2, x3].getD j 0)))), .val (.int (Int32.ofNat (own_te n (fun j => [x0, x1, x2, x3].getD j 0)))), .val (.int (Int32.ofNat (own_te n (fun j => [x0, x1, x2, x3].getD j 0) - own_ts n (fun j => [x0, x1, x2, x3].getD j 0))))] [(.int (Int32.ofNat (own_ts n (fun j => [x0, x1, x2, x3].getD j 0)))), (.ref cA), (.int (Int32.ofNat (own_te n (fun j => [x0, x1, x2, x3].getD j 0) - own_ts n (fun j => [x0, x1, x2, x3].getD j 0)))), (.int (Int32.ofNat 3)), (.ref r)]))
  refine own_callS X14 hx hZ (y := (⟨"com/example/strict_replay/strictreplay/rules/FieldValuesTrimPinLaw", "at", "(Ljava/lang/String;II[CI)Z"⟩ : MethodName)) hown (wd_57 hw) (wd_58 hw) (wd_4 hw) (wd_59 hw) (by decide) (m_at l Z a0 hw r u ku (own_te n (fun j => [x0, x1, x2, x3].getD j 0) - own_ts n (fun j => [x0, x1, x2, x3].getD j 0)) gg 3 (own_ts n (fun j => [x0, x1, x2, x3].getD j 0)) cA kc x0 x1 x2 x3 cz fm hfm h0 n0 OL SC hcz SF E_r F_value_r F_coder_r V_u V_c (by decide) (by omega) hg) hh14 (argsL := [(.ref r), (.int (Int32.ofNat 3)), (.int (Int32.ofNat (own_te n (fun j => [x0, x1, x2, x3].getD j 0) - own_ts n (fun j => [x0, x1, x2, x3].getD j 0)))), (.ref cA), (.int (Int32.ofNat (own_ts n (fun j => [x0, x1, x2, x3].getD j 0))))]) (rest := []) (by rw [hml]; rfl) (lenOf pd_19 rfl) rfl rfl (W := 0) rfl (hb hby at_430) (by decide) (by decide) (by decide) (by decide) (fun T15 v15 L15 X15 hQ15 => ?_)
  obtain ⟨rfl, Nq15, hh15⟩ := hQ15
  have N15 := Fr.app N14 Nq15
  show OwnOk p e below _ (T15.setTop (mkF m 433 #[.val (.int len), .val (.int p0), .val (.int p1), .val (.int p2), .val (.int p3), .val (.int (Int32.ofNat n)), .val (.ref cA), .val (.ref aA), .val (.ref r), .val (.int (own_nw n (fun j => [x0, x1, x2, x3].getD j 0) 0)), .val (.int (own_nw n (fun j => [x0, x1, x2, x3].getD j 0) 1)), .val (.int (own_nw n (fun j => [x0, x1, x2, x3].getD j 0) 2)), .val (.int (own_nw n (fun j => [x0, x1, x2, x3].getD j 0) 3)), .val (.int (Int32.ofNat (own_ts n (fun j => [x0, x1, x2, x3].getD j 0)))), .val (.int (Int32.ofNat (own_te n (fun j => [x0, x1, x2, x3].getD j 0)))), .val (.int (Int32.ofNat (own_te n (fun j => [x0, x1, x2, x3].getD j 0) - own_ts n (fun j => [x0, x1, x2, x3].getD j 0))))] [(.int (1 : Int32))]))
  refine own_up (fun tx kx => XS.ifNo X15.here hx rfl (hb hby at_433) rfl ((if0 _ _).trans (feq (by decide)).1) kx) ?_
  show OwnOk p e below _ (T15.setTop (mkF m 436 #[.val (.int len), .val (.int p0), .val (.int p1), .val (.int p2), .val (.int p3), .val (.int (Int32.ofNat n)), .val (.ref cA), .val (.ref aA), .val (.ref r), .val (.int (own_nw n (fun j => [x0, x1, x2, x3].getD j 0) 0)), .val (.int (own_nw n (fun j => [x0, x1, x2, x3].getD j 0) 1)), .val (.int (own_nw n (fun j => [x0, x1, x2, x3].getD j 0) 2)), .val (.int (own_nw n (fun j => [x0, x1, x2, x3].getD j 0) 3)), .val (.int (Int32.ofNat (own_ts n (fun j => [x0, x1, x2, x3].getD j 0)))), .val (.int (Int32.ofNat (own_te n (fun j => [x0, x1, x2, x3].getD j 0)))), .val (.int (Int32.ofNat (own_te n (fun j => [x0, x1, x2, x3].getD j 0) - own_ts n (fun j => [x0, x1, x2, x3].getD j 0))))] []))
  refine own_up (fun tx kx => XS.iconst X15.here hx rfl (hb hby at_436) kx) ?_
  show OwnOk p e below _ (T15.setTop (mkF m 437 #[.val (.int len), .val (.int p0), .val (.int p1), .val (.int p2), .val (.int p3), .val (.int (Int32.ofNat n)), .val (.ref cA), .val (.ref aA), .val (.ref r), .val (.int (own_nw n (fun j => [x0, x1, x2, x3].getD j 0) 0)), .val (.int (own_nw n (fun j => [x0, x1, x2, x3].getD j 0) 1)), .val (.int (own_nw n (fun j => [x0, x1, x2, x3].getD j 0) 2)), .val (.int (own_nw n (fun j => [x0, x1, x2, x3].getD j 0) 3)), .val (.int (Int32.ofNat (own_ts n (fun j => [x0, x1, x2, x3].getD j 0)))), .val (.int (Int32.ofNat (own_te n (fun j => [x0, x1, x2, x3].getD j 0)))), .val (.int (Int32.ofNat (own_te n (fun j => [x0, x1, x2, x3].getD j 0) - own_ts n (fun j => [x0, x1, x2, x3].getD j 0))))] [(.int (1 : Int32))]))
  refine own_up (fun tx kx => XS.goto X15.here hx rfl (pc0 := 437) (pc' := 441) rfl (hb hby at_437) (by decide) (by decide) kx) ?_
  show OwnOk p e below _ (T15.setTop (mkF m 441 #[.val (.int len), .val (.int p0), .val (.int p1), .val (.int p2), .val (.int p3), .val (.int (Int32.ofNat n)), .val (.ref cA), .val (.ref aA), .val (.ref r), .val (.int (own_nw n (fun j => [x0, x1, x2, x3].getD j 0) 0)), .val (.int (own_nw n (fun j => [x0, x1, x2, x3].getD j 0) 1)), .val (.int (own_nw n (fun j => [x0, x1, x2, x3].getD j 0) 2)), .val (.int (own_nw n (fun j => [x0, x1, x2, x3].getD j 0) 3)), .val (.int (Int32.ofNat (own_ts n (fun j => [x0, x1, x2, x3].getD j 0)))), .val (.int (Int32.ofNat (own_te n (fun j => [x0, x1, x2, x3].getD j 0)))), .val (.int (Int32.ofNat (own_te n (fun j => [x0, x1, x2, x3].getD j 0) - own_ts n (fun j => [x0, x1, x2, x3].getD j 0))))] [(.int (1 : Int32))]))
  refine own_retNH X15 hB hZ (own_ew hw) hx (t := .boolean) (show meth.sig.returnType = some .boolean from hret) (by simp) hlk (hb hby at_441) (z' := (1 : Int32)) rfl hh15 (Nat.le_of_ble_eq_true rfl) (Nat.le_of_ble_eq_true rfl) ?_
  exact ⟨rfl, N15⟩
set_option maxRecDepth 65536 in
set_option maxHeartbeats 40000000 in
theorem law_254 (l : Launch) (Z : State) (a0 : Array Value) (hw : ∀ d ∈ tables_1, d.before a0 Z = true) (len p0 p1 p2 p3 : Int32) (n : Nat) (cA aA r u : Addr) (kc ku : ClassId) (gg : Nat → Int32) (x0 x1 x2 x3 : Int32) (b0 b1 b2 b3 : Int32) (cz : Int32) (fm : Value) (hfm : fm.isRef = true) {p : Program} {e : Env} {s s' : State} {m : MethodId} {below : List Frame} {meth : Method} {c : Code} {T : State} (hx : p.tables.exec = Jvm.exec) (hby : c.code = code) (hml : c.maxLocals = 16) (hret : meth.sig.returnType = ret) (hlk : meth.locks = false) {locs : List Loc} (X0 : Stand p l e room_1 s' m #[(.int len), (.int p0), (.int p1), (.int p2), (.int p3)] below meth c T locs 14 300) {h0 : Heap} (e0 : T.heap = h0) (hZ : Z.Warmed39 s'.vm) (hown : s'.vm.findClass "com/example/strict_replay/strictreplay/rules/FieldValuesTrimPinLaw" = some m.cls) (n0 : Nat) (OL : Old Z n0 h0) (N0 : Fr n0 locs) (hB : own_FrH Z own_EL s s' h0) (SC : Sta Z Z.heap "java/lang/String" "COMPACT_STRINGS" "Z" (.int cz)) (hcz : ¬ cz = 0) (SF : Sta Z Z.heap "jdk/internal/util/Preconditions" "SIOOBE_FORMATTER" "Ljava/util/function/BiFunction;" fm) (E_r : Exa Z h0 r "java/lang/String") (F_value_r : Fld Z h0 r "java/lang/String" "value" "[B" (.ref u)) (F_coder_r : Fld Z h0 r "java/lang/String" "coder" "B" (.int (0 : Int32))) (V_u : Arv Z h0 u ku .byte (Int32.ofNat (own_te n (fun j => [x0, x1, x2, x3].getD j 0) - own_ts n (fun j => [x0, x1, x2, x3].getD j 0))) (own_F (own_te n (fun j => [x0, x1, x2, x3].getD j 0) - own_ts n (fun j => [x0, x1, x2, x3].getD j 0)) gg) (.int (0 : Int32))) (V_c : Arv Z h0 cA kc .char (4 : Int32) [(.int x0), (.int x1), (.int x2), (.int x3)] (.int (0 : Int32))) (h4 : n ≤ 4) (hse : (own_ts n (fun j => [x0, x1, x2, x3].getD j 0)) ≤ (own_te n (fun j => [x0, x1, x2, x3].getD j 0))) (hen : (own_te n (fun j => [x0, x1, x2, x3].getD j 0)) ≤ n) (hg : ∀ j, j < (own_te n (fun j => [x0, x1, x2, x3].getD j 0) - own_ts n (fun j => [x0, x1, x2, x3].getD j 0)) → own_c8 (gg j) = [x0, x1, x2, x3].getD ((own_ts n (fun j => [x0, x1, x2, x3].getD j 0)) + j) 0) (hb0 : b0 = (own_nw n (fun j => [x0, x1, x2, x3].getD j 0) 0)) (hb1 : b1 = (own_nw n (fun j => [x0, x1, x2, x3].getD j 0) 1)) (hb2 : b2 = (own_nw n (fun j => [x0, x1, x2, x3].getD j 0) 2)) :
    OwnOk p e below (own_KH Z own_EL s (Q_rm0 n0) room_1.cells room_1.slots) (T.setTop (mkF m 254 #[.val (.int len), .val (.int p0), .val (.int p1), .val (.int p2), .val (.int p3), .val (.int (Int32.ofNat n)), .val (.ref cA), .val (.ref aA), .val (.ref r), .val (.int b0), .val (.int b1), .val (.int b2), .unset, .unset, .unset, .unset] [])) := by
  have Z0 : n0 ≤ h0.size := OL.1 ▸ OL.2.1
  show OwnOk p e below _ (T.setTop (mkF m 254 #[.val (.int len), .val (.int p0), .val (.int p1), .val (.int p2), .val (.int p3), .val (.int (Int32.ofNat n)), .val (.ref cA), .val (.ref aA), .val (.ref r), .val (.int b0), .val (.int b1), .val (.int b2), .unset, .unset, .unset, .unset] []))
  refine own_up (fun tx kx => XS.iload X0.here hx rfl (hb hby at_254) rfl kx) ?_
  show OwnOk p e below _ (T.setTop (mkF m 256 #[.val (.int len), .val (.int p0), .val (.int p1), .val (.int p2), .val (.int p3), .val (.int (Int32.ofNat n)), .val (.ref cA), .val (.ref aA), .val (.ref r), .val (.int b0), .val (.int b1), .val (.int b2), .unset, .unset, .unset, .unset] [(.int (Int32.ofNat n))]))
  refine own_up (fun tx kx => XS.iconst X0.here hx rfl (hb hby at_256) kx) ?_
  show OwnOk p e below _ (T.setTop (mkF m 257 #[.val (.int len), .val (.int p0), .val (.int p1), .val (.int p2), .val (.int p3), .val (.int (Int32.ofNat n)), .val (.ref cA), .val (.ref aA), .val (.ref r), .val (.int b0), .val (.int b1), .val (.int b2), .unset, .unset, .unset, .unset] [(.int (3 : Int32)), (.int (Int32.ofNat n))]))
  by_cases hk : (3 : Int32) < (Int32.ofNat n)
  · refine own_up (fun tx kx => XS.icmpNo X0.here hx rfl (hb hby at_257) rfl (tlt hk).2.2.2 kx) ?_
    show OwnOk p e below _ (T.setTop (mkF m 260 #[.val (.int len), .val (.int p0), .val (.int p1), .val (.int p2), .val (.int p3), .val (.int (Int32.ofNat n)), .val (.ref cA), .val (.ref aA), .val (.ref r), .val (.int b0), .val (.int b1), .val (.int b2), .unset, .unset, .unset, .unset] []))
    have q1 : 3 < n := Nat.lt_of_not_le fun q => own_nlt (n := 3) q (by decide) hk
    refine own_up (fun tx kx => XS.aload X0.here hx rfl (hb hby at_260) rfl rfl kx) ?_
    show OwnOk p e below _ (T.setTop (mkF m 262 #[.val (.int len), .val (.int p0), .val (.int p1), .val (.int p2), .val (.int p3), .val (.int (Int32.ofNat n)), .val (.ref cA), .val (.ref aA), .val (.ref r), .val (.int b0), .val (.int b1), .val (.int b2), .unset, .unset, .unset, .unset] [(.ref cA)]))
    refine own_up (fun tx kx => XS.iconst X0.here hx rfl (hb hby at_262) kx) ?_
    show OwnOk p e below _ (T.setTop (mkF m 263 #[.val (.int len), .val (.int p0), .val (.int p1), .val (.int p2), .val (.int p3), .val (.int (Int32.ofNat n)), .val (.ref cA), .val (.ref aA), .val (.ref r), .val (.int b0), .val (.int b1), .val (.int b2), .unset, .unset, .unset, .unset] [(.int (3 : Int32)), (.ref cA)]))
    obtain ⟨cl11, Ar11, qc11, Sz11, Nn11, Hs11, Gf11⟩ := id V_c
    have hin11 : ¬ ((3 : Int32) < 0 ∨ cl11.slots.size ≤ ((3 : Int32)).toNatClampNeg) := inb_of Sz11 ⟨by decide, by decide⟩
    have hat11 : cl11.slots[((3 : Int32)).toNatClampNeg]? = some (.int x3) := Hs11.at hin11 rfl
    refine own_up (fun tx kx => X0.caload hx (j := (3 : Int32)) (v := (.int x3)) (own_ar e0 Ar11.1) (State.isArrayOf_alike hZ.alike Ar11.2.1) Ar11.2.2 hin11 hat11 (g := (mkF m 263 #[.val (.int len), .val (.int p0), .val (.int p1), .val (.int p2), .val (.int p3), .val (.int (Int32.ofNat n)), .val (.ref cA), .val (.ref aA), .val (.ref r), .val (.int b0), .val (.int b1), .val (.int b2), .unset, .unset, .unset, .unset] [(.int (3 : Int32)), (.ref cA)])) rfl rfl (hb hby at_263) _ kx) ?_
    show OwnOk p e below _ (T.setTop (mkF m 264 #[.val (.int len), .val (.int p0), .val (.int p1), .val (.int p2), .val (.int p3), .val (.int (Int32.ofNat n)), .val (.ref cA), .val (.ref aA), .val (.ref r), .val (.int b0), .val (.int b1), .val (.int b2), .unset, .unset, .unset, .unset] [(.int x3)]))
    refine own_callS X0 hx hZ (y := (⟨"com/example/strict_replay/strictreplay/rules/FieldValuesTrimPinLaw", "ws", "(C)Z"⟩ : MethodName)) hown (wd_118 hw) (wd_119 hw) (wd_4 hw) (wd_120 hw) (by decide) (m_ws l Z a0 hw x3 h0 n0 OL) e0 (argsL := [(.int x3)]) (rest := []) (by rw [hml]; rfl) (lenOf pd_18 rfl) rfl rfl (W := 0) rfl (hb hby at_264) (by decide) (by decide) (by decide) (by decide) (fun T12 v12 L12 X12 hQ12 => ?_)
    obtain ⟨rfl, Nq12, hh12⟩ := hQ12
    have N12 := Fr.app N0 Nq12
    show OwnOk p e below _ (T12.setTop (mkF m 267 #[.val (.int len), .val (.int p0), .val (.int p1), .val (.int p2), .val (.int p3), .val (.int (Int32.ofNat n)), .val (.ref cA), .val (.ref aA), .val (.ref r), .val (.int b0), .val (.int b1), .val (.int b2), .unset, .unset, .unset, .unset] [(.int (own_ws x3))]))
    by_cases hz : (own_ws x3) = (0 : Int32)
    · refine own_up (fun tx kx => XS.ifNo X12.here hx rfl (hb hby at_267) rfl ((if0 _ _).trans (teq hz).2) kx) ?_
      show OwnOk p e below _ (T12.setTop (mkF m 270 #[.val (.int len), .val (.int p0), .val (.int p1), .val (.int p2), .val (.int p3), .val (.int (Int32.ofNat n)), .val (.ref cA), .val (.ref aA), .val (.ref r), .val (.int b0), .val (.int b1), .val (.int b2), .unset, .unset, .unset, .unset] []))
      refine own_up (fun tx kx => XS.iconst X12.here hx rfl (hb hby at_270) kx) ?_
      show OwnOk p e below _ (T12.setTop (mkF m 271 #[.val (.int len), .val (.int p0), .val (.int p1), .val (.int p2), .val (.int p3), .val (.int (Int32.ofNat n)), .val (.ref cA), .val (.ref aA), .val (.ref r), .val (.int b0), .val (.int b1), .val (.int b2), .unset, .unset, .unset, .unset] [(.int (1 : Int32))]))
      refine own_up (fun tx kx => XS.goto X12.here hx rfl (pc0 := 271) (pc' := 275) rfl (hb hby at_271) (by decide) (by decide) kx) ?_
      show OwnOk p e below _ (T12.setTop (mkF m 275 #[.val (.int len), .val (.int p0), .val (.int p1), .val (.int p2), .val (.int p3), .val (.int (Int32.ofNat n)), .val (.ref cA), .val (.ref aA), .val (.ref r), .val (.int b0), .val (.int b1), .val (.int b2), .unset, .unset, .unset, .unset] [(.int (1 : Int32))]))
      refine own_up (fun tx kx => XS.istore X12.here hx rfl (hb hby at_275) rfl (l' := #[.val (.int len), .val (.int p0), .val (.int p1), .val (.int p2), .val (.int p3), .val (.int (Int32.ofNat n)), .val (.ref cA), .val (.ref aA), .val (.ref r), .val (.int b0), .val (.int b1), .val (.int b2), .val (.int (1 : Int32)), .unset, .unset, .unset]) rfl kx) ?_
      show OwnOk p e below _ (T12.setTop (mkF m 277 #[.val (.int len), .val (.int p0), .val (.int p1), .val (.int p2), .val (.int p3), .val (.int (Int32.ofNat n)), .val (.ref cA), .val (.ref aA), .val (.ref r), .val (.int b0), .val (.int b1), .val (.int b2), .val (.int (1 : Int32)), .unset, .unset, .unset] []))
      exact law_277 l Z a0 hw len p0 p1 p2 p3 n cA aA r u kc ku gg x0 x1 x2 x3 b0 b1 b2 (1 : Int32) cz fm hfm hx hby hml hret hlk (X12.mono (Nat.le_of_ble_eq_true rfl) (Nat.le_of_ble_eq_true rfl)) hh12 hZ hown n0 OL N12 hB SC hcz SF E_r F_value_r F_coder_r V_u V_c h4 hse hen hg hb0 hb1 hb2 (by unfold own_nw; rw [if_pos q1]; exact (if_pos hz).symm)
    · refine own_up (fun tx kx => XS.ifYes X12.here hx rfl (pc0 := 267) (pc' := 274) rfl (hb hby at_267) rfl ((if0 _ _).trans (feq hz).2) (by decide) (by decide) kx) ?_
      show OwnOk p e below _ (T12.setTop (mkF m 274 #[.val (.int len), .val (.int p0), .val (.int p1), .val (.int p2), .val (.int p3), .val (.int (Int32.ofNat n)), .val (.ref cA), .val (.ref aA), .val (.ref r), .val (.int b0), .val (.int b1), .val (.int b2), .unset, .unset, .unset, .unset] []))
      refine own_up (fun tx kx => XS.iconst X12.here hx rfl (hb hby at_274) kx) ?_
      show OwnOk p e below _ (T12.setTop (mkF m 275 #[.val (.int len), .val (.int p0), .val (.int p1), .val (.int p2), .val (.int p3), .val (.int (Int32.ofNat n)), .val (.ref cA), .val (.ref aA), .val (.ref r), .val (.int b0), .val (.int b1), .val (.int b2), .unset, .unset, .unset, .unset] [(.int (0 : Int32))]))
      refine own_up (fun tx kx => XS.istore X12.here hx rfl (hb hby at_275) rfl (l' := #[.val (.int len), .val (.int p0), .val (.int p1), .val (.int p2), .val (.int p3), .val (.int (Int32.ofNat n)), .val (.ref cA), .val (.ref aA), .val (.ref r), .val (.int b0), .val (.int b1), .val (.int b2), .val (.int (0 : Int32)), .unset, .unset, .unset]) rfl kx) ?_
      show OwnOk p e below _ (T12.setTop (mkF m 277 #[.val (.int len), .val (.int p0), .val (.int p1), .val (.int p2), .val (.int p3), .val (.int (Int32.ofNat n)), .val (.ref cA), .val (.ref aA), .val (.ref r), .val (.int b0), .val (.int b1), .val (.int b2), .val (.int (0 : Int32)), .unset, .unset, .unset] []))
      exact law_277 l Z a0 hw len p0 p1 p2 p3 n cA aA r u kc ku gg x0 x1 x2 x3 b0 b1 b2 (0 : Int32) cz fm hfm hx hby hml hret hlk (X12.mono (Nat.le_of_ble_eq_true rfl) (Nat.le_of_ble_eq_true rfl)) hh12 hZ hown n0 OL N12 hB SC hcz SF E_r F_value_r F_coder_r V_u V_c h4 hse hen hg hb0 hb1 hb2 (by unfold own_nw; rw [if_pos q1]; exact (if_neg hz).symm)
  · refine own_up (fun tx kx => XS.icmpYes X0.here hx rfl (pc0 := 257) (pc' := 274) rfl (hb hby at_257) rfl (flt hk).2.2.2 (by decide) (by decide) kx) ?_
    show OwnOk p e below _ (T.setTop (mkF m 274 #[.val (.int len), .val (.int p0), .val (.int p1), .val (.int p2), .val (.int p3), .val (.int (Int32.ofNat n)), .val (.ref cA), .val (.ref aA), .val (.ref r), .val (.int b0), .val (.int b1), .val (.int b2), .unset, .unset, .unset, .unset] []))
    refine own_up (fun tx kx => XS.iconst X0.here hx rfl (hb hby at_274) kx) ?_
    show OwnOk p e below _ (T.setTop (mkF m 275 #[.val (.int len), .val (.int p0), .val (.int p1), .val (.int p2), .val (.int p3), .val (.int (Int32.ofNat n)), .val (.ref cA), .val (.ref aA), .val (.ref r), .val (.int b0), .val (.int b1), .val (.int b2), .unset, .unset, .unset, .unset] [(.int (0 : Int32))]))
    refine own_up (fun tx kx => XS.istore X0.here hx rfl (hb hby at_275) rfl (l' := #[.val (.int len), .val (.int p0), .val (.int p1), .val (.int p2), .val (.int p3), .val (.int (Int32.ofNat n)), .val (.ref cA), .val (.ref aA), .val (.ref r), .val (.int b0), .val (.int b1), .val (.int b2), .val (.int (0 : Int32)), .unset, .unset, .unset]) rfl kx) ?_
    show OwnOk p e below _ (T.setTop (mkF m 277 #[.val (.int len), .val (.int p0), .val (.int p1), .val (.int p2), .val (.int p3), .val (.int (Int32.ofNat n)), .val (.ref cA), .val (.ref aA), .val (.ref r), .val (.int b0), .val (.int b1), .val (.int b2), .val (.int (0 : Int32)), .unset, .unset, .unset] []))
    exact law_277 l Z a0 hw len p0 p1 p2 p3 n cA aA r u kc ku gg x0 x1 x2 x3 b0 b1 b2 (0 : Int32) cz fm hfm hx hby hml hret hlk (X0.mono (Nat.le_of_ble_eq_true rfl) (Nat.le_of_ble_eq_true rfl)) e0 hZ hown n0 OL N0 hB SC hcz SF E_r F_value_r F_coder_r V_u V_c h4 hse hen hg hb0 hb1 hb2 (by unfold own_nw; rw [if_neg (fun q => hk (own_lt (i := 3) q (by omega)))])
set_option maxRecDepth 65536 in
set_option maxHeartbeats 40000000 in
theorem law_231 (l : Launch) (Z : State) (a0 : Array Value) (hw : ∀ d ∈ tables_1, d.before a0 Z = true) (len p0 p1 p2 p3 : Int32) (n : Nat) (cA aA r u : Addr) (kc ku : ClassId) (gg : Nat → Int32) (x0 x1 x2 x3 : Int32) (b0 b1 b2 b3 : Int32) (cz : Int32) (fm : Value) (hfm : fm.isRef = true) {p : Program} {e : Env} {s s' : State} {m : MethodId} {below : List Frame} {meth : Method} {c : Code} {T : State} (hx : p.tables.exec = Jvm.exec) (hby : c.code = code) (hml : c.maxLocals = 16) (hret : meth.sig.returnType = ret) (hlk : meth.locks = false) {locs : List Loc} (X0 : Stand p l e room_1 s' m #[(.int len), (.int p0), (.int p1), (.int p2), (.int p3)] below meth c T locs 14 300) {h0 : Heap} (e0 : T.heap = h0) (hZ : Z.Warmed39 s'.vm) (hown : s'.vm.findClass "com/example/strict_replay/strictreplay/rules/FieldValuesTrimPinLaw" = some m.cls) (n0 : Nat) (OL : Old Z n0 h0) (N0 : Fr n0 locs) (hB : own_FrH Z own_EL s s' h0) (SC : Sta Z Z.heap "java/lang/String" "COMPACT_STRINGS" "Z" (.int cz)) (hcz : ¬ cz = 0) (SF : Sta Z Z.heap "jdk/internal/util/Preconditions" "SIOOBE_FORMATTER" "Ljava/util/function/BiFunction;" fm) (E_r : Exa Z h0 r "java/lang/String") (F_value_r : Fld Z h0 r "java/lang/String" "value" "[B" (.ref u)) (F_coder_r : Fld Z h0 r "java/lang/String" "coder" "B" (.int (0 : Int32))) (V_u : Arv Z h0 u ku .byte (Int32.ofNat (own_te n (fun j => [x0, x1, x2, x3].getD j 0) - own_ts n (fun j => [x0, x1, x2, x3].getD j 0))) (own_F (own_te n (fun j => [x0, x1, x2, x3].getD j 0) - own_ts n (fun j => [x0, x1, x2, x3].getD j 0)) gg) (.int (0 : Int32))) (V_c : Arv Z h0 cA kc .char (4 : Int32) [(.int x0), (.int x1), (.int x2), (.int x3)] (.int (0 : Int32))) (h4 : n ≤ 4) (hse : (own_ts n (fun j => [x0, x1, x2, x3].getD j 0)) ≤ (own_te n (fun j => [x0, x1, x2, x3].getD j 0))) (hen : (own_te n (fun j => [x0, x1, x2, x3].getD j 0)) ≤ n) (hg : ∀ j, j < (own_te n (fun j => [x0, x1, x2, x3].getD j 0) - own_ts n (fun j => [x0, x1, x2, x3].getD j 0)) → own_c8 (gg j) = [x0, x1, x2, x3].getD ((own_ts n (fun j => [x0, x1, x2, x3].getD j 0)) + j) 0) (hb0 : b0 = (own_nw n (fun j => [x0, x1, x2, x3].getD j 0) 0)) (hb1 : b1 = (own_nw n (fun j => [x0, x1, x2, x3].getD j 0) 1)) :
    OwnOk p e below (own_KH Z own_EL s (Q_rm0 n0) room_1.cells room_1.slots) (T.setTop (mkF m 231 #[.val (.int len), .val (.int p0), .val (.int p1), .val (.int p2), .val (.int p3), .val (.int (Int32.ofNat n)), .val (.ref cA), .val (.ref aA), .val (.ref r), .val (.int b0), .val (.int b1), .unset, .unset, .unset, .unset, .unset] [])) := by
  have Z0 : n0 ≤ h0.size := OL.1 ▸ OL.2.1
  show OwnOk p e below _ (T.setTop (mkF m 231 #[.val (.int len), .val (.int p0), .val (.int p1), .val (.int p2), .val (.int p3), .val (.int (Int32.ofNat n)), .val (.ref cA), .val (.ref aA), .val (.ref r), .val (.int b0), .val (.int b1), .unset, .unset, .unset, .unset, .unset] []))
  refine own_up (fun tx kx => XS.iload X0.here hx rfl (hb hby at_231) rfl kx) ?_
  show OwnOk p e below _ (T.setTop (mkF m 233 #[.val (.int len), .val (.int p0), .val (.int p1), .val (.int p2), .val (.int p3), .val (.int (Int32.ofNat n)), .val (.ref cA), .val (.ref aA), .val (.ref r), .val (.int b0), .val (.int b1), .unset, .unset, .unset, .unset, .unset] [(.int (Int32.ofNat n))]))
  refine own_up (fun tx kx => XS.iconst X0.here hx rfl (hb hby at_233) kx) ?_
  show OwnOk p e below _ (T.setTop (mkF m 234 #[.val (.int len), .val (.int p0), .val (.int p1), .val (.int p2), .val (.int p3), .val (.int (Int32.ofNat n)), .val (.ref cA), .val (.ref aA), .val (.ref r), .val (.int b0), .val (.int b1), .unset, .unset, .unset, .unset, .unset] [(.int (2 : Int32)), (.int (Int32.ofNat n))]))
  by_cases hk : (2 : Int32) < (Int32.ofNat n)
  · refine own_up (fun tx kx => XS.icmpNo X0.here hx rfl (hb hby at_234) rfl (tlt hk).2.2.2 kx) ?_
    show OwnOk p e below _ (T.setTop (mkF m 237 #[.val (.int len), .val (.int p0), .val (.int p1), .val (.int p2), .val (.int p3), .val (.int (Int32.ofNat n)), .val (.ref cA), .val (.ref aA), .val (.ref r), .val (.int b0), .val (.int b1), .unset, .unset, .unset, .unset, .unset] []))
    have q1 : 2 < n := Nat.lt_of_not_le fun q => own_nlt (n := 2) q (by decide) hk
    refine own_up (fun tx kx => XS.aload X0.here hx rfl (hb hby at_237) rfl rfl kx) ?_
    show OwnOk p e below _ (T.setTop (mkF m 239 #[.val (.int len), .val (.int p0), .val (.int p1), .val (.int p2), .val (.int p3), .val (.int (Int32.ofNat n)), .val (.ref cA), .val (.ref aA), .val (.ref r), .val (.int b0), .val (.int b1), .unset, .unset, .unset, .unset, .unset] [(.ref cA)]))
    refine own_up (fun tx kx => XS.iconst X0.here hx rfl (hb hby at_239) kx) ?_
    show OwnOk p e below _ (T.setTop (mkF m 240 #[.val (.int len), .val (.int p0), .val (.int p1), .val (.int p2), .val (.int p3), .val (.int (Int32.ofNat n)), .val (.ref cA), .val (.ref aA), .val (.ref r), .val (.int b0), .val (.int b1), .unset, .unset, .unset, .unset, .unset] [(.int (2 : Int32)), (.ref cA)]))
    obtain ⟨cl11, Ar11, qc11, Sz11, Nn11, Hs11, Gf11⟩ := id V_c
    have hin11 : ¬ ((2 : Int32) < 0 ∨ cl11.slots.size ≤ ((2 : Int32)).toNatClampNeg) := inb_of Sz11 ⟨by decide, by decide⟩
    have hat11 : cl11.slots[((2 : Int32)).toNatClampNeg]? = some (.int x2) := Hs11.at hin11 rfl
    refine own_up (fun tx kx => X0.caload hx (j := (2 : Int32)) (v := (.int x2)) (own_ar e0 Ar11.1) (State.isArrayOf_alike hZ.alike Ar11.2.1) Ar11.2.2 hin11 hat11 (g := (mkF m 240 #[.val (.int len), .val (.int p0), .val (.int p1), .val (.int p2), .val (.int p3), .val (.int (Int32.ofNat n)), .val (.ref cA), .val (.ref aA), .val (.ref r), .val (.int b0), .val (.int b1), .unset, .unset, .unset, .unset, .unset] [(.int (2 : Int32)), (.ref cA)])) rfl rfl (hb hby at_240) _ kx) ?_
    show OwnOk p e below _ (T.setTop (mkF m 241 #[.val (.int len), .val (.int p0), .val (.int p1), .val (.int p2), .val (.int p3), .val (.int (Int32.ofNat n)), .val (.ref cA), .val (.ref aA), .val (.ref r), .val (.int b0), .val (.int b1), .unset, .unset, .unset, .unset, .unset] [(.int x2)]))
    refine own_callS X0 hx hZ (y := (⟨"com/example/strict_replay/strictreplay/rules/FieldValuesTrimPinLaw", "ws", "(C)Z"⟩ : MethodName)) hown (wd_118 hw) (wd_119 hw) (wd_4 hw) (wd_120 hw) (by decide) (m_ws l Z a0 hw x2 h0 n0 OL) e0 (argsL := [(.int x2)]) (rest := []) (by rw [hml]; rfl) (lenOf pd_18 rfl) rfl rfl (W := 0) rfl (hb hby at_241) (by decide) (by decide) (by decide) (by decide) (fun T12 v12 L12 X12 hQ12 => ?_)
    obtain ⟨rfl, Nq12, hh12⟩ := hQ12
    have N12 := Fr.app N0 Nq12
    show OwnOk p e below _ (T12.setTop (mkF m 244 #[.val (.int len), .val (.int p0), .val (.int p1), .val (.int p2), .val (.int p3), .val (.int (Int32.ofNat n)), .val (.ref cA), .val (.ref aA), .val (.ref r), .val (.int b0), .val (.int b1), .unset, .unset, .unset, .unset, .unset] [(.int (own_ws x2))]))
    by_cases hz : (own_ws x2) = (0 : Int32)
    · refine own_up (fun tx kx => XS.ifNo X12.here hx rfl (hb hby at_244) rfl ((if0 _ _).trans (teq hz).2) kx) ?_
      show OwnOk p e below _ (T12.setTop (mkF m 247 #[.val (.int len), .val (.int p0), .val (.int p1), .val (.int p2), .val (.int p3), .val (.int (Int32.ofNat n)), .val (.ref cA), .val (.ref aA), .val (.ref r), .val (.int b0), .val (.int b1), .unset, .unset, .unset, .unset, .unset] []))
      refine own_up (fun tx kx => XS.iconst X12.here hx rfl (hb hby at_247) kx) ?_
      show OwnOk p e below _ (T12.setTop (mkF m 248 #[.val (.int len), .val (.int p0), .val (.int p1), .val (.int p2), .val (.int p3), .val (.int (Int32.ofNat n)), .val (.ref cA), .val (.ref aA), .val (.ref r), .val (.int b0), .val (.int b1), .unset, .unset, .unset, .unset, .unset] [(.int (1 : Int32))]))
      refine own_up (fun tx kx => XS.goto X12.here hx rfl (pc0 := 248) (pc' := 252) rfl (hb hby at_248) (by decide) (by decide) kx) ?_
      show OwnOk p e below _ (T12.setTop (mkF m 252 #[.val (.int len), .val (.int p0), .val (.int p1), .val (.int p2), .val (.int p3), .val (.int (Int32.ofNat n)), .val (.ref cA), .val (.ref aA), .val (.ref r), .val (.int b0), .val (.int b1), .unset, .unset, .unset, .unset, .unset] [(.int (1 : Int32))]))
      refine own_up (fun tx kx => XS.istore X12.here hx rfl (hb hby at_252) rfl (l' := #[.val (.int len), .val (.int p0), .val (.int p1), .val (.int p2), .val (.int p3), .val (.int (Int32.ofNat n)), .val (.ref cA), .val (.ref aA), .val (.ref r), .val (.int b0), .val (.int b1), .val (.int (1 : Int32)), .unset, .unset, .unset, .unset]) rfl kx) ?_
      show OwnOk p e below _ (T12.setTop (mkF m 254 #[.val (.int len), .val (.int p0), .val (.int p1), .val (.int p2), .val (.int p3), .val (.int (Int32.ofNat n)), .val (.ref cA), .val (.ref aA), .val (.ref r), .val (.int b0), .val (.int b1), .val (.int (1 : Int32)), .unset, .unset, .unset, .unset] []))
      exact law_254 l Z a0 hw len p0 p1 p2 p3 n cA aA r u kc ku gg x0 x1 x2 x3 b0 b1 (1 : Int32) 0 cz fm hfm hx hby hml hret hlk (X12.mono (Nat.le_of_ble_eq_true rfl) (Nat.le_of_ble_eq_true rfl)) hh12 hZ hown n0 OL N12 hB SC hcz SF E_r F_value_r F_coder_r V_u V_c h4 hse hen hg hb0 hb1 (by unfold own_nw; rw [if_pos q1]; exact (if_pos hz).symm)
    · refine own_up (fun tx kx => XS.ifYes X12.here hx rfl (pc0 := 244) (pc' := 251) rfl (hb hby at_244) rfl ((if0 _ _).trans (feq hz).2) (by decide) (by decide) kx) ?_
      show OwnOk p e below _ (T12.setTop (mkF m 251 #[.val (.int len), .val (.int p0), .val (.int p1), .val (.int p2), .val (.int p3), .val (.int (Int32.ofNat n)), .val (.ref cA), .val (.ref aA), .val (.ref r), .val (.int b0), .val (.int b1), .unset, .unset, .unset, .unset, .unset] []))
      refine own_up (fun tx kx => XS.iconst X12.here hx rfl (hb hby at_251) kx) ?_
      show OwnOk p e below _ (T12.setTop (mkF m 252 #[.val (.int len), .val (.int p0), .val (.int p1), .val (.int p2), .val (.int p3), .val (.int (Int32.ofNat n)), .val (.ref cA), .val (.ref aA), .val (.ref r), .val (.int b0), .val (.int b1), .unset, .unset, .unset, .unset, .unset] [(.int (0 : Int32))]))
      refine own_up (fun tx kx => XS.istore X12.here hx rfl (hb hby at_252) rfl (l' := #[.val (.int len), .val (.int p0), .val (.int p1), .val (.int p2), .val (.int p3), .val (.int (Int32.ofNat n)), .val (.ref cA), .val (.ref aA), .val (.ref r), .val (.int b0), .val (.int b1), .val (.int (0 : Int32)), .unset, .unset, .unset, .unset]) rfl kx) ?_
      show OwnOk p e below _ (T12.setTop (mkF m 254 #[.val (.int len), .val (.int p0), .val (.int p1), .val (.int p2), .val (.int p3), .val (.int (Int32.ofNat n)), .val (.ref cA), .val (.ref aA), .val (.ref r), .val (.int b0), .val (.int b1), .val (.int (0 : Int32)), .unset, .unset, .unset, .unset] []))
      exact law_254 l Z a0 hw len p0 p1 p2 p3 n cA aA r u kc ku gg x0 x1 x2 x3 b0 b1 (0 : Int32) 0 cz fm hfm hx hby hml hret hlk (X12.mono (Nat.le_of_ble_eq_true rfl) (Nat.le_of_ble_eq_true rfl)) hh12 hZ hown n0 OL N12 hB SC hcz SF E_r F_value_r F_coder_r V_u V_c h4 hse hen hg hb0 hb1 (by unfold own_nw; rw [if_pos q1]; exact (if_neg hz).symm)
  · refine own_up (fun tx kx => XS.icmpYes X0.here hx rfl (pc0 := 234) (pc' := 251) rfl (hb hby at_234) rfl (flt hk).2.2.2 (by decide) (by decide) kx) ?_
    show OwnOk p e below _ (T.setTop (mkF m 251 #[.val (.int len), .val (.int p0), .val (.int p1), .val (.int p2), .val (.int p3), .val (.int (Int32.ofNat n)), .val (.ref cA), .val (.ref aA), .val (.ref r), .val (.int b0), .val (.int b1), .unset, .unset, .unset, .unset, .unset] []))
    refine own_up (fun tx kx => XS.iconst X0.here hx rfl (hb hby at_251) kx) ?_
    show OwnOk p e below _ (T.setTop (mkF m 252 #[.val (.int len), .val (.int p0), .val (.int p1), .val (.int p2), .val (.int p3), .val (.int (Int32.ofNat n)), .val (.ref cA), .val (.ref aA), .val (.ref r), .val (.int b0), .val (.int b1), .unset, .unset, .unset, .unset, .unset] [(.int (0 : Int32))]))
    refine own_up (fun tx kx => XS.istore X0.here hx rfl (hb hby at_252) rfl (l' := #[.val (.int len), .val (.int p0), .val (.int p1), .val (.int p2), .val (.int p3), .val (.int (Int32.ofNat n)), .val (.ref cA), .val (.ref aA), .val (.ref r), .val (.int b0), .val (.int b1), .val (.int (0 : Int32)), .unset, .unset, .unset, .unset]) rfl kx) ?_
    show OwnOk p e below _ (T.setTop (mkF m 254 #[.val (.int len), .val (.int p0), .val (.int p1), .val (.int p2), .val (.int p3), .val (.int (Int32.ofNat n)), .val (.ref cA), .val (.ref aA), .val (.ref r), .val (.int b0), .val (.int b1), .val (.int (0 : Int32)), .unset, .unset, .unset, .unset] []))
    exact law_254 l Z a0 hw len p0 p1 p2 p3 n cA aA r u kc ku gg x0 x1 x2 x3 b0 b1 (0 : Int32) 0 cz fm hfm hx hby hml hret hlk (X0.mono (Nat.le_of_ble_eq_true rfl) (Nat.le_of_ble_eq_true rfl)) e0 hZ hown n0 OL N0 hB SC hcz SF E_r F_value_r F_coder_r V_u V_c h4 hse hen hg hb0 hb1 (by unfold own_nw; rw [if_neg (fun q => hk (own_lt (i := 2) q (by omega)))])
set_option maxRecDepth 65536 in
set_option maxHeartbeats 40000000 in
theorem law_208 (l : Launch) (Z : State) (a0 : Array Value) (hw : ∀ d ∈ tables_1, d.before a0 Z = true) (len p0 p1 p2 p3 : Int32) (n : Nat) (cA aA r u : Addr) (kc ku : ClassId) (gg : Nat → Int32) (x0 x1 x2 x3 : Int32) (b0 b1 b2 b3 : Int32) (cz : Int32) (fm : Value) (hfm : fm.isRef = true) {p : Program} {e : Env} {s s' : State} {m : MethodId} {below : List Frame} {meth : Method} {c : Code} {T : State} (hx : p.tables.exec = Jvm.exec) (hby : c.code = code) (hml : c.maxLocals = 16) (hret : meth.sig.returnType = ret) (hlk : meth.locks = false) {locs : List Loc} (X0 : Stand p l e room_1 s' m #[(.int len), (.int p0), (.int p1), (.int p2), (.int p3)] below meth c T locs 14 300) {h0 : Heap} (e0 : T.heap = h0) (hZ : Z.Warmed39 s'.vm) (hown : s'.vm.findClass "com/example/strict_replay/strictreplay/rules/FieldValuesTrimPinLaw" = some m.cls) (n0 : Nat) (OL : Old Z n0 h0) (N0 : Fr n0 locs) (hB : own_FrH Z own_EL s s' h0) (SC : Sta Z Z.heap "java/lang/String" "COMPACT_STRINGS" "Z" (.int cz)) (hcz : ¬ cz = 0) (SF : Sta Z Z.heap "jdk/internal/util/Preconditions" "SIOOBE_FORMATTER" "Ljava/util/function/BiFunction;" fm) (E_r : Exa Z h0 r "java/lang/String") (F_value_r : Fld Z h0 r "java/lang/String" "value" "[B" (.ref u)) (F_coder_r : Fld Z h0 r "java/lang/String" "coder" "B" (.int (0 : Int32))) (V_u : Arv Z h0 u ku .byte (Int32.ofNat (own_te n (fun j => [x0, x1, x2, x3].getD j 0) - own_ts n (fun j => [x0, x1, x2, x3].getD j 0))) (own_F (own_te n (fun j => [x0, x1, x2, x3].getD j 0) - own_ts n (fun j => [x0, x1, x2, x3].getD j 0)) gg) (.int (0 : Int32))) (V_c : Arv Z h0 cA kc .char (4 : Int32) [(.int x0), (.int x1), (.int x2), (.int x3)] (.int (0 : Int32))) (h4 : n ≤ 4) (hse : (own_ts n (fun j => [x0, x1, x2, x3].getD j 0)) ≤ (own_te n (fun j => [x0, x1, x2, x3].getD j 0))) (hen : (own_te n (fun j => [x0, x1, x2, x3].getD j 0)) ≤ n) (hg : ∀ j, j < (own_te n (fun j => [x0, x1, x2, x3].getD j 0) - own_ts n (fun j => [x0, x1, x2, x3].getD j 0)) → own_c8 (gg j) = [x0, x1, x2, x3].getD ((own_ts n (fun j => [x0, x1, x2, x3].getD j 0)) + j) 0) (hb0 : b0 = (own_nw n (fun j => [x0, x1, x2, x3].getD j 0) 0)) :
    OwnOk p e below (own_KH Z own_EL s (Q_rm0 n0) room_1.cells room_1.slots) (T.setTop (mkF m 208 #[.val (.int len), .val (.int p0), .val (.int p1), .val (.int p2), .val (.int p3), .val (.int (Int32.ofNat n)), .val (.ref cA), .val (.ref aA), .val (.ref r), .val (.int b0), .unset, .unset, .unset, .unset, .unset, .unset] [])) := by
  have Z0 : n0 ≤ h0.size := OL.1 ▸ OL.2.1
  show OwnOk p e below _ (T.setTop (mkF m 208 #[.val (.int len), .val (.int p0), .val (.int p1), .val (.int p2), .val (.int p3), .val (.int (Int32.ofNat n)), .val (.ref cA), .val (.ref aA), .val (.ref r), .val (.int b0), .unset, .unset, .unset, .unset, .unset, .unset] []))
  refine own_up (fun tx kx => XS.iload X0.here hx rfl (hb hby at_208) rfl kx) ?_
  show OwnOk p e below _ (T.setTop (mkF m 210 #[.val (.int len), .val (.int p0), .val (.int p1), .val (.int p2), .val (.int p3), .val (.int (Int32.ofNat n)), .val (.ref cA), .val (.ref aA), .val (.ref r), .val (.int b0), .unset, .unset, .unset, .unset, .unset, .unset] [(.int (Int32.ofNat n))]))
  refine own_up (fun tx kx => XS.iconst X0.here hx rfl (hb hby at_210) kx) ?_
  show OwnOk p e below _ (T.setTop (mkF m 211 #[.val (.int len), .val (.int p0), .val (.int p1), .val (.int p2), .val (.int p3), .val (.int (Int32.ofNat n)), .val (.ref cA), .val (.ref aA), .val (.ref r), .val (.int b0), .unset, .unset, .unset, .unset, .unset, .unset] [(.int (1 : Int32)), (.int (Int32.ofNat n))]))
  by_cases hk : (1 : Int32) < (Int32.ofNat n)
  · refine own_up (fun tx kx => XS.icmpNo X0.here hx rfl (hb hby at_211) rfl (tlt hk).2.2.2 kx) ?_
    show OwnOk p e below _ (T.setTop (mkF m 214 #[.val (.int len), .val (.int p0), .val (.int p1), .val (.int p2), .val (.int p3), .val (.int (Int32.ofNat n)), .val (.ref cA), .val (.ref aA), .val (.ref r), .val (.int b0), .unset, .unset, .unset, .unset, .unset, .unset] []))
    have q1 : 1 < n := Nat.lt_of_not_le fun q => own_nlt (n := 1) q (by decide) hk
    refine own_up (fun tx kx => XS.aload X0.here hx rfl (hb hby at_214) rfl rfl kx) ?_
    show OwnOk p e below _ (T.setTop (mkF m 216 #[.val (.int len), .val (.int p0), .val (.int p1), .val (.int p2), .val (.int p3), .val (.int (Int32.ofNat n)), .val (.ref cA), .val (.ref aA), .val (.ref r), .val (.int b0), .unset, .unset, .unset, .unset, .unset, .unset] [(.ref cA)]))
    refine own_up (fun tx kx => XS.iconst X0.here hx rfl (hb hby at_216) kx) ?_
    show OwnOk p e below _ (T.setTop (mkF m 217 #[.val (.int len), .val (.int p0), .val (.int p1), .val (.int p2), .val (.int p3), .val (.int (Int32.ofNat n)), .val (.ref cA), .val (.ref aA), .val (.ref r), .val (.int b0), .unset, .unset, .unset, .unset, .unset, .unset] [(.int (1 : Int32)), (.ref cA)]))
    obtain ⟨cl11, Ar11, qc11, Sz11, Nn11, Hs11, Gf11⟩ := id V_c
    have hin11 : ¬ ((1 : Int32) < 0 ∨ cl11.slots.size ≤ ((1 : Int32)).toNatClampNeg) := inb_of Sz11 ⟨by decide, by decide⟩
    have hat11 : cl11.slots[((1 : Int32)).toNatClampNeg]? = some (.int x1) := Hs11.at hin11 rfl
    refine own_up (fun tx kx => X0.caload hx (j := (1 : Int32)) (v := (.int x1)) (own_ar e0 Ar11.1) (State.isArrayOf_alike hZ.alike Ar11.2.1) Ar11.2.2 hin11 hat11 (g := (mkF m 217 #[.val (.int len), .val (.int p0), .val (.int p1), .val (.int p2), .val (.int p3), .val (.int (Int32.ofNat n)), .val (.ref cA), .val (.ref aA), .val (.ref r), .val (.int b0), .unset, .unset, .unset, .unset, .unset, .unset] [(.int (1 : Int32)), (.ref cA)])) rfl rfl (hb hby at_217) _ kx) ?_
    show OwnOk p e below _ (T.setTop (mkF m 218 #[.val (.int len), .val (.int p0), .val (.int p1), .val (.int p2), .val (.int p3), .val (.int (Int32.ofNat n)), .val (.ref cA), .val (.ref aA), .val (.ref r), .val (.int b0), .unset, .unset, .unset, .unset, .unset, .unset] [(.int x1)]))
    refine own_callS X0 hx hZ (y := (⟨"com/example/strict_replay/strictreplay/rules/FieldValuesTrimPinLaw", "ws", "(C)Z"⟩ : MethodName)) hown (wd_118 hw) (wd_119 hw) (wd_4 hw) (wd_120 hw) (by decide) (m_ws l Z a0 hw x1 h0 n0 OL) e0 (argsL := [(.int x1)]) (rest := []) (by rw [hml]; rfl) (lenOf pd_18 rfl) rfl rfl (W := 0) rfl (hb hby at_218) (by decide) (by decide) (by decide) (by decide) (fun T12 v12 L12 X12 hQ12 => ?_)
    obtain ⟨rfl, Nq12, hh12⟩ := hQ12
    have N12 := Fr.app N0 Nq12
    show OwnOk p e below _ (T12.setTop (mkF m 221 #[.val (.int len), .val (.int p0), .val (.int p1), .val (.int p2), .val (.int p3), .val (.int (Int32.ofNat n)), .val (.ref cA), .val (.ref aA), .val (.ref r), .val (.int b0), .unset, .unset, .unset, .unset, .unset, .unset] [(.int (own_ws x1))]))
    by_cases hz : (own_ws x1) = (0 : Int32)
    · refine own_up (fun tx kx => XS.ifNo X12.here hx rfl (hb hby at_221) rfl ((if0 _ _).trans (teq hz).2) kx) ?_
      show OwnOk p e below _ (T12.setTop (mkF m 224 #[.val (.int len), .val (.int p0), .val (.int p1), .val (.int p2), .val (.int p3), .val (.int (Int32.ofNat n)), .val (.ref cA), .val (.ref aA), .val (.ref r), .val (.int b0), .unset, .unset, .unset, .unset, .unset, .unset] []))
      refine own_up (fun tx kx => XS.iconst X12.here hx rfl (hb hby at_224) kx) ?_
      show OwnOk p e below _ (T12.setTop (mkF m 225 #[.val (.int len), .val (.int p0), .val (.int p1), .val (.int p2), .val (.int p3), .val (.int (Int32.ofNat n)), .val (.ref cA), .val (.ref aA), .val (.ref r), .val (.int b0), .unset, .unset, .unset, .unset, .unset, .unset] [(.int (1 : Int32))]))
      refine own_up (fun tx kx => XS.goto X12.here hx rfl (pc0 := 225) (pc' := 229) rfl (hb hby at_225) (by decide) (by decide) kx) ?_
      show OwnOk p e below _ (T12.setTop (mkF m 229 #[.val (.int len), .val (.int p0), .val (.int p1), .val (.int p2), .val (.int p3), .val (.int (Int32.ofNat n)), .val (.ref cA), .val (.ref aA), .val (.ref r), .val (.int b0), .unset, .unset, .unset, .unset, .unset, .unset] [(.int (1 : Int32))]))
      refine own_up (fun tx kx => XS.istore X12.here hx rfl (hb hby at_229) rfl (l' := #[.val (.int len), .val (.int p0), .val (.int p1), .val (.int p2), .val (.int p3), .val (.int (Int32.ofNat n)), .val (.ref cA), .val (.ref aA), .val (.ref r), .val (.int b0), .val (.int (1 : Int32)), .unset, .unset, .unset, .unset, .unset]) rfl kx) ?_
      show OwnOk p e below _ (T12.setTop (mkF m 231 #[.val (.int len), .val (.int p0), .val (.int p1), .val (.int p2), .val (.int p3), .val (.int (Int32.ofNat n)), .val (.ref cA), .val (.ref aA), .val (.ref r), .val (.int b0), .val (.int (1 : Int32)), .unset, .unset, .unset, .unset, .unset] []))
      exact law_231 l Z a0 hw len p0 p1 p2 p3 n cA aA r u kc ku gg x0 x1 x2 x3 b0 (1 : Int32) 0 0 cz fm hfm hx hby hml hret hlk (X12.mono (Nat.le_of_ble_eq_true rfl) (Nat.le_of_ble_eq_true rfl)) hh12 hZ hown n0 OL N12 hB SC hcz SF E_r F_value_r F_coder_r V_u V_c h4 hse hen hg hb0 (by unfold own_nw; rw [if_pos q1]; exact (if_pos hz).symm)
    · refine own_up (fun tx kx => XS.ifYes X12.here hx rfl (pc0 := 221) (pc' := 228) rfl (hb hby at_221) rfl ((if0 _ _).trans (feq hz).2) (by decide) (by decide) kx) ?_
      show OwnOk p e below _ (T12.setTop (mkF m 228 #[.val (.int len), .val (.int p0), .val (.int p1), .val (.int p2), .val (.int p3), .val (.int (Int32.ofNat n)), .val (.ref cA), .val (.ref aA), .val (.ref r), .val (.int b0), .unset, .unset, .unset, .unset, .unset, .unset] []))
      refine own_up (fun tx kx => XS.iconst X12.here hx rfl (hb hby at_228) kx) ?_
      show OwnOk p e below _ (T12.setTop (mkF m 229 #[.val (.int len), .val (.int p0), .val (.int p1), .val (.int p2), .val (.int p3), .val (.int (Int32.ofNat n)), .val (.ref cA), .val (.ref aA), .val (.ref r), .val (.int b0), .unset, .unset, .unset, .unset, .unset, .unset] [(.int (0 : Int32))]))
      refine own_up (fun tx kx => XS.istore X12.here hx rfl (hb hby at_229) rfl (l' := #[.val (.int len), .val (.int p0), .val (.int p1), .val (.int p2), .val (.int p3), .val (.int (Int32.ofNat n)), .val (.ref cA), .val (.ref aA), .val (.ref r), .val (.int b0), .val (.int (0 : Int32)), .unset, .unset, .unset, .unset, .unset]) rfl kx) ?_
      show OwnOk p e below _ (T12.setTop (mkF m 231 #[.val (.int len), .val (.int p0), .val (.int p1), .val (.int p2), .val (.int p3), .val (.int (Int32.ofNat n)), .val (.ref cA), .val (.ref aA), .val (.ref r), .val (.int b0), .val (.int (0 : Int32)), .unset, .unset, .unset, .unset, .unset] []))
      exact law_231 l Z a0 hw len p0 p1 p2 p3 n cA aA r u kc ku gg x0 x1 x2 x3 b0 (0 : Int32) 0 0 cz fm hfm hx hby hml hret hlk (X12.mono (Nat.le_of_ble_eq_true rfl) (Nat.le_of_ble_eq_true rfl)) hh12 hZ hown n0 OL N12 hB SC hcz SF E_r F_value_r F_coder_r V_u V_c h4 hse hen hg hb0 (by unfold own_nw; rw [if_pos q1]; exact (if_neg hz).symm)
  · refine own_up (fun tx kx => XS.icmpYes X0.here hx rfl (pc0 := 211) (pc' := 228) rfl (hb hby at_211) rfl (flt hk).2.2.2 (by decide) (by decide) kx) ?_
    show OwnOk p e below _ (T.setTop (mkF m 228 #[.val (.int len), .val (.int p0), .val (.int p1), .val (.int p2), .val (.int p3), .val (.int (Int32.ofNat n)), .val (.ref cA), .val (.ref aA), .val (.ref r), .val (.int b0), .unset, .unset, .unset, .unset, .unset, .unset] []))
    refine own_up (fun tx kx => XS.iconst X0.here hx rfl (hb hby at_228) kx) ?_
    show OwnOk p e below _ (T.setTop (mkF m 229 #[.val (.int len), .val (.int p0), .val (.int p1), .val (.int p2), .val (.int p3), .val (.int (Int32.ofNat n)), .val (.ref cA), .val (.ref aA), .val (.ref r), .val (.int b0), .unset, .unset, .unset, .unset, .unset, .unset] [(.int (0 : Int32))]))
    refine own_up (fun tx kx => XS.istore X0.here hx rfl (hb hby at_229) rfl (l' := #[.val (.int len), .val (.int p0), .val (.int p1), .val (.int p2), .val (.int p3), .val (.int (Int32.ofNat n)), .val (.ref cA), .val (.ref aA), .val (.ref r), .val (.int b0), .val (.int (0 : Int32)), .unset, .unset, .unset, .unset, .unset]) rfl kx) ?_
    show OwnOk p e below _ (T.setTop (mkF m 231 #[.val (.int len), .val (.int p0), .val (.int p1), .val (.int p2), .val (.int p3), .val (.int (Int32.ofNat n)), .val (.ref cA), .val (.ref aA), .val (.ref r), .val (.int b0), .val (.int (0 : Int32)), .unset, .unset, .unset, .unset, .unset] []))
    exact law_231 l Z a0 hw len p0 p1 p2 p3 n cA aA r u kc ku gg x0 x1 x2 x3 b0 (0 : Int32) 0 0 cz fm hfm hx hby hml hret hlk (X0.mono (Nat.le_of_ble_eq_true rfl) (Nat.le_of_ble_eq_true rfl)) e0 hZ hown n0 OL N0 hB SC hcz SF E_r F_value_r F_coder_r V_u V_c h4 hse hen hg hb0 (by unfold own_nw; rw [if_neg (fun q => hk (own_lt (i := 1) q (by omega)))])
set_option maxRecDepth 65536 in
set_option maxHeartbeats 40000000 in
theorem law_186 (l : Launch) (Z : State) (a0 : Array Value) (hw : ∀ d ∈ tables_1, d.before a0 Z = true) (len p0 p1 p2 p3 : Int32) (n : Nat) (cA aA r u : Addr) (kc ku : ClassId) (gg : Nat → Int32) (x0 x1 x2 x3 : Int32) (b0 b1 b2 b3 : Int32) (cz : Int32) (fm : Value) (hfm : fm.isRef = true) {p : Program} {e : Env} {s s' : State} {m : MethodId} {below : List Frame} {meth : Method} {c : Code} {T : State} (hx : p.tables.exec = Jvm.exec) (hby : c.code = code) (hml : c.maxLocals = 16) (hret : meth.sig.returnType = ret) (hlk : meth.locks = false) {locs : List Loc} (X0 : Stand p l e room_1 s' m #[(.int len), (.int p0), (.int p1), (.int p2), (.int p3)] below meth c T locs 14 300) {h0 : Heap} (e0 : T.heap = h0) (hZ : Z.Warmed39 s'.vm) (hown : s'.vm.findClass "com/example/strict_replay/strictreplay/rules/FieldValuesTrimPinLaw" = some m.cls) (n0 : Nat) (OL : Old Z n0 h0) (N0 : Fr n0 locs) (hB : own_FrH Z own_EL s s' h0) (SC : Sta Z Z.heap "java/lang/String" "COMPACT_STRINGS" "Z" (.int cz)) (hcz : ¬ cz = 0) (SF : Sta Z Z.heap "jdk/internal/util/Preconditions" "SIOOBE_FORMATTER" "Ljava/util/function/BiFunction;" fm) (E_r : Exa Z h0 r "java/lang/String") (F_value_r : Fld Z h0 r "java/lang/String" "value" "[B" (.ref u)) (F_coder_r : Fld Z h0 r "java/lang/String" "coder" "B" (.int (0 : Int32))) (V_u : Arv Z h0 u ku .byte (Int32.ofNat (own_te n (fun j => [x0, x1, x2, x3].getD j 0) - own_ts n (fun j => [x0, x1, x2, x3].getD j 0))) (own_F (own_te n (fun j => [x0, x1, x2, x3].getD j 0) - own_ts n (fun j => [x0, x1, x2, x3].getD j 0)) gg) (.int (0 : Int32))) (V_c : Arv Z h0 cA kc .char (4 : Int32) [(.int x0), (.int x1), (.int x2), (.int x3)] (.int (0 : Int32))) (h4 : n ≤ 4) (hse : (own_ts n (fun j => [x0, x1, x2, x3].getD j 0)) ≤ (own_te n (fun j => [x0, x1, x2, x3].getD j 0))) (hen : (own_te n (fun j => [x0, x1, x2, x3].getD j 0)) ≤ n) (hg : ∀ j, j < (own_te n (fun j => [x0, x1, x2, x3].getD j 0) - own_ts n (fun j => [x0, x1, x2, x3].getD j 0)) → own_c8 (gg j) = [x0, x1, x2, x3].getD ((own_ts n (fun j => [x0, x1, x2, x3].getD j 0)) + j) 0) :
    OwnOk p e below (own_KH Z own_EL s (Q_rm0 n0) room_1.cells room_1.slots) (T.setTop (mkF m 186 #[.val (.int len), .val (.int p0), .val (.int p1), .val (.int p2), .val (.int p3), .val (.int (Int32.ofNat n)), .val (.ref cA), .val (.ref aA), .val (.ref r), .unset, .unset, .unset, .unset, .unset, .unset, .unset] [])) := by
  have Z0 : n0 ≤ h0.size := OL.1 ▸ OL.2.1
  show OwnOk p e below _ (T.setTop (mkF m 186 #[.val (.int len), .val (.int p0), .val (.int p1), .val (.int p2), .val (.int p3), .val (.int (Int32.ofNat n)), .val (.ref cA), .val (.ref aA), .val (.ref r), .unset, .unset, .unset, .unset, .unset, .unset, .unset] []))
  refine own_up (fun tx kx => XS.iload X0.here hx rfl (hb hby at_186) rfl kx) ?_
  show OwnOk p e below _ (T.setTop (mkF m 188 #[.val (.int len), .val (.int p0), .val (.int p1), .val (.int p2), .val (.int p3), .val (.int (Int32.ofNat n)), .val (.ref cA), .val (.ref aA), .val (.ref r), .unset, .unset, .unset, .unset, .unset, .unset, .unset] [(.int (Int32.ofNat n))]))
  by_cases hk : (0 : Int32) < (Int32.ofNat n)
  · refine own_up (fun tx kx => XS.ifNo X0.here hx rfl (hb hby at_188) rfl ((if0 _ _).trans (tlt hk).2.2.2) kx) ?_
    show OwnOk p e below _ (T.setTop (mkF m 191 #[.val (.int len), .val (.int p0), .val (.int p1), .val (.int p2), .val (.int p3), .val (.int (Int32.ofNat n)), .val (.ref cA), .val (.ref aA), .val (.ref r), .unset, .unset, .unset, .unset, .unset, .unset, .unset] []))
    have q1 : 0 < n := Nat.lt_of_not_le fun q => own_nlt (n := 0) q (by decide) hk
    refine own_up (fun tx kx => XS.aload X0.here hx rfl (hb hby at_191) rfl rfl kx) ?_
    show OwnOk p e below _ (T.setTop (mkF m 193 #[.val (.int len), .val (.int p0), .val (.int p1), .val (.int p2), .val (.int p3), .val (.int (Int32.ofNat n)), .val (.ref cA), .val (.ref aA), .val (.ref r), .unset, .unset, .unset, .unset, .unset, .unset, .unset] [(.ref cA)]))
    refine own_up (fun tx kx => XS.iconst X0.here hx rfl (hb hby at_193) kx) ?_
    show OwnOk p e below _ (T.setTop (mkF m 194 #[.val (.int len), .val (.int p0), .val (.int p1), .val (.int p2), .val (.int p3), .val (.int (Int32.ofNat n)), .val (.ref cA), .val (.ref aA), .val (.ref r), .unset, .unset, .unset, .unset, .unset, .unset, .unset] [(.int (0 : Int32)), (.ref cA)]))
    obtain ⟨cl11, Ar11, qc11, Sz11, Nn11, Hs11, Gf11⟩ := id V_c
    have hin11 : ¬ ((0 : Int32) < 0 ∨ cl11.slots.size ≤ ((0 : Int32)).toNatClampNeg) := inb_of Sz11 ⟨by decide, by decide⟩
    have hat11 : cl11.slots[((0 : Int32)).toNatClampNeg]? = some (.int x0) := Hs11.at hin11 rfl
    refine own_up (fun tx kx => X0.caload hx (j := (0 : Int32)) (v := (.int x0)) (own_ar e0 Ar11.1) (State.isArrayOf_alike hZ.alike Ar11.2.1) Ar11.2.2 hin11 hat11 (g := (mkF m 194 #[.val (.int len), .val (.int p0), .val (.int p1), .val (.int p2), .val (.int p3), .val (.int (Int32.ofNat n)), .val (.ref cA), .val (.ref aA), .val (.ref r), .unset, .unset, .unset, .unset, .unset, .unset, .unset] [(.int (0 : Int32)), (.ref cA)])) rfl rfl (hb hby at_194) _ kx) ?_
    show OwnOk p e below _ (T.setTop (mkF m 195 #[.val (.int len), .val (.int p0), .val (.int p1), .val (.int p2), .val (.int p3), .val (.int (Int32.ofNat n)), .val (.ref cA), .val (.ref aA), .val (.ref r), .unset, .unset, .unset, .unset, .unset, .unset, .unset] [(.int x0)]))
    refine own_callS X0 hx hZ (y := (⟨"com/example/strict_replay/strictreplay/rules/FieldValuesTrimPinLaw", "ws", "(C)Z"⟩ : MethodName)) hown (wd_118 hw) (wd_119 hw) (wd_4 hw) (wd_120 hw) (by decide) (m_ws l Z a0 hw x0 h0 n0 OL) e0 (argsL := [(.int x0)]) (rest := []) (by rw [hml]; rfl) (lenOf pd_18 rfl) rfl rfl (W := 0) rfl (hb hby at_195) (by decide) (by decide) (by decide) (by decide) (fun T12 v12 L12 X12 hQ12 => ?_)
    obtain ⟨rfl, Nq12, hh12⟩ := hQ12
    have N12 := Fr.app N0 Nq12
    show OwnOk p e below _ (T12.setTop (mkF m 198 #[.val (.int len), .val (.int p0), .val (.int p1), .val (.int p2), .val (.int p3), .val (.int (Int32.ofNat n)), .val (.ref cA), .val (.ref aA), .val (.ref r), .unset, .unset, .unset, .unset, .unset, .unset, .unset] [(.int (own_ws x0))]))
    by_cases hz : (own_ws x0) = (0 : Int32)
    · refine own_up (fun tx kx => XS.ifNo X12.here hx rfl (hb hby at_198) rfl ((if0 _ _).trans (teq hz).2) kx) ?_
      show OwnOk p e below _ (T12.setTop (mkF m 201 #[.val (.int len), .val (.int p0), .val (.int p1), .val (.int p2), .val (.int p3), .val (.int (Int32.ofNat n)), .val (.ref cA), .val (.ref aA), .val (.ref r), .unset, .unset, .unset, .unset, .unset, .unset, .unset] []))
      refine own_up (fun tx kx => XS.iconst X12.here hx rfl (hb hby at_201) kx) ?_
      show OwnOk p e below _ (T12.setTop (mkF m 202 #[.val (.int len), .val (.int p0), .val (.int p1), .val (.int p2), .val (.int p3), .val (.int (Int32.ofNat n)), .val (.ref cA), .val (.ref aA), .val (.ref r), .unset, .unset, .unset, .unset, .unset, .unset, .unset] [(.int (1 : Int32))]))
      refine own_up (fun tx kx => XS.goto X12.here hx rfl (pc0 := 202) (pc' := 206) rfl (hb hby at_202) (by decide) (by decide) kx) ?_
      show OwnOk p e below _ (T12.setTop (mkF m 206 #[.val (.int len), .val (.int p0), .val (.int p1), .val (.int p2), .val (.int p3), .val (.int (Int32.ofNat n)), .val (.ref cA), .val (.ref aA), .val (.ref r), .unset, .unset, .unset, .unset, .unset, .unset, .unset] [(.int (1 : Int32))]))
      refine own_up (fun tx kx => XS.istore X12.here hx rfl (hb hby at_206) rfl (l' := #[.val (.int len), .val (.int p0), .val (.int p1), .val (.int p2), .val (.int p3), .val (.int (Int32.ofNat n)), .val (.ref cA), .val (.ref aA), .val (.ref r), .val (.int (1 : Int32)), .unset, .unset, .unset, .unset, .unset, .unset]) rfl kx) ?_
      show OwnOk p e below _ (T12.setTop (mkF m 208 #[.val (.int len), .val (.int p0), .val (.int p1), .val (.int p2), .val (.int p3), .val (.int (Int32.ofNat n)), .val (.ref cA), .val (.ref aA), .val (.ref r), .val (.int (1 : Int32)), .unset, .unset, .unset, .unset, .unset, .unset] []))
      exact law_208 l Z a0 hw len p0 p1 p2 p3 n cA aA r u kc ku gg x0 x1 x2 x3 (1 : Int32) 0 0 0 cz fm hfm hx hby hml hret hlk (X12.mono (Nat.le_of_ble_eq_true rfl) (Nat.le_of_ble_eq_true rfl)) hh12 hZ hown n0 OL N12 hB SC hcz SF E_r F_value_r F_coder_r V_u V_c h4 hse hen hg (by unfold own_nw; rw [if_pos q1]; exact (if_pos hz).symm)
    · refine own_up (fun tx kx => XS.ifYes X12.here hx rfl (pc0 := 198) (pc' := 205) rfl (hb hby at_198) rfl ((if0 _ _).trans (feq hz).2) (by decide) (by decide) kx) ?_
      show OwnOk p e below _ (T12.setTop (mkF m 205 #[.val (.int len), .val (.int p0), .val (.int p1), .val (.int p2), .val (.int p3), .val (.int (Int32.ofNat n)), .val (.ref cA), .val (.ref aA), .val (.ref r), .unset, .unset, .unset, .unset, .unset, .unset, .unset] []))
      refine own_up (fun tx kx => XS.iconst X12.here hx rfl (hb hby at_205) kx) ?_
      show OwnOk p e below _ (T12.setTop (mkF m 206 #[.val (.int len), .val (.int p0), .val (.int p1), .val (.int p2), .val (.int p3), .val (.int (Int32.ofNat n)), .val (.ref cA), .val (.ref aA), .val (.ref r), .unset, .unset, .unset, .unset, .unset, .unset, .unset] [(.int (0 : Int32))]))
      refine own_up (fun tx kx => XS.istore X12.here hx rfl (hb hby at_206) rfl (l' := #[.val (.int len), .val (.int p0), .val (.int p1), .val (.int p2), .val (.int p3), .val (.int (Int32.ofNat n)), .val (.ref cA), .val (.ref aA), .val (.ref r), .val (.int (0 : Int32)), .unset, .unset, .unset, .unset, .unset, .unset]) rfl kx) ?_
      show OwnOk p e below _ (T12.setTop (mkF m 208 #[.val (.int len), .val (.int p0), .val (.int p1), .val (.int p2), .val (.int p3), .val (.int (Int32.ofNat n)), .val (.ref cA), .val (.ref aA), .val (.ref r), .val (.int (0 : Int32)), .unset, .unset, .unset, .unset, .unset, .unset] []))
      exact law_208 l Z a0 hw len p0 p1 p2 p3 n cA aA r u kc ku gg x0 x1 x2 x3 (0 : Int32) 0 0 0 cz fm hfm hx hby hml hret hlk (X12.mono (Nat.le_of_ble_eq_true rfl) (Nat.le_of_ble_eq_true rfl)) hh12 hZ hown n0 OL N12 hB SC hcz SF E_r F_value_r F_coder_r V_u V_c h4 hse hen hg (by unfold own_nw; rw [if_pos q1]; exact (if_neg hz).symm)
  · refine own_up (fun tx kx => XS.ifYes X0.here hx rfl (pc0 := 188) (pc' := 205) rfl (hb hby at_188) rfl ((if0 _ _).trans (flt hk).2.2.2) (by decide) (by decide) kx) ?_
    show OwnOk p e below _ (T.setTop (mkF m 205 #[.val (.int len), .val (.int p0), .val (.int p1), .val (.int p2), .val (.int p3), .val (.int (Int32.ofNat n)), .val (.ref cA), .val (.ref aA), .val (.ref r), .unset, .unset, .unset, .unset, .unset, .unset, .unset] []))
    refine own_up (fun tx kx => XS.iconst X0.here hx rfl (hb hby at_205) kx) ?_
    show OwnOk p e below _ (T.setTop (mkF m 206 #[.val (.int len), .val (.int p0), .val (.int p1), .val (.int p2), .val (.int p3), .val (.int (Int32.ofNat n)), .val (.ref cA), .val (.ref aA), .val (.ref r), .unset, .unset, .unset, .unset, .unset, .unset, .unset] [(.int (0 : Int32))]))
    refine own_up (fun tx kx => XS.istore X0.here hx rfl (hb hby at_206) rfl (l' := #[.val (.int len), .val (.int p0), .val (.int p1), .val (.int p2), .val (.int p3), .val (.int (Int32.ofNat n)), .val (.ref cA), .val (.ref aA), .val (.ref r), .val (.int (0 : Int32)), .unset, .unset, .unset, .unset, .unset, .unset]) rfl kx) ?_
    show OwnOk p e below _ (T.setTop (mkF m 208 #[.val (.int len), .val (.int p0), .val (.int p1), .val (.int p2), .val (.int p3), .val (.int (Int32.ofNat n)), .val (.ref cA), .val (.ref aA), .val (.ref r), .val (.int (0 : Int32)), .unset, .unset, .unset, .unset, .unset, .unset] []))
    exact law_208 l Z a0 hw len p0 p1 p2 p3 n cA aA r u kc ku gg x0 x1 x2 x3 (0 : Int32) 0 0 0 cz fm hfm hx hby hml hret hlk (X0.mono (Nat.le_of_ble_eq_true rfl) (Nat.le_of_ble_eq_true rfl)) e0 hZ hown n0 OL N0 hB SC hcz SF E_r F_value_r F_coder_r V_u V_c h4 hse hen hg (by unfold own_nw; rw [if_neg (fun q => hk (own_lt (i := 0) q (by omega)))])
set_option maxRecDepth 65536 in
set_option maxHeartbeats 40000000 in
theorem rm0 (l : Launch) (Z : State) (a0 : Array Value) (hw : ∀ d ∈ tables_1, d.before a0 Z = true) (len p0 p1 p2 p3 : Int32) (cz : Int32) (fm : Value) (hfm : fm.isRef = true) (h0 : Heap) (n0 : Nat) (OL : Old Z n0 h0) (SC : Sta Z Z.heap "java/lang/String" "COMPACT_STRINGS" "Z" (.int cz)) (hcz : ¬ cz = 0) (SF : Sta Z Z.heap "jdk/internal/util/Preconditions" "SIOOBE_FORMATTER" "Ljava/util/function/BiFunction;" fm) :
    own_MetH l Z own_EL [] Jvm.Pilot.@@N@@.x code maxLocals ret room_1 #[(.int len), (.int p0), (.int p1), (.int p2), (.int p3)] h0 (Q_rm0 n0) := by
  refine own_bodyH (L0 := #[.val (.int len), .val (.int p0), .val (.int p1), .val (.int p2), .val (.int p3), .unset, .unset, .unset, .unset, .unset, .unset, .unset, .unset, .unset, .unset, .unset]) (plainFor_of_name (by first | (simp [plainName, overriddenIn]; done) | decide +kernel)) (fun m => by first | (simp [entryFrame, mkF, argsToLocals, Value.category, maxLocals]; done) | rfl) ?_
  intro p e s m below meth c s₁ hx hby hml hZ hown hnm hret hlk X0 e0 hB hsf
  have hml : c.maxLocals = 16 := hml
  have N0 := Fr.nil n0
  have Z0 : n0 ≤ h0.size := OL.1 ▸ OL.2.1
  show OwnOk p e below _ (s₁.setTop (mkF m 0 #[.val (.int len), .val (.int p0), .val (.int p1), .val (.int p2), .val (.int p3), .unset, .unset, .unset, .unset, .unset, .unset, .unset, .unset, .unset, .unset, .unset] []))
  refine own_up (fun tx kx => XS.iloadN X0.here hx rfl (hb hby at_0) rfl kx) ?_
  show OwnOk p e below _ (s₁.setTop (mkF m 1 #[.val (.int len), .val (.int p0), .val (.int p1), .val (.int p2), .val (.int p3), .unset, .unset, .unset, .unset, .unset, .unset, .unset, .unset, .unset, .unset, .unset] [(.int len)]))
  refine own_up (fun tx kx => X0.ldcInt hx hown (mvT hZ (wd_0 hw)) (g := (mkF m 1 #[.val (.int len), .val (.int p0), .val (.int p1), .val (.int p2), .val (.int p3), .unset, .unset, .unset, .unset, .unset, .unset, .unset, .unset, .unset, .unset, .unset] [(.int len)])) rfl (hb hby at_1) _ kx) ?_
  show OwnOk p e below _ (s₁.setTop (mkF m 3 #[.val (.int len), .val (.int p0), .val (.int p1), .val (.int p2), .val (.int p3), .unset, .unset, .unset, .unset, .unset, .unset, .unset, .unset, .unset, .unset, .unset] [(.int (2147483647 : Int32)), (.int len)]))
  refine own_up (fun tx kx => XS.iand X0.here hx rfl (hb hby at_3) rfl kx) ?_
  show OwnOk p e below _ (s₁.setTop (mkF m 4 #[.val (.int len), .val (.int p0), .val (.int p1), .val (.int p2), .val (.int p3), .unset, .unset, .unset, .unset, .unset, .unset, .unset, .unset, .unset, .unset, .unset] [(.int (len &&& (2147483647 : Int32)))]))
  refine own_up (fun tx kx => XS.iconst X0.here hx rfl (hb hby at_4) kx) ?_
  show OwnOk p e below _ (s₁.setTop (mkF m 5 #[.val (.int len), .val (.int p0), .val (.int p1), .val (.int p2), .val (.int p3), .unset, .unset, .unset, .unset, .unset, .unset, .unset, .unset, .unset, .unset, .unset] [(.int (5 : Int32)), (.int (len &&& (2147483647 : Int32)))]))
  refine own_up (fun tx kx => Jvm.RoadKit.iremM (g := (mkF m 5 #[.val (.int len), .val (.int p0), .val (.int p1), .val (.int p2), .val (.int p3), .unset, .unset, .unset, .unset, .unset, .unset, .unset, .unset, .unset, .unset, .unset] [(.int (5 : Int32)), (.int (len &&& (2147483647 : Int32)))])) X0 hx rfl (hb hby at_5) rfl (by decide) kx) ?_
  show OwnOk p e below _ (s₁.setTop (mkF m 6 #[.val (.int len), .val (.int p0), .val (.int p1), .val (.int p2), .val (.int p3), .unset, .unset, .unset, .unset, .unset, .unset, .unset, .unset, .unset, .unset, .unset] [(.int ((len &&& (2147483647 : Int32)) % (5 : Int32)))]))
  obtain ⟨n, hn, en⟩ := own_idx len 5 (by decide) (by decide)
  have en : (len &&& (2147483647 : Int32)) % (5 : Int32) = Int32.ofNat n := en
  rw [show ((len &&& (2147483647 : Int32)) % (5 : Int32)) = (Int32.ofNat n) from en]
  show OwnOk p e below _ (s₁.setTop (mkF m 6 #[.val (.int len), .val (.int p0), .val (.int p1), .val (.int p2), .val (.int p3), .unset, .unset, .unset, .unset, .unset, .unset, .unset, .unset, .unset, .unset, .unset] [(.int (Int32.ofNat n))]))
  refine own_up (fun tx kx => XS.istore X0.here hx rfl (hb hby at_6) rfl (l' := #[.val (.int len), .val (.int p0), .val (.int p1), .val (.int p2), .val (.int p3), .val (.int (Int32.ofNat n)), .unset, .unset, .unset, .unset, .unset, .unset, .unset, .unset, .unset, .unset]) rfl kx) ?_
  show OwnOk p e below _ (s₁.setTop (mkF m 8 #[.val (.int len), .val (.int p0), .val (.int p1), .val (.int p2), .val (.int p3), .val (.int (Int32.ofNat n)), .unset, .unset, .unset, .unset, .unset, .unset, .unset, .unset, .unset, .unset] []))
  refine own_up (fun tx kx => XS.iconst X0.here hx rfl (hb hby at_8) kx) ?_
  show OwnOk p e below _ (s₁.setTop (mkF m 9 #[.val (.int len), .val (.int p0), .val (.int p1), .val (.int p2), .val (.int p3), .val (.int (Int32.ofNat n)), .unset, .unset, .unset, .unset, .unset, .unset, .unset, .unset, .unset, .unset] [(.int (4 : Int32))]))
  obtain ⟨T11, h11, k11, X11, e11, E11, A11, st11⟩ := newP (aty := .char) X0 hx hZ (wd_1 hw) e0 (g := (mkF m 9 #[.val (.int len), .val (.int p0), .val (.int p1), .val (.int p2), .val (.int p3), .val (.int (Int32.ofNat n)), .unset, .unset, .unset, .unset, .unset, .unset, .unset, .unset, .unset, .unset] [(.int (4 : Int32))])) rfl (hb hby at_9) rfl (by decide) (cap := 4) (by decide) (by decide) (by decide) (by decide)
  obtain ⟨b11, g11⟩ : ∃ z, z = h0.size := ⟨_, rfl⟩
  rw [← g11] at A11 st11
  have sz_b11 : h0.size ≤ b11 := Nat.le_of_eq g11.symm
  have n0_b11 : n0 ≤ b11 := Nat.le_trans (own_n0 OL) sz_b11
  have V_b11 : Arv Z h11 b11 k11 .char (4 : Int32) [(.int (0 : Int32)), (.int (0 : Int32)), (.int (0 : Int32)), (.int (0 : Int32))] (.int (0 : Int32)) := (Arv.new A11 (by decide)).pad (pad_rep [] (.int (0 : Int32)) 4)
  have OL13 := OL.ext E11
  have hB13 := hB.ext E11
  refine own_up st11 ?_
  show OwnOk p e below _ (T11.setTop (mkF m 11 #[.val (.int len), .val (.int p0), .val (.int p1), .val (.int p2), .val (.int p3), .val (.int (Int32.ofNat n)), .unset, .unset, .unset, .unset, .unset, .unset, .unset, .unset, .unset, .unset] [(.ref b11)]))
  refine own_up (fun tx kx => XS.dup X11.here hx rfl (hb hby at_11) rfl rfl kx) ?_
  show OwnOk p e below _ (T11.setTop (mkF m 12 #[.val (.int len), .val (.int p0), .val (.int p1), .val (.int p2), .val (.int p3), .val (.int (Int32.ofNat n)), .unset, .unset, .unset, .unset, .unset, .unset, .unset, .unset, .unset, .unset] [(.ref b11), (.ref b11)]))
  refine own_up (fun tx kx => XS.iconst X11.here hx rfl (hb hby at_12) kx) ?_
  show OwnOk p e below _ (T11.setTop (mkF m 13 #[.val (.int len), .val (.int p0), .val (.int p1), .val (.int p2), .val (.int p3), .val (.int (Int32.ofNat n)), .unset, .unset, .unset, .unset, .unset, .unset, .unset, .unset, .unset, .unset] [(.int (0 : Int32)), (.ref b11), (.ref b11)]))
  refine own_up (fun tx kx => XS.iloadN X11.here hx rfl (hb hby at_13) rfl kx) ?_
  show OwnOk p e below _ (T11.setTop (mkF m 14 #[.val (.int len), .val (.int p0), .val (.int p1), .val (.int p2), .val (.int p3), .val (.int (Int32.ofNat n)), .unset, .unset, .unset, .unset, .unset, .unset, .unset, .unset, .unset, .unset] [(.int p0), (.int (0 : Int32)), (.ref b11), (.ref b11)]))
  refine own_callS X11 hx hZ (y := (⟨"com/example/strict_replay/strictreplay/rules/FieldValuesTrimPinLaw", "draw", "(I)C"⟩ : MethodName)) hown (wd_2 hw) (wd_3 hw) (wd_4 hw) (wd_5 hw) (by decide) (m_draw l Z a0 hw p0 h11 n0 OL13) e11 (argsL := [(.int p0)]) (rest := [(.int (0 : Int32)), (.ref b11), (.ref b11)]) (by rw [hml]; rfl) (lenOf pd_17 rfl) rfl rfl (W := 3) rfl (hb hby at_14) (by decide) (by decide) (by decide) (by decide) (fun T14 v14 L14 X14 hQ14 => ?_)
  obtain ⟨cc14, rfl, hc14, Nq14, hh14⟩ := hQ14
  have N14 := Fr.app N0 Nq14
  show OwnOk p e below _ (T14.setTop (mkF m 17 #[.val (.int len), .val (.int p0), .val (.int p1), .val (.int p2), .val (.int p3), .val (.int (Int32.ofNat n)), .unset, .unset, .unset, .unset, .unset, .unset, .unset, .unset, .unset, .unset] [(.int cc14), (.int (0 : Int32)), (.ref b11), (.ref b11)]))
  obtain ⟨cl15, Ar15, qc15, Sz15, Nn15, Hs15, Gf15⟩ := id V_b11
  have hin15 : ¬ ((0 : Int32) < 0 ∨ cl15.slots.size ≤ ((0 : Int32)).toNatClampNeg) := inb_of Sz15 ⟨by decide, by decide⟩
  obtain ⟨T16, h16, X16, e16, W16, st16⟩ := stC X14 hx hZ hh14 Ar15 (j := (0 : Int32)) hin15 (g := (mkF m 17 #[.val (.int len), .val (.int p0), .val (.int p1), .val (.int p2), .val (.int p3), .val (.int (Int32.ofNat n)), .unset, .unset, .unset, .unset, .unset, .unset, .unset, .unset, .unset, .unset] [(.int cc14), (.int (0 : Int32)), (.ref b11), (.ref b11)])) rfl rfl (hb hby at_17)
  have V_b11_16 : Arv Z h16 b11 k11 .char (4 : Int32) [(.int (nar .char cc14)), (.int (0 : Int32)), (.int (0 : Int32)), (.int (0 : Int32))] (.int (0 : Int32)) := Arv.set Ar15 qc15 Sz15 Nn15 Hs15 Gf15 (fits_nar_char _) W16 0 rfl (Nat.le_of_ble_eq_true rfl)
  have N16 := Fr.snoc X16 N14 n0_b11
  have OL17 := OL13.wr W16 n0_b11
  have hB17 := hB13.wr W16 (Safe.arr hZ.alike Ar15 (by decide))
  refine own_up st16 ?_
  show OwnOk p e below _ (T16.setTop (mkF m 18 #[.val (.int len), .val (.int p0), .val (.int p1), .val (.int p2), .val (.int p3), .val (.int (Int32.ofNat n)), .unset, .unset, .unset, .unset, .unset, .unset, .unset, .unset, .unset, .unset] [(.ref b11)]))
  refine own_up (fun tx kx => XS.dup X16.here hx rfl (hb hby at_18) rfl rfl kx) ?_
  show OwnOk p e below _ (T16.setTop (mkF m 19 #[.val (.int len), .val (.int p0), .val (.int p1), .val (.int p2), .val (.int p3), .val (.int (Int32.ofNat n)), .unset, .unset, .unset, .unset, .unset, .unset, .unset, .unset, .unset, .unset] [(.ref b11), (.ref b11)]))
  refine own_up (fun tx kx => XS.iconst X16.here hx rfl (hb hby at_19) kx) ?_
  show OwnOk p e below _ (T16.setTop (mkF m 20 #[.val (.int len), .val (.int p0), .val (.int p1), .val (.int p2), .val (.int p3), .val (.int (Int32.ofNat n)), .unset, .unset, .unset, .unset, .unset, .unset, .unset, .unset, .unset, .unset] [(.int (1 : Int32)), (.ref b11), (.ref b11)]))
  refine own_up (fun tx kx => XS.iloadN X16.here hx rfl (hb hby at_20) rfl kx) ?_
  show OwnOk p e below _ (T16.setTop (mkF m 21 #[.val (.int len), .val (.int p0), .val (.int p1), .val (.int p2), .val (.int p3), .val (.int (Int32.ofNat n)), .unset, .unset, .unset, .unset, .unset, .unset, .unset, .unset, .unset, .unset] [(.int p1), (.int (1 : Int32)), (.ref b11), (.ref b11)]))
  refine own_callS X16 hx hZ (y := (⟨"com/example/strict_replay/strictreplay/rules/FieldValuesTrimPinLaw", "draw", "(I)C"⟩ : MethodName)) hown (wd_2 hw) (wd_3 hw) (wd_4 hw) (wd_5 hw) (by decide) (m_draw l Z a0 hw p1 h16 n0 OL17) e16 (argsL := [(.int p1)]) (rest := [(.int (1 : Int32)), (.ref b11), (.ref b11)]) (by rw [hml]; rfl) (lenOf pd_17 rfl) rfl rfl (W := 3) rfl (hb hby at_21) (by decide) (by decide) (by decide) (by decide) (fun T18 v18 L18 X18 hQ18 => ?_)
  obtain ⟨cc18, rfl, hc18, Nq18, hh18⟩ := hQ18
  have N18 := Fr.app N16 Nq18
  show OwnOk p e below _ (T18.setTop (mkF m 24 #[.val (.int len), .val (.int p0), .val (.int p1), .val (.int p2), .val (.int p3), .val (.int (Int32.ofNat n)), .unset, .unset, .unset, .unset, .unset, .unset, .unset, .unset, .unset, .unset] [(.int cc18), (.int (1 : Int32)), (.ref b11), (.ref b11)]))
  obtain ⟨cl19, Ar19, qc19, Sz19, Nn19, Hs19, Gf19⟩ := id V_b11_16
  have hin19 : ¬ ((1 : Int32) < 0 ∨ cl19.slots.size ≤ ((1 : Int32)).toNatClampNeg) := inb_of Sz19 ⟨by decide, by decide⟩
  obtain ⟨T20, h20, X20, e20, W20, st20⟩ := stC X18 hx hZ hh18 Ar19 (j := (1 : Int32)) hin19 (g := (mkF m 24 #[.val (.int len), .val (.int p0), .val (.int p1), .val (.int p2), .val (.int p3), .val (.int (Int32.ofNat n)), .unset, .unset, .unset, .unset, .unset, .unset, .unset, .unset, .unset, .unset] [(.int cc18), (.int (1 : Int32)), (.ref b11), (.ref b11)])) rfl rfl (hb hby at_24)
  have V_b11_20 : Arv Z h20 b11 k11 .char (4 : Int32) [(.int (nar .char cc14)), (.int (nar .char cc18)), (.int (0 : Int32)), (.int (0 : Int32))] (.int (0 : Int32)) := Arv.set Ar19 qc19 Sz19 Nn19 Hs19 Gf19 (fits_nar_char _) W20 1 rfl (Nat.le_of_ble_eq_true rfl)
  have N20 := Fr.snoc X20 N18 n0_b11
  have OL21 := OL17.wr W20 n0_b11
  have hB21 := hB17.wr W20 (Safe.arr hZ.alike Ar19 (by decide))
  refine own_up st20 ?_
  show OwnOk p e below _ (T20.setTop (mkF m 25 #[.val (.int len), .val (.int p0), .val (.int p1), .val (.int p2), .val (.int p3), .val (.int (Int32.ofNat n)), .unset, .unset, .unset, .unset, .unset, .unset, .unset, .unset, .unset, .unset] [(.ref b11)]))
  refine own_up (fun tx kx => XS.dup X20.here hx rfl (hb hby at_25) rfl rfl kx) ?_
  show OwnOk p e below _ (T20.setTop (mkF m 26 #[.val (.int len), .val (.int p0), .val (.int p1), .val (.int p2), .val (.int p3), .val (.int (Int32.ofNat n)), .unset, .unset, .unset, .unset, .unset, .unset, .unset, .unset, .unset, .unset] [(.ref b11), (.ref b11)]))
  refine own_up (fun tx kx => XS.iconst X20.here hx rfl (hb hby at_26) kx) ?_
  show OwnOk p e below _ (T20.setTop (mkF m 27 #[.val (.int len), .val (.int p0), .val (.int p1), .val (.int p2), .val (.int p3), .val (.int (Int32.ofNat n)), .unset, .unset, .unset, .unset, .unset, .unset, .unset, .unset, .unset, .unset] [(.int (2 : Int32)), (.ref b11), (.ref b11)]))
  refine own_up (fun tx kx => XS.iloadN X20.here hx rfl (hb hby at_27) rfl kx) ?_
  show OwnOk p e below _ (T20.setTop (mkF m 28 #[.val (.int len), .val (.int p0), .val (.int p1), .val (.int p2), .val (.int p3), .val (.int (Int32.ofNat n)), .unset, .unset, .unset, .unset, .unset, .unset, .unset, .unset, .unset, .unset] [(.int p2), (.int (2 : Int32)), (.ref b11), (.ref b11)]))
  refine own_callS X20 hx hZ (y := (⟨"com/example/strict_replay/strictreplay/rules/FieldValuesTrimPinLaw", "draw", "(I)C"⟩ : MethodName)) hown (wd_2 hw) (wd_3 hw) (wd_4 hw) (wd_5 hw) (by decide) (m_draw l Z a0 hw p2 h20 n0 OL21) e20 (argsL := [(.int p2)]) (rest := [(.int (2 : Int32)), (.ref b11), (.ref b11)]) (by rw [hml]; rfl) (lenOf pd_17 rfl) rfl rfl (W := 3) rfl (hb hby at_28) (by decide) (by decide) (by decide) (by decide) (fun T22 v22 L22 X22 hQ22 => ?_)
  obtain ⟨cc22, rfl, hc22, Nq22, hh22⟩ := hQ22
  have N22 := Fr.app N20 Nq22
  show OwnOk p e below _ (T22.setTop (mkF m 31 #[.val (.int len), .val (.int p0), .val (.int p1), .val (.int p2), .val (.int p3), .val (.int (Int32.ofNat n)), .unset, .unset, .unset, .unset, .unset, .unset, .unset, .unset, .unset, .unset] [(.int cc22), (.int (2 : Int32)), (.ref b11), (.ref b11)]))
  obtain ⟨cl23, Ar23, qc23, Sz23, Nn23, Hs23, Gf23⟩ := id V_b11_20
  have hin23 : ¬ ((2 : Int32) < 0 ∨ cl23.slots.size ≤ ((2 : Int32)).toNatClampNeg) := inb_of Sz23 ⟨by decide, by decide⟩
  obtain ⟨T24, h24, X24, e24, W24, st24⟩ := stC X22 hx hZ hh22 Ar23 (j := (2 : Int32)) hin23 (g := (mkF m 31 #[.val (.int len), .val (.int p0), .val (.int p1), .val (.int p2), .val (.int p3), .val (.int (Int32.ofNat n)), .unset, .unset, .unset, .unset, .unset, .unset, .unset, .unset, .unset, .unset] [(.int cc22), (.int (2 : Int32)), (.ref b11), (.ref b11)])) rfl rfl (hb hby at_31)
  have V_b11_24 : Arv Z h24 b11 k11 .char (4 : Int32) [(.int (nar .char cc14)), (.int (nar .char cc18)), (.int (nar .char cc22)), (.int (0 : Int32))] (.int (0 : Int32)) := Arv.set Ar23 qc23 Sz23 Nn23 Hs23 Gf23 (fits_nar_char _) W24 2 rfl (Nat.le_of_ble_eq_true rfl)
  have N24 := Fr.snoc X24 N22 n0_b11
  have OL25 := OL21.wr W24 n0_b11
  have hB25 := hB21.wr W24 (Safe.arr hZ.alike Ar23 (by decide))
  refine own_up st24 ?_
  show OwnOk p e below _ (T24.setTop (mkF m 32 #[.val (.int len), .val (.int p0), .val (.int p1), .val (.int p2), .val (.int p3), .val (.int (Int32.ofNat n)), .unset, .unset, .unset, .unset, .unset, .unset, .unset, .unset, .unset, .unset] [(.ref b11)]))
  refine own_up (fun tx kx => XS.dup X24.here hx rfl (hb hby at_32) rfl rfl kx) ?_
  show OwnOk p e below _ (T24.setTop (mkF m 33 #[.val (.int len), .val (.int p0), .val (.int p1), .val (.int p2), .val (.int p3), .val (.int (Int32.ofNat n)), .unset, .unset, .unset, .unset, .unset, .unset, .unset, .unset, .unset, .unset] [(.ref b11), (.ref b11)]))
  refine own_up (fun tx kx => XS.iconst X24.here hx rfl (hb hby at_33) kx) ?_
  show OwnOk p e below _ (T24.setTop (mkF m 34 #[.val (.int len), .val (.int p0), .val (.int p1), .val (.int p2), .val (.int p3), .val (.int (Int32.ofNat n)), .unset, .unset, .unset, .unset, .unset, .unset, .unset, .unset, .unset, .unset] [(.int (3 : Int32)), (.ref b11), (.ref b11)]))
  refine own_up (fun tx kx => XS.iload X24.here hx rfl (hb hby at_34) rfl kx) ?_
  show OwnOk p e below _ (T24.setTop (mkF m 36 #[.val (.int len), .val (.int p0), .val (.int p1), .val (.int p2), .val (.int p3), .val (.int (Int32.ofNat n)), .unset, .unset, .unset, .unset, .unset, .unset, .unset, .unset, .unset, .unset] [(.int p3), (.int (3 : Int32)), (.ref b11), (.ref b11)]))
  refine own_callS X24 hx hZ (y := (⟨"com/example/strict_replay/strictreplay/rules/FieldValuesTrimPinLaw", "draw", "(I)C"⟩ : MethodName)) hown (wd_2 hw) (wd_3 hw) (wd_4 hw) (wd_5 hw) (by decide) (m_draw l Z a0 hw p3 h24 n0 OL25) e24 (argsL := [(.int p3)]) (rest := [(.int (3 : Int32)), (.ref b11), (.ref b11)]) (by rw [hml]; rfl) (lenOf pd_17 rfl) rfl rfl (W := 3) rfl (hb hby at_36) (by decide) (by decide) (by decide) (by decide) (fun T26 v26 L26 X26 hQ26 => ?_)
  obtain ⟨cc26, rfl, hc26, Nq26, hh26⟩ := hQ26
  have N26 := Fr.app N24 Nq26
  show OwnOk p e below _ (T26.setTop (mkF m 39 #[.val (.int len), .val (.int p0), .val (.int p1), .val (.int p2), .val (.int p3), .val (.int (Int32.ofNat n)), .unset, .unset, .unset, .unset, .unset, .unset, .unset, .unset, .unset, .unset] [(.int cc26), (.int (3 : Int32)), (.ref b11), (.ref b11)]))
  obtain ⟨cl27, Ar27, qc27, Sz27, Nn27, Hs27, Gf27⟩ := id V_b11_24
  have hin27 : ¬ ((3 : Int32) < 0 ∨ cl27.slots.size ≤ ((3 : Int32)).toNatClampNeg) := inb_of Sz27 ⟨by decide, by decide⟩
  obtain ⟨T28, h28, X28, e28, W28, st28⟩ := stC X26 hx hZ hh26 Ar27 (j := (3 : Int32)) hin27 (g := (mkF m 39 #[.val (.int len), .val (.int p0), .val (.int p1), .val (.int p2), .val (.int p3), .val (.int (Int32.ofNat n)), .unset, .unset, .unset, .unset, .unset, .unset, .unset, .unset, .unset, .unset] [(.int cc26), (.int (3 : Int32)), (.ref b11), (.ref b11)])) rfl rfl (hb hby at_39)
  have V_b11_28 : Arv Z h28 b11 k11 .char (4 : Int32) [(.int (nar .char cc14)), (.int (nar .char cc18)), (.int (nar .char cc22)), (.int (nar .char cc26))] (.int (0 : Int32)) := Arv.set Ar27 qc27 Sz27 Nn27 Hs27 Gf27 (fits_nar_char _) W28 3 rfl (Nat.le_of_ble_eq_true rfl)
  have N28 := Fr.snoc X28 N26 n0_b11
  have OL29 := OL25.wr W28 n0_b11
  have hB29 := hB25.wr W28 (Safe.arr hZ.alike Ar27 (by decide))
  refine own_up st28 ?_
  show OwnOk p e below _ (T28.setTop (mkF m 40 #[.val (.int len), .val (.int p0), .val (.int p1), .val (.int p2), .val (.int p3), .val (.int (Int32.ofNat n)), .unset, .unset, .unset, .unset, .unset, .unset, .unset, .unset, .unset, .unset] [(.ref b11)]))
  refine own_up (fun tx kx => XS.astore X28.here hx rfl (hb hby at_40) rfl rfl (l' := #[.val (.int len), .val (.int p0), .val (.int p1), .val (.int p2), .val (.int p3), .val (.int (Int32.ofNat n)), .val (.ref b11), .unset, .unset, .unset, .unset, .unset, .unset, .unset, .unset, .unset]) rfl kx) ?_
  show OwnOk p e below _ (T28.setTop (mkF m 42 #[.val (.int len), .val (.int p0), .val (.int p1), .val (.int p2), .val (.int p3), .val (.int (Int32.ofNat n)), .val (.ref b11), .unset, .unset, .unset, .unset, .unset, .unset, .unset, .unset, .unset] []))
  refine own_up (fun tx kx => XS.iload X28.here hx rfl (hb hby at_42) rfl kx) ?_
  show OwnOk p e below _ (T28.setTop (mkF m 44 #[.val (.int len), .val (.int p0), .val (.int p1), .val (.int p2), .val (.int p3), .val (.int (Int32.ofNat n)), .val (.ref b11), .unset, .unset, .unset, .unset, .unset, .unset, .unset, .unset, .unset] [(.int (Int32.ofNat n))]))
  by_cases e0_ : (Int32.ofNat n) = (0 : Int32)
  · refine own_up (fun tx kx => XS.ifNo X28.here hx rfl (hb hby at_44) rfl ((if0 _ _).trans (teq e0_).2) kx) ?_
    show OwnOk p e below _ (T28.setTop (mkF m 47 #[.val (.int len), .val (.int p0), .val (.int p1), .val (.int p2), .val (.int p3), .val (.int (Int32.ofNat n)), .val (.ref b11), .unset, .unset, .unset, .unset, .unset, .unset, .unset, .unset, .unset] []))
    refine own_up (fun tx kx => XS.iconst X28.here hx rfl (hb hby at_47) kx) ?_
    show OwnOk p e below _ (T28.setTop (mkF m 48 #[.val (.int len), .val (.int p0), .val (.int p1), .val (.int p2), .val (.int p3), .val (.int (Int32.ofNat n)), .val (.ref b11), .unset, .unset, .unset, .unset, .unset, .unset, .unset, .unset, .unset] [(.int (0 : Int32))]))
    obtain ⟨T30, h30, k30, X30, e30, E30, A30, st30⟩ := newP (aty := .char) X28 hx hZ (wd_1 hw) e28 (g := (mkF m 48 #[.val (.int len), .val (.int p0), .val (.int p1), .val (.int p2), .val (.int p3), .val (.int (Int32.ofNat n)), .val (.ref b11), .unset, .unset, .unset, .unset, .unset, .unset, .unset, .unset, .unset] [(.int (0 : Int32))])) rfl (hb hby at_48) rfl (by decide) (cap := 0) (by decide) (by decide) (by decide) (by decide)
    obtain ⟨b30, g30⟩ : ∃ z, z = h28.size := ⟨_, rfl⟩
    rw [← g30] at A30 st30
    have sz_b30 : h28.size ≤ b30 := Nat.le_of_eq g30.symm
    have lt_b11_b30 : b11 < b30 := Nat.lt_of_lt_of_le V_b11_28.lt sz_b30
    have n0_b30 : n0 ≤ b30 := Nat.le_trans (own_n0 OL29) sz_b30
    have V_b30 : Arv Z h30 b30 k30 .char (0 : Int32) [] (.int (0 : Int32)) := Arv.new A30 (by decide)
    have OL32 := OL29.ext E30
    have hB32 := hB29.ext E30
    refine own_up st30 ?_
    show OwnOk p e below _ (T30.setTop (mkF m 50 #[.val (.int len), .val (.int p0), .val (.int p1), .val (.int p2), .val (.int p3), .val (.int (Int32.ofNat n)), .val (.ref b11), .unset, .unset, .unset, .unset, .unset, .unset, .unset, .unset, .unset] [(.ref b30)]))
    refine own_up (fun tx kx => XS.astore X30.here hx rfl (hb hby at_50) rfl rfl (l' := #[.val (.int len), .val (.int p0), .val (.int p1), .val (.int p2), .val (.int p3), .val (.int (Int32.ofNat n)), .val (.ref b11), .val (.ref b30), .unset, .unset, .unset, .unset, .unset, .unset, .unset, .unset]) rfl kx) ?_
    show OwnOk p e below _ (T30.setTop (mkF m 52 #[.val (.int len), .val (.int p0), .val (.int p1), .val (.int p2), .val (.int p3), .val (.int (Int32.ofNat n)), .val (.ref b11), .val (.ref b30), .unset, .unset, .unset, .unset, .unset, .unset, .unset, .unset] []))
    refine own_up (fun tx kx => XS.goto X30.here hx rfl (pc0 := 52) (pc' := 172) rfl (hb hby at_52) (by decide) (by decide) kx) ?_
    show OwnOk p e below _ (T30.setTop (mkF m 172 #[.val (.int len), .val (.int p0), .val (.int p1), .val (.int p2), .val (.int p3), .val (.int (Int32.ofNat n)), .val (.ref b11), .val (.ref b30), .unset, .unset, .unset, .unset, .unset, .unset, .unset, .unset] []))
    obtain rfl : n = 0 := own_ofNatEq (n := 0) e0_ (by omega) (by decide)
    show OwnOk p e below _ (T30.setTop (mkF m 172 #[.val (.int len), .val (.int p0), .val (.int p1), .val (.int p2), .val (.int p3), .val (.int (Int32.ofNat 0)), .val (.ref b11), .val (.ref b30), .unset, .unset, .unset, .unset, .unset, .unset, .unset, .unset] []))
    obtain ⟨T33, h33, X33, e33, E33, A33, D33, -, st33⟩ := newO X30 hx hZ hown (wd_6 hw) (wd_7 hw) (wd_8 hw) e30 (g := (mkF m 172 #[.val (.int len), .val (.int p0), .val (.int p1), .val (.int p2), .val (.int p3), .val (.int (Int32.ofNat 0)), .val (.ref b11), .val (.ref b30), .unset, .unset, .unset, .unset, .unset, .unset, .unset, .unset] [])) rfl (hb hby at_172) (by decide) (by decide)
    obtain ⟨b33, g33⟩ : ∃ z, z = h30.size := ⟨_, rfl⟩
    rw [← g33] at A33 D33 st33
    have sz_b33 : h30.size ≤ b33 := Nat.le_of_eq g33.symm
    have V_b11_35 := (V_b11_28.ext E30)
    have lt_b11_b33 : b11 < b33 := Nat.lt_of_lt_of_le V_b11_35.lt sz_b33
    have lt_b30_b33 : b30 < b33 := Nat.lt_of_lt_of_le V_b30.lt sz_b33
    have n0_b33 : n0 ≤ b33 := Nat.le_trans (own_n0 OL32) sz_b33
    have F_value_b33 : Fld Z h33 b33 "java/lang/String" "value" "[B" .null := D33 (Or.inr (wd_21 hw)) (ty := (.array .byte)) (by decide)
    have F_coder_b33 : Fld Z h33 b33 "java/lang/String" "coder" "B" (.int (0 : Int32)) := D33 (Or.inr (wd_22 hw)) (ty := .byte) (by decide)
    have OL36 := OL32.ext E33
    have hB36 := hB32.ext E33
    have sf_b33_37 := hB32.sNew E33 sz_b33
    refine own_up st33 ?_
    show OwnOk p e below _ (T33.setTop (mkF m 175 #[.val (.int len), .val (.int p0), .val (.int p1), .val (.int p2), .val (.int p3), .val (.int (Int32.ofNat 0)), .val (.ref b11), .val (.ref b30), .unset, .unset, .unset, .unset, .unset, .unset, .unset, .unset] [(.ref b33)]))
    refine own_up (fun tx kx => XS.dup X33.here hx rfl (hb hby at_175) rfl rfl kx) ?_
    show OwnOk p e below _ (T33.setTop (mkF m 176 #[.val (.int len), .val (.int p0), .val (.int p1), .val (.int p2), .val (.int p3), .val (.int (Int32.ofNat 0)), .val (.ref b11), .val (.ref b30), .unset, .unset, .unset, .unset, .unset, .unset, .unset, .unset] [(.ref b33), (.ref b33)]))
    refine own_up (fun tx kx => XS.aload X33.here hx rfl (hb hby at_176) rfl rfl kx) ?_
    show OwnOk p e below _ (T33.setTop (mkF m 178 #[.val (.int len), .val (.int p0), .val (.int p1), .val (.int p2), .val (.int p3), .val (.int (Int32.ofNat 0)), .val (.ref b11), .val (.ref b30), .unset, .unset, .unset, .unset, .unset, .unset, .unset, .unset] [(.ref b30), (.ref b33), (.ref b33)]))
    have V_b30_38 := (V_b30.ext E33)
    refine own_callCH X33 hB36 (own_ew hw) (sf := [b33]) (own_safS sf_b33_37 own_saf0) (own_ltS A33.lt own_lt0) hx hZ (y := (⟨"java/lang/String", "<init>", "([C)V"⟩ : MethodName)) rfl hown (wd_9 hw) (wd_10 hw) (wd_8 hw) (wd_11 hw) (by decide) (c_init1_0 l Z a0 hw b33 b30 k30 h33 n0 OL36 A33 F_value_b33 F_coder_b33 n0_b33 V_b30_38) e33 (argsL := [(.ref b30)]) (rest := [(.ref b33)]) (a := b33) (by rw [hml]; rfl) (lenOf pd_20 rfl) rfl rfl (W := 1) rfl (hb hby at_178) (by decide) (by decide) (by decide) (by decide) (fun s39 T39 v39 L39 X39 hB39 hZ39 hown39 hQ39 sf39 => ?_)
    obtain ⟨rfl, Nq39, Kq39, uu39, ku39, gg39, ea39, fv39, fc39, vu39⟩ := hQ39
    have N39 := Fr.app N28 Nq39
    have sf_b33_40 := sf39 b33 A33.lt sf_b33_37
    have OL39 := OL36.keep Kq39 (allS n0_b33 all0)
    show OwnOk p e below _ (T39.setTop (mkF m 181 #[.val (.int len), .val (.int p0), .val (.int p1), .val (.int p2), .val (.int p3), .val (.int (Int32.ofNat 0)), .val (.ref b11), .val (.ref b30), .unset, .unset, .unset, .unset, .unset, .unset, .unset, .unset] [(.ref b33)]))
    refine own_callSH X39 hB39 (own_ew hw) (sf := []) own_saf0 own_lt0 hx hZ39 (y := (⟨"com/example/strict_replay/strictreplay/rules/FieldValues", "trim", "(Ljava/lang/String;)Ljava/lang/String;"⟩ : MethodName)) hown39 (wd_27 hw) (wd_28 hw) (wd_29 hw) (wd_30 hw) (by decide) (m_trim l Z a0 hw b33 uu39 ku39 0 gg39 cz fm hfm T39.heap n0 OL39 SC hcz SF ea39 fv39 fc39 vu39 (by decide)) rfl (argsL := [(.ref b33)]) (rest := []) (by rw [hml]; rfl) (lenOf pd_21 rfl) rfl rfl (W := 0) rfl (hb hby at_181) (by decide) (by decide) (by decide) (by decide) (fun s41 T41 v41 L41 X41 hB41 hZ41 hown41 hQ41 sf41 => ?_)
    obtain ⟨rr41, ur41, kr41, gr41, rfl, Nq41, Kq41, hse41, hen41, hg41, er41, fv41, fc41, vr41⟩ := hQ41
    have N41 := Fr.app N39 Nq41
    have sf_b33_42 := sf41 b33 ea39.lt sf_b33_40
    have OL41 := OL39.keep Kq41 all0
    show OwnOk p e below _ (T41.setTop (mkF m 184 #[.val (.int len), .val (.int p0), .val (.int p1), .val (.int p2), .val (.int p3), .val (.int (Int32.ofNat 0)), .val (.ref b11), .val (.ref b30), .unset, .unset, .unset, .unset, .unset, .unset, .unset, .unset] [(.ref rr41)]))
    refine own_up (fun tx kx => XS.astore X41.here hx rfl (hb hby at_184) rfl rfl (l' := #[.val (.int len), .val (.int p0), .val (.int p1), .val (.int p2), .val (.int p3), .val (.int (Int32.ofNat 0)), .val (.ref b11), .val (.ref b30), .val (.ref rr41), .unset, .unset, .unset, .unset, .unset, .unset, .unset]) rfl kx) ?_
    show OwnOk p e below _ (T41.setTop (mkF m 186 #[.val (.int len), .val (.int p0), .val (.int p1), .val (.int p2), .val (.int p3), .val (.int (Int32.ofNat 0)), .val (.ref b11), .val (.ref b30), .val (.ref rr41), .unset, .unset, .unset, .unset, .unset, .unset, .unset] []))
    have hcg : ∀ j, j < 0 → (fun j => own_c8 (gg39 j)) j = (fun j => [(nar .char cc14), (nar .char cc18), (nar .char cc22), (nar .char cc26)].getD j 0) j := (fun j hj => absurd hj (Nat.not_lt_zero j))
    have e1 := own_ts_congr hcg
    have e2 := own_te_congr hcg
    rw [e1, e2] at hse41 hg41 vr41
    rw [e2] at hen41
    have hgg : ∀ j, j < own_te 0 (fun j => [(nar .char cc14), (nar .char cc18), (nar .char cc22), (nar .char cc26)].getD j 0) - own_ts 0 (fun j => [(nar .char cc14), (nar .char cc18), (nar .char cc22), (nar .char cc26)].getD j 0) → own_c8 (gr41 j) = [(nar .char cc14), (nar .char cc18), (nar .char cc22), (nar .char cc26)].getD (own_ts 0 (fun j => [(nar .char cc14), (nar .char cc18), (nar .char cc22), (nar .char cc26)].getD j 0) + j) 0 := fun j hj => by rw [hg41 j hj]; exact hcg _ (by omega)
    have V_b11_43 := (((V_b11_35.ext E33).keep Kq39 (ninS (Nat.ne_of_lt lt_b11_b33) nin0)).keep Kq41 nin0)
    exact law_186 l Z a0 hw len p0 p1 p2 p3 0 b11 b30 rr41 ur41 k11 kr41 gr41 (nar .char cc14) (nar .char cc18) (nar .char cc22) (nar .char cc26) 0 0 0 0 cz fm hfm hx hby hml hret hlk (X41.mono (Nat.le_of_ble_eq_true rfl) (Nat.le_of_ble_eq_true rfl)) rfl hZ41 hown41 n0 OL41 N41 hB41 SC hcz SF er41 fv41 fc41 vr41 V_b11_43 (by decide) hse41 hen41 hgg
  · refine own_up (fun tx kx => XS.ifYes X28.here hx rfl (pc0 := 44) (pc' := 55) rfl (hb hby at_44) rfl ((if0 _ _).trans (feq e0_).2) (by decide) (by decide) kx) ?_
    show OwnOk p e below _ (T28.setTop (mkF m 55 #[.val (.int len), .val (.int p0), .val (.int p1), .val (.int p2), .val (.int p3), .val (.int (Int32.ofNat n)), .val (.ref b11), .unset, .unset, .unset, .unset, .unset, .unset, .unset, .unset, .unset] []))
    refine own_up (fun tx kx => XS.iload X28.here hx rfl (hb hby at_55) rfl kx) ?_
    show OwnOk p e below _ (T28.setTop (mkF m 57 #[.val (.int len), .val (.int p0), .val (.int p1), .val (.int p2), .val (.int p3), .val (.int (Int32.ofNat n)), .val (.ref b11), .unset, .unset, .unset, .unset, .unset, .unset, .unset, .unset, .unset] [(.int (Int32.ofNat n))]))
    refine own_up (fun tx kx => XS.iconst X28.here hx rfl (hb hby at_57) kx) ?_
    show OwnOk p e below _ (T28.setTop (mkF m 58 #[.val (.int len), .val (.int p0), .val (.int p1), .val (.int p2), .val (.int p3), .val (.int (Int32.ofNat n)), .val (.ref b11), .unset, .unset, .unset, .unset, .unset, .unset, .unset, .unset, .unset] [(.int (1 : Int32)), (.int (Int32.ofNat n))]))
    by_cases e1_ : (Int32.ofNat n) = (1 : Int32)
    · refine own_up (fun tx kx => XS.icmpNo X28.here hx rfl (hb hby at_58) rfl (teq e1_).2 kx) ?_
      show OwnOk p e below _ (T28.setTop (mkF m 61 #[.val (.int len), .val (.int p0), .val (.int p1), .val (.int p2), .val (.int p3), .val (.int (Int32.ofNat n)), .val (.ref b11), .unset, .unset, .unset, .unset, .unset, .unset, .unset, .unset, .unset] []))
      refine own_up (fun tx kx => XS.iconst X28.here hx rfl (hb hby at_61) kx) ?_
      show OwnOk p e below _ (T28.setTop (mkF m 62 #[.val (.int len), .val (.int p0), .val (.int p1), .val (.int p2), .val (.int p3), .val (.int (Int32.ofNat n)), .val (.ref b11), .unset, .unset, .unset, .unset, .unset, .unset, .unset, .unset, .unset] [(.int (1 : Int32))]))
      obtain ⟨T44, h44, k44, X44, e44, E44, A44, st44⟩ := newP (aty := .char) X28 hx hZ (wd_1 hw) e28 (g := (mkF m 62 #[.val (.int len), .val (.int p0), .val (.int p1), .val (.int p2), .val (.int p3), .val (.int (Int32.ofNat n)), .val (.ref b11), .unset, .unset, .unset, .unset, .unset, .unset, .unset, .unset, .unset] [(.int (1 : Int32))])) rfl (hb hby at_62) rfl (by decide) (cap := 1) (by decide) (by decide) (by decide) (by decide)
      obtain ⟨b44, g44⟩ : ∃ z, z = h28.size := ⟨_, rfl⟩
      rw [← g44] at A44 st44
      have sz_b44 : h28.size ≤ b44 := Nat.le_of_eq g44.symm
      have lt_b11_b44 : b11 < b44 := Nat.lt_of_lt_of_le V_b11_28.lt sz_b44
      have n0_b44 : n0 ≤ b44 := Nat.le_trans (own_n0 OL29) sz_b44
      have V_b44 : Arv Z h44 b44 k44 .char (1 : Int32) [(.int (0 : Int32))] (.int (0 : Int32)) := (Arv.new A44 (by decide)).pad (pad_rep [] (.int (0 : Int32)) 1)
      have OL46 := OL29.ext E44
      have hB46 := hB29.ext E44
      refine own_up st44 ?_
      show OwnOk p e below _ (T44.setTop (mkF m 64 #[.val (.int len), .val (.int p0), .val (.int p1), .val (.int p2), .val (.int p3), .val (.int (Int32.ofNat n)), .val (.ref b11), .unset, .unset, .unset, .unset, .unset, .unset, .unset, .unset, .unset] [(.ref b44)]))
      refine own_up (fun tx kx => XS.dup X44.here hx rfl (hb hby at_64) rfl rfl kx) ?_
      show OwnOk p e below _ (T44.setTop (mkF m 65 #[.val (.int len), .val (.int p0), .val (.int p1), .val (.int p2), .val (.int p3), .val (.int (Int32.ofNat n)), .val (.ref b11), .unset, .unset, .unset, .unset, .unset, .unset, .unset, .unset, .unset] [(.ref b44), (.ref b44)]))
      refine own_up (fun tx kx => XS.iconst X44.here hx rfl (hb hby at_65) kx) ?_
      show OwnOk p e below _ (T44.setTop (mkF m 66 #[.val (.int len), .val (.int p0), .val (.int p1), .val (.int p2), .val (.int p3), .val (.int (Int32.ofNat n)), .val (.ref b11), .unset, .unset, .unset, .unset, .unset, .unset, .unset, .unset, .unset] [(.int (0 : Int32)), (.ref b44), (.ref b44)]))
      refine own_up (fun tx kx => XS.aload X44.here hx rfl (hb hby at_66) rfl rfl kx) ?_
      show OwnOk p e below _ (T44.setTop (mkF m 68 #[.val (.int len), .val (.int p0), .val (.int p1), .val (.int p2), .val (.int p3), .val (.int (Int32.ofNat n)), .val (.ref b11), .unset, .unset, .unset, .unset, .unset, .unset, .unset, .unset, .unset] [(.ref b11), (.int (0 : Int32)), (.ref b44), (.ref b44)]))
      refine own_up (fun tx kx => XS.iconst X44.here hx rfl (hb hby at_68) kx) ?_
      show OwnOk p e below _ (T44.setTop (mkF m 69 #[.val (.int len), .val (.int p0), .val (.int p1), .val (.int p2), .val (.int p3), .val (.int (Int32.ofNat n)), .val (.ref b11), .unset, .unset, .unset, .unset, .unset, .unset, .unset, .unset, .unset] [(.int (0 : Int32)), (.ref b11), (.int (0 : Int32)), (.ref b44), (.ref b44)]))
      have V_b11_47 := (V_b11_28.ext E44)
      obtain ⟨cl48, Ar48, qc48, Sz48, Nn48, Hs48, Gf48⟩ := id V_b11_47
      have hin48 : ¬ ((0 : Int32) < 0 ∨ cl48.slots.size ≤ ((0 : Int32)).toNatClampNeg) := inb_of Sz48 ⟨by decide, by decide⟩
      have hat48 : cl48.slots[((0 : Int32)).toNatClampNeg]? = some (.int (nar .char cc14)) := Hs48.at hin48 rfl
      refine own_up (fun tx kx => X44.caload hx (j := (0 : Int32)) (v := (.int (nar .char cc14))) (own_ar e44 Ar48.1) (State.isArrayOf_alike hZ.alike Ar48.2.1) Ar48.2.2 hin48 hat48 (g := (mkF m 69 #[.val (.int len), .val (.int p0), .val (.int p1), .val (.int p2), .val (.int p3), .val (.int (Int32.ofNat n)), .val (.ref b11), .unset, .unset, .unset, .unset, .unset, .unset, .unset, .unset, .unset] [(.int (0 : Int32)), (.ref b11), (.int (0 : Int32)), (.ref b44), (.ref b44)])) rfl rfl (hb hby at_69) _ kx) ?_
      show OwnOk p e below _ (T44.setTop (mkF m 70 #[.val (.int len), .val (.int p0), .val (.int p1), .val (.int p2), .val (.int p3), .val (.int (Int32.ofNat n)), .val (.ref b11), .unset, .unset, .unset, .unset, .unset, .unset, .unset, .unset, .unset] [(.int (nar .char cc14)), (.int (0 : Int32)), (.ref b44), (.ref b44)]))
      obtain ⟨cl49, Ar49, qc49, Sz49, Nn49, Hs49, Gf49⟩ := id V_b44
      have hin49 : ¬ ((0 : Int32) < 0 ∨ cl49.slots.size ≤ ((0 : Int32)).toNatClampNeg) := inb_of Sz49 ⟨by decide, by decide⟩
      obtain ⟨T50, h50, X50, e50, W50, st50⟩ := stC X44 hx hZ e44 Ar49 (j := (0 : Int32)) hin49 (g := (mkF m 70 #[.val (.int len), .val (.int p0), .val (.int p1), .val (.int p2), .val (.int p3), .val (.int (Int32.ofNat n)), .val (.ref b11), .unset, .unset, .unset, .unset, .unset, .unset, .unset, .unset, .unset] [(.int (nar .char cc14)), (.int (0 : Int32)), (.ref b44), (.ref b44)])) rfl rfl (hb hby at_70)
      have V_b44_50 : Arv Z h50 b44 k44 .char (1 : Int32) [(.int (nar .char (nar .char cc14)))] (.int (0 : Int32)) := Arv.set Ar49 qc49 Sz49 Nn49 Hs49 Gf49 (fits_nar_char _) W50 0 rfl (Nat.le_of_ble_eq_true rfl)
      have N50 := Fr.snoc X50 N28 n0_b44
      have OL51 := OL46.wr W50 n0_b44
      have hB51 := hB46.wr W50 (Safe.arr hZ.alike Ar49 (by decide))
      refine own_up st50 ?_
      show OwnOk p e below _ (T50.setTop (mkF m 71 #[.val (.int len), .val (.int p0), .val (.int p1), .val (.int p2), .val (.int p3), .val (.int (Int32.ofNat n)), .val (.ref b11), .unset, .unset, .unset, .unset, .unset, .unset, .unset, .unset, .unset] [(.ref b44)]))
      refine own_up (fun tx kx => XS.astore X50.here hx rfl (hb hby at_71) rfl rfl (l' := #[.val (.int len), .val (.int p0), .val (.int p1), .val (.int p2), .val (.int p3), .val (.int (Int32.ofNat n)), .val (.ref b11), .val (.ref b44), .unset, .unset, .unset, .unset, .unset, .unset, .unset, .unset]) rfl kx) ?_
      show OwnOk p e below _ (T50.setTop (mkF m 73 #[.val (.int len), .val (.int p0), .val (.int p1), .val (.int p2), .val (.int p3), .val (.int (Int32.ofNat n)), .val (.ref b11), .val (.ref b44), .unset, .unset, .unset, .unset, .unset, .unset, .unset, .unset] []))
      refine own_up (fun tx kx => XS.goto X50.here hx rfl (pc0 := 73) (pc' := 172) rfl (hb hby at_73) (by decide) (by decide) kx) ?_
      show OwnOk p e below _ (T50.setTop (mkF m 172 #[.val (.int len), .val (.int p0), .val (.int p1), .val (.int p2), .val (.int p3), .val (.int (Int32.ofNat n)), .val (.ref b11), .val (.ref b44), .unset, .unset, .unset, .unset, .unset, .unset, .unset, .unset] []))
      obtain rfl : n = 1 := own_ofNatEq (n := 1) e1_ (by omega) (by decide)
      show OwnOk p e below _ (T50.setTop (mkF m 172 #[.val (.int len), .val (.int p0), .val (.int p1), .val (.int p2), .val (.int p3), .val (.int (Int32.ofNat 1)), .val (.ref b11), .val (.ref b44), .unset, .unset, .unset, .unset, .unset, .unset, .unset, .unset] []))
      obtain ⟨T52, h52, X52, e52, E52, A52, D52, -, st52⟩ := newO X50 hx hZ hown (wd_6 hw) (wd_7 hw) (wd_8 hw) e50 (g := (mkF m 172 #[.val (.int len), .val (.int p0), .val (.int p1), .val (.int p2), .val (.int p3), .val (.int (Int32.ofNat 1)), .val (.ref b11), .val (.ref b44), .unset, .unset, .unset, .unset, .unset, .unset, .unset, .unset] [])) rfl (hb hby at_172) (by decide) (by decide)
      obtain ⟨b52, g52⟩ : ∃ z, z = h50.size := ⟨_, rfl⟩
      rw [← g52] at A52 D52 st52
      have sz_b52 : h50.size ≤ b52 := Nat.le_of_eq g52.symm
      have V_b11_54 := (V_b11_47.other W50 (Nat.ne_of_lt lt_b11_b44))
      have lt_b11_b52 : b11 < b52 := Nat.lt_of_lt_of_le V_b11_54.lt sz_b52
      have lt_b44_b52 : b44 < b52 := Nat.lt_of_lt_of_le V_b44_50.lt sz_b52
      have n0_b52 : n0 ≤ b52 := Nat.le_trans (own_n0 OL51) sz_b52
      have F_value_b52 : Fld Z h52 b52 "java/lang/String" "value" "[B" .null := D52 (Or.inr (wd_21 hw)) (ty := (.array .byte)) (by decide)
      have F_coder_b52 : Fld Z h52 b52 "java/lang/String" "coder" "B" (.int (0 : Int32)) := D52 (Or.inr (wd_22 hw)) (ty := .byte) (by decide)
      have OL55 := OL51.ext E52
      have hB55 := hB51.ext E52
      have sf_b52_56 := hB51.sNew E52 sz_b52
      refine own_up st52 ?_
      show OwnOk p e below _ (T52.setTop (mkF m 175 #[.val (.int len), .val (.int p0), .val (.int p1), .val (.int p2), .val (.int p3), .val (.int (Int32.ofNat 1)), .val (.ref b11), .val (.ref b44), .unset, .unset, .unset, .unset, .unset, .unset, .unset, .unset] [(.ref b52)]))
      refine own_up (fun tx kx => XS.dup X52.here hx rfl (hb hby at_175) rfl rfl kx) ?_
      show OwnOk p e below _ (T52.setTop (mkF m 176 #[.val (.int len), .val (.int p0), .val (.int p1), .val (.int p2), .val (.int p3), .val (.int (Int32.ofNat 1)), .val (.ref b11), .val (.ref b44), .unset, .unset, .unset, .unset, .unset, .unset, .unset, .unset] [(.ref b52), (.ref b52)]))
      refine own_up (fun tx kx => XS.aload X52.here hx rfl (hb hby at_176) rfl rfl kx) ?_
      show OwnOk p e below _ (T52.setTop (mkF m 178 #[.val (.int len), .val (.int p0), .val (.int p1), .val (.int p2), .val (.int p3), .val (.int (Int32.ofNat 1)), .val (.ref b11), .val (.ref b44), .unset, .unset, .unset, .unset, .unset, .unset, .unset, .unset] [(.ref b44), (.ref b52), (.ref b52)]))
      have V_b44_57 := (V_b44_50.ext E52)
      refine own_callC X52 hx hZ (y := (⟨"java/lang/String", "<init>", "([C)V"⟩ : MethodName)) rfl hown (wd_9 hw) (wd_10 hw) (wd_8 hw) (wd_11 hw) (by decide) (c_init1_1 l Z a0 hw b52 b44 k44 (nar .char (nar .char cc14)) cz h52 n0 OL55 SC hcz A52 F_value_b52 F_coder_b52 n0_b52 V_b44_57 (Nat.ne_of_gt lt_b44_b52) (own_ncl (own_ncl hc14)).2) e52 (argsL := [(.ref b44)]) (rest := [(.ref b52)]) (a := b52) (by rw [hml]; rfl) (lenOf pd_20 rfl) rfl rfl (W := 1) rfl (hb hby at_178) (by decide) (by decide) (by decide) (by decide) (fun T58 v58 L58 X58 hQ58 => ?_)
      obtain ⟨rfl, Nq58, Kq58, uu58, ku58, gu58, ea58, fv58, fc58, vu58⟩ := hQ58
      have N58 := Fr.app N50 Nq58
      have hB58 := hB55.keep Kq58 (own_safS sf_b52_56 own_saf0)
      have sf_b52_59 := hB55.sKeep Kq58 (own_safS sf_b52_56 own_saf0) sf_b52_56
      have OL58 := OL55.keep Kq58 (allS n0_b52 all0)
      show OwnOk p e below _ (T58.setTop (mkF m 181 #[.val (.int len), .val (.int p0), .val (.int p1), .val (.int p2), .val (.int p3), .val (.int (Int32.ofNat 1)), .val (.ref b11), .val (.ref b44), .unset, .unset, .unset, .unset, .unset, .unset, .unset, .unset] [(.ref b52)]))
      refine own_callSH X58 hB58 (own_ew hw) (sf := []) own_saf0 own_lt0 hx hZ (y := (⟨"com/example/strict_replay/strictreplay/rules/FieldValues", "trim", "(Ljava/lang/String;)Ljava/lang/String;"⟩ : MethodName)) hown (wd_27 hw) (wd_28 hw) (wd_29 hw) (wd_30 hw) (by decide) (m_trim l Z a0 hw b52 uu58 ku58 1 (fun j => [(nar .byte ((nar .char (nar .char cc14)).toInt8.toInt32))].getD j 0) cz fm hfm T58.heap n0 OL58 SC hcz SF ea58 fv58 fc58 vu58 (by decide)) rfl (argsL := [(.ref b52)]) (rest := []) (by rw [hml]; rfl) (lenOf pd_21 rfl) rfl rfl (W := 0) rfl (hb hby at_181) (by decide) (by decide) (by decide) (by decide) (fun s60 T60 v60 L60 X60 hB60 hZ60 hown60 hQ60 sf60 => ?_)
      obtain ⟨rr60, ur60, kr60, gr60, rfl, Nq60, Kq60, hse60, hen60, hg60, er60, fv60, fc60, vr60⟩ := hQ60
      have N60 := Fr.app N58 Nq60
      have sf_b52_61 := sf60 b52 ea58.lt sf_b52_59
      have OL60 := OL58.keep Kq60 all0
      show OwnOk p e below _ (T60.setTop (mkF m 184 #[.val (.int len), .val (.int p0), .val (.int p1), .val (.int p2), .val (.int p3), .val (.int (Int32.ofNat 1)), .val (.ref b11), .val (.ref b44), .unset, .unset, .unset, .unset, .unset, .unset, .unset, .unset] [(.ref rr60)]))
      refine own_up (fun tx kx => XS.astore X60.here hx rfl (hb hby at_184) rfl rfl (l' := #[.val (.int len), .val (.int p0), .val (.int p1), .val (.int p2), .val (.int p3), .val (.int (Int32.ofNat 1)), .val (.ref b11), .val (.ref b44), .val (.ref rr60), .unset, .unset, .unset, .unset, .unset, .unset, .unset]) rfl kx) ?_
      show OwnOk p e below _ (T60.setTop (mkF m 186 #[.val (.int len), .val (.int p0), .val (.int p1), .val (.int p2), .val (.int p3), .val (.int (Int32.ofNat 1)), .val (.ref b11), .val (.ref b44), .val (.ref rr60), .unset, .unset, .unset, .unset, .unset, .unset, .unset] []))
      have hcg : ∀ j, j < 1 → (fun j => own_c8 ((fun j => [(nar .byte ((nar .char (nar .char cc14)).toInt8.toInt32))].getD j 0) j)) j = (fun j => [(nar .char cc14), (nar .char cc18), (nar .char cc22), (nar .char cc26)].getD j 0) j := (fun j hj => by
          match j, hj with
          | 0, _ => exact own_b8c (own_ncl hc14))
      have e1 := own_ts_congr hcg
      have e2 := own_te_congr hcg
      rw [e1, e2] at hse60 hg60 vr60
      rw [e2] at hen60
      have hgg : ∀ j, j < own_te 1 (fun j => [(nar .char cc14), (nar .char cc18), (nar .char cc22), (nar .char cc26)].getD j 0) - own_ts 1 (fun j => [(nar .char cc14), (nar .char cc18), (nar .char cc22), (nar .char cc26)].getD j 0) → own_c8 (gr60 j) = [(nar .char cc14), (nar .char cc18), (nar .char cc22), (nar .char cc26)].getD (own_ts 1 (fun j => [(nar .char cc14), (nar .char cc18), (nar .char cc22), (nar .char cc26)].getD j 0) + j) 0 := fun j hj => by rw [hg60 j hj]; exact hcg _ (by omega)
      have V_b11_62 := (((V_b11_54.ext E52).keep Kq58 (ninS (Nat.ne_of_lt lt_b11_b52) nin0)).keep Kq60 nin0)
      exact law_186 l Z a0 hw len p0 p1 p2 p3 1 b11 b44 rr60 ur60 k11 kr60 gr60 (nar .char cc14) (nar .char cc18) (nar .char cc22) (nar .char cc26) 0 0 0 0 cz fm hfm hx hby hml hret hlk (X60.mono (Nat.le_of_ble_eq_true rfl) (Nat.le_of_ble_eq_true rfl)) rfl hZ60 hown60 n0 OL60 N60 hB60 SC hcz SF er60 fv60 fc60 vr60 V_b11_62 (by decide) hse60 hen60 hgg
    · refine own_up (fun tx kx => XS.icmpYes X28.here hx rfl (pc0 := 58) (pc' := 76) rfl (hb hby at_58) rfl (feq e1_).2 (by decide) (by decide) kx) ?_
      show OwnOk p e below _ (T28.setTop (mkF m 76 #[.val (.int len), .val (.int p0), .val (.int p1), .val (.int p2), .val (.int p3), .val (.int (Int32.ofNat n)), .val (.ref b11), .unset, .unset, .unset, .unset, .unset, .unset, .unset, .unset, .unset] []))
      refine own_up (fun tx kx => XS.iload X28.here hx rfl (hb hby at_76) rfl kx) ?_
      show OwnOk p e below _ (T28.setTop (mkF m 78 #[.val (.int len), .val (.int p0), .val (.int p1), .val (.int p2), .val (.int p3), .val (.int (Int32.ofNat n)), .val (.ref b11), .unset, .unset, .unset, .unset, .unset, .unset, .unset, .unset, .unset] [(.int (Int32.ofNat n))]))
      refine own_up (fun tx kx => XS.iconst X28.here hx rfl (hb hby at_78) kx) ?_
      show OwnOk p e below _ (T28.setTop (mkF m 79 #[.val (.int len), .val (.int p0), .val (.int p1), .val (.int p2), .val (.int p3), .val (.int (Int32.ofNat n)), .val (.ref b11), .unset, .unset, .unset, .unset, .unset, .unset, .unset, .unset, .unset] [(.int (2 : Int32)), (.int (Int32.ofNat n))]))
      by_cases e2_ : (Int32.ofNat n) = (2 : Int32)
      · refine own_up (fun tx kx => XS.icmpNo X28.here hx rfl (hb hby at_79) rfl (teq e2_).2 kx) ?_
        show OwnOk p e below _ (T28.setTop (mkF m 82 #[.val (.int len), .val (.int p0), .val (.int p1), .val (.int p2), .val (.int p3), .val (.int (Int32.ofNat n)), .val (.ref b11), .unset, .unset, .unset, .unset, .unset, .unset, .unset, .unset, .unset] []))
        refine own_up (fun tx kx => XS.iconst X28.here hx rfl (hb hby at_82) kx) ?_
        show OwnOk p e below _ (T28.setTop (mkF m 83 #[.val (.int len), .val (.int p0), .val (.int p1), .val (.int p2), .val (.int p3), .val (.int (Int32.ofNat n)), .val (.ref b11), .unset, .unset, .unset, .unset, .unset, .unset, .unset, .unset, .unset] [(.int (2 : Int32))]))
        obtain ⟨T63, h63, k63, X63, e63, E63, A63, st63⟩ := newP (aty := .char) X28 hx hZ (wd_1 hw) e28 (g := (mkF m 83 #[.val (.int len), .val (.int p0), .val (.int p1), .val (.int p2), .val (.int p3), .val (.int (Int32.ofNat n)), .val (.ref b11), .unset, .unset, .unset, .unset, .unset, .unset, .unset, .unset, .unset] [(.int (2 : Int32))])) rfl (hb hby at_83) rfl (by decide) (cap := 2) (by decide) (by decide) (by decide) (by decide)
        obtain ⟨b63, g63⟩ : ∃ z, z = h28.size := ⟨_, rfl⟩
        rw [← g63] at A63 st63
        have sz_b63 : h28.size ≤ b63 := Nat.le_of_eq g63.symm
        have lt_b11_b63 : b11 < b63 := Nat.lt_of_lt_of_le V_b11_28.lt sz_b63
        have n0_b63 : n0 ≤ b63 := Nat.le_trans (own_n0 OL29) sz_b63
        have V_b63 : Arv Z h63 b63 k63 .char (2 : Int32) [(.int (0 : Int32)), (.int (0 : Int32))] (.int (0 : Int32)) := (Arv.new A63 (by decide)).pad (pad_rep [] (.int (0 : Int32)) 2)
        have OL65 := OL29.ext E63
        have hB65 := hB29.ext E63
        refine own_up st63 ?_
        show OwnOk p e below _ (T63.setTop (mkF m 85 #[.val (.int len), .val (.int p0), .val (.int p1), .val (.int p2), .val (.int p3), .val (.int (Int32.ofNat n)), .val (.ref b11), .unset, .unset, .unset, .unset, .unset, .unset, .unset, .unset, .unset] [(.ref b63)]))
        refine own_up (fun tx kx => XS.dup X63.here hx rfl (hb hby at_85) rfl rfl kx) ?_
        show OwnOk p e below _ (T63.setTop (mkF m 86 #[.val (.int len), .val (.int p0), .val (.int p1), .val (.int p2), .val (.int p3), .val (.int (Int32.ofNat n)), .val (.ref b11), .unset, .unset, .unset, .unset, .unset, .unset, .unset, .unset, .unset] [(.ref b63), (.ref b63)]))
        refine own_up (fun tx kx => XS.iconst X63.here hx rfl (hb hby at_86) kx) ?_
        show OwnOk p e below _ (T63.setTop (mkF m 87 #[.val (.int len), .val (.int p0), .val (.int p1), .val (.int p2), .val (.int p3), .val (.int (Int32.ofNat n)), .val (.ref b11), .unset, .unset, .unset, .unset, .unset, .unset, .unset, .unset, .unset] [(.int (0 : Int32)), (.ref b63), (.ref b63)]))
        refine own_up (fun tx kx => XS.aload X63.here hx rfl (hb hby at_87) rfl rfl kx) ?_
        show OwnOk p e below _ (T63.setTop (mkF m 89 #[.val (.int len), .val (.int p0), .val (.int p1), .val (.int p2), .val (.int p3), .val (.int (Int32.ofNat n)), .val (.ref b11), .unset, .unset, .unset, .unset, .unset, .unset, .unset, .unset, .unset] [(.ref b11), (.int (0 : Int32)), (.ref b63), (.ref b63)]))
        refine own_up (fun tx kx => XS.iconst X63.here hx rfl (hb hby at_89) kx) ?_
        show OwnOk p e below _ (T63.setTop (mkF m 90 #[.val (.int len), .val (.int p0), .val (.int p1), .val (.int p2), .val (.int p3), .val (.int (Int32.ofNat n)), .val (.ref b11), .unset, .unset, .unset, .unset, .unset, .unset, .unset, .unset, .unset] [(.int (0 : Int32)), (.ref b11), (.int (0 : Int32)), (.ref b63), (.ref b63)]))
        have V_b11_66 := (V_b11_28.ext E63)
        obtain ⟨cl67, Ar67, qc67, Sz67, Nn67, Hs67, Gf67⟩ := id V_b11_66
        have hin67 : ¬ ((0 : Int32) < 0 ∨ cl67.slots.size ≤ ((0 : Int32)).toNatClampNeg) := inb_of Sz67 ⟨by decide, by decide⟩
        have hat67 : cl67.slots[((0 : Int32)).toNatClampNeg]? = some (.int (nar .char cc14)) := Hs67.at hin67 rfl
        refine own_up (fun tx kx => X63.caload hx (j := (0 : Int32)) (v := (.int (nar .char cc14))) (own_ar e63 Ar67.1) (State.isArrayOf_alike hZ.alike Ar67.2.1) Ar67.2.2 hin67 hat67 (g := (mkF m 90 #[.val (.int len), .val (.int p0), .val (.int p1), .val (.int p2), .val (.int p3), .val (.int (Int32.ofNat n)), .val (.ref b11), .unset, .unset, .unset, .unset, .unset, .unset, .unset, .unset, .unset] [(.int (0 : Int32)), (.ref b11), (.int (0 : Int32)), (.ref b63), (.ref b63)])) rfl rfl (hb hby at_90) _ kx) ?_
        show OwnOk p e below _ (T63.setTop (mkF m 91 #[.val (.int len), .val (.int p0), .val (.int p1), .val (.int p2), .val (.int p3), .val (.int (Int32.ofNat n)), .val (.ref b11), .unset, .unset, .unset, .unset, .unset, .unset, .unset, .unset, .unset] [(.int (nar .char cc14)), (.int (0 : Int32)), (.ref b63), (.ref b63)]))
        obtain ⟨cl68, Ar68, qc68, Sz68, Nn68, Hs68, Gf68⟩ := id V_b63
        have hin68 : ¬ ((0 : Int32) < 0 ∨ cl68.slots.size ≤ ((0 : Int32)).toNatClampNeg) := inb_of Sz68 ⟨by decide, by decide⟩
        obtain ⟨T69, h69, X69, e69, W69, st69⟩ := stC X63 hx hZ e63 Ar68 (j := (0 : Int32)) hin68 (g := (mkF m 91 #[.val (.int len), .val (.int p0), .val (.int p1), .val (.int p2), .val (.int p3), .val (.int (Int32.ofNat n)), .val (.ref b11), .unset, .unset, .unset, .unset, .unset, .unset, .unset, .unset, .unset] [(.int (nar .char cc14)), (.int (0 : Int32)), (.ref b63), (.ref b63)])) rfl rfl (hb hby at_91)
        have V_b63_69 : Arv Z h69 b63 k63 .char (2 : Int32) [(.int (nar .char (nar .char cc14))), (.int (0 : Int32))] (.int (0 : Int32)) := Arv.set Ar68 qc68 Sz68 Nn68 Hs68 Gf68 (fits_nar_char _) W69 0 rfl (Nat.le_of_ble_eq_true rfl)
        have N69 := Fr.snoc X69 N28 n0_b63
        have OL70 := OL65.wr W69 n0_b63
        have hB70 := hB65.wr W69 (Safe.arr hZ.alike Ar68 (by decide))
        refine own_up st69 ?_
        show OwnOk p e below _ (T69.setTop (mkF m 92 #[.val (.int len), .val (.int p0), .val (.int p1), .val (.int p2), .val (.int p3), .val (.int (Int32.ofNat n)), .val (.ref b11), .unset, .unset, .unset, .unset, .unset, .unset, .unset, .unset, .unset] [(.ref b63)]))
        refine own_up (fun tx kx => XS.dup X69.here hx rfl (hb hby at_92) rfl rfl kx) ?_
        show OwnOk p e below _ (T69.setTop (mkF m 93 #[.val (.int len), .val (.int p0), .val (.int p1), .val (.int p2), .val (.int p3), .val (.int (Int32.ofNat n)), .val (.ref b11), .unset, .unset, .unset, .unset, .unset, .unset, .unset, .unset, .unset] [(.ref b63), (.ref b63)]))
        refine own_up (fun tx kx => XS.iconst X69.here hx rfl (hb hby at_93) kx) ?_
        show OwnOk p e below _ (T69.setTop (mkF m 94 #[.val (.int len), .val (.int p0), .val (.int p1), .val (.int p2), .val (.int p3), .val (.int (Int32.ofNat n)), .val (.ref b11), .unset, .unset, .unset, .unset, .unset, .unset, .unset, .unset, .unset] [(.int (1 : Int32)), (.ref b63), (.ref b63)]))
        refine own_up (fun tx kx => XS.aload X69.here hx rfl (hb hby at_94) rfl rfl kx) ?_
        show OwnOk p e below _ (T69.setTop (mkF m 96 #[.val (.int len), .val (.int p0), .val (.int p1), .val (.int p2), .val (.int p3), .val (.int (Int32.ofNat n)), .val (.ref b11), .unset, .unset, .unset, .unset, .unset, .unset, .unset, .unset, .unset] [(.ref b11), (.int (1 : Int32)), (.ref b63), (.ref b63)]))
        refine own_up (fun tx kx => XS.iconst X69.here hx rfl (hb hby at_96) kx) ?_
        show OwnOk p e below _ (T69.setTop (mkF m 97 #[.val (.int len), .val (.int p0), .val (.int p1), .val (.int p2), .val (.int p3), .val (.int (Int32.ofNat n)), .val (.ref b11), .unset, .unset, .unset, .unset, .unset, .unset, .unset, .unset, .unset] [(.int (1 : Int32)), (.ref b11), (.int (1 : Int32)), (.ref b63), (.ref b63)]))
        have V_b11_71 := (V_b11_66.other W69 (Nat.ne_of_lt lt_b11_b63))
        obtain ⟨cl72, Ar72, qc72, Sz72, Nn72, Hs72, Gf72⟩ := id V_b11_71
        have hin72 : ¬ ((1 : Int32) < 0 ∨ cl72.slots.size ≤ ((1 : Int32)).toNatClampNeg) := inb_of Sz72 ⟨by decide, by decide⟩
        have hat72 : cl72.slots[((1 : Int32)).toNatClampNeg]? = some (.int (nar .char cc18)) := Hs72.at hin72 rfl
        refine own_up (fun tx kx => X69.caload hx (j := (1 : Int32)) (v := (.int (nar .char cc18))) (own_ar e69 Ar72.1) (State.isArrayOf_alike hZ.alike Ar72.2.1) Ar72.2.2 hin72 hat72 (g := (mkF m 97 #[.val (.int len), .val (.int p0), .val (.int p1), .val (.int p2), .val (.int p3), .val (.int (Int32.ofNat n)), .val (.ref b11), .unset, .unset, .unset, .unset, .unset, .unset, .unset, .unset, .unset] [(.int (1 : Int32)), (.ref b11), (.int (1 : Int32)), (.ref b63), (.ref b63)])) rfl rfl (hb hby at_97) _ kx) ?_
        show OwnOk p e below _ (T69.setTop (mkF m 98 #[.val (.int len), .val (.int p0), .val (.int p1), .val (.int p2), .val (.int p3), .val (.int (Int32.ofNat n)), .val (.ref b11), .unset, .unset, .unset, .unset, .unset, .unset, .unset, .unset, .unset] [(.int (nar .char cc18)), (.int (1 : Int32)), (.ref b63), (.ref b63)]))
        obtain ⟨cl73, Ar73, qc73, Sz73, Nn73, Hs73, Gf73⟩ := id V_b63_69
        have hin73 : ¬ ((1 : Int32) < 0 ∨ cl73.slots.size ≤ ((1 : Int32)).toNatClampNeg) := inb_of Sz73 ⟨by decide, by decide⟩
        obtain ⟨T74, h74, X74, e74, W74, st74⟩ := stC X69 hx hZ e69 Ar73 (j := (1 : Int32)) hin73 (g := (mkF m 98 #[.val (.int len), .val (.int p0), .val (.int p1), .val (.int p2), .val (.int p3), .val (.int (Int32.ofNat n)), .val (.ref b11), .unset, .unset, .unset, .unset, .unset, .unset, .unset, .unset, .unset] [(.int (nar .char cc18)), (.int (1 : Int32)), (.ref b63), (.ref b63)])) rfl rfl (hb hby at_98)
        have V_b63_74 : Arv Z h74 b63 k63 .char (2 : Int32) [(.int (nar .char (nar .char cc14))), (.int (nar .char (nar .char cc18)))] (.int (0 : Int32)) := Arv.set Ar73 qc73 Sz73 Nn73 Hs73 Gf73 (fits_nar_char _) W74 1 rfl (Nat.le_of_ble_eq_true rfl)
        have N74 := Fr.snoc X74 N69 n0_b63
        have OL75 := OL70.wr W74 n0_b63
        have hB75 := hB70.wr W74 (Safe.arr hZ.alike Ar73 (by decide))
        refine own_up st74 ?_
        show OwnOk p e below _ (T74.setTop (mkF m 99 #[.val (.int len), .val (.int p0), .val (.int p1), .val (.int p2), .val (.int p3), .val (.int (Int32.ofNat n)), .val (.ref b11), .unset, .unset, .unset, .unset, .unset, .unset, .unset, .unset, .unset] [(.ref b63)]))
        refine own_up (fun tx kx => XS.astore X74.here hx rfl (hb hby at_99) rfl rfl (l' := #[.val (.int len), .val (.int p0), .val (.int p1), .val (.int p2), .val (.int p3), .val (.int (Int32.ofNat n)), .val (.ref b11), .val (.ref b63), .unset, .unset, .unset, .unset, .unset, .unset, .unset, .unset]) rfl kx) ?_
        show OwnOk p e below _ (T74.setTop (mkF m 101 #[.val (.int len), .val (.int p0), .val (.int p1), .val (.int p2), .val (.int p3), .val (.int (Int32.ofNat n)), .val (.ref b11), .val (.ref b63), .unset, .unset, .unset, .unset, .unset, .unset, .unset, .unset] []))
        refine own_up (fun tx kx => XS.goto X74.here hx rfl (pc0 := 101) (pc' := 172) rfl (hb hby at_101) (by decide) (by decide) kx) ?_
        show OwnOk p e below _ (T74.setTop (mkF m 172 #[.val (.int len), .val (.int p0), .val (.int p1), .val (.int p2), .val (.int p3), .val (.int (Int32.ofNat n)), .val (.ref b11), .val (.ref b63), .unset, .unset, .unset, .unset, .unset, .unset, .unset, .unset] []))
        obtain rfl : n = 2 := own_ofNatEq (n := 2) e2_ (by omega) (by decide)
        show OwnOk p e below _ (T74.setTop (mkF m 172 #[.val (.int len), .val (.int p0), .val (.int p1), .val (.int p2), .val (.int p3), .val (.int (Int32.ofNat 2)), .val (.ref b11), .val (.ref b63), .unset, .unset, .unset, .unset, .unset, .unset, .unset, .unset] []))
        obtain ⟨T76, h76, X76, e76, E76, A76, D76, -, st76⟩ := newO X74 hx hZ hown (wd_6 hw) (wd_7 hw) (wd_8 hw) e74 (g := (mkF m 172 #[.val (.int len), .val (.int p0), .val (.int p1), .val (.int p2), .val (.int p3), .val (.int (Int32.ofNat 2)), .val (.ref b11), .val (.ref b63), .unset, .unset, .unset, .unset, .unset, .unset, .unset, .unset] [])) rfl (hb hby at_172) (by decide) (by decide)
        obtain ⟨b76, g76⟩ : ∃ z, z = h74.size := ⟨_, rfl⟩
        rw [← g76] at A76 D76 st76
        have sz_b76 : h74.size ≤ b76 := Nat.le_of_eq g76.symm
        have V_b11_78 := (V_b11_71.other W74 (Nat.ne_of_lt lt_b11_b63))
        have lt_b11_b76 : b11 < b76 := Nat.lt_of_lt_of_le V_b11_78.lt sz_b76
        have lt_b63_b76 : b63 < b76 := Nat.lt_of_lt_of_le V_b63_74.lt sz_b76
        have n0_b76 : n0 ≤ b76 := Nat.le_trans (own_n0 OL75) sz_b76
        have F_value_b76 : Fld Z h76 b76 "java/lang/String" "value" "[B" .null := D76 (Or.inr (wd_21 hw)) (ty := (.array .byte)) (by decide)
        have F_coder_b76 : Fld Z h76 b76 "java/lang/String" "coder" "B" (.int (0 : Int32)) := D76 (Or.inr (wd_22 hw)) (ty := .byte) (by decide)
        have OL79 := OL75.ext E76
        have hB79 := hB75.ext E76
        have sf_b76_80 := hB75.sNew E76 sz_b76
        refine own_up st76 ?_
        show OwnOk p e below _ (T76.setTop (mkF m 175 #[.val (.int len), .val (.int p0), .val (.int p1), .val (.int p2), .val (.int p3), .val (.int (Int32.ofNat 2)), .val (.ref b11), .val (.ref b63), .unset, .unset, .unset, .unset, .unset, .unset, .unset, .unset] [(.ref b76)]))
        refine own_up (fun tx kx => XS.dup X76.here hx rfl (hb hby at_175) rfl rfl kx) ?_
        show OwnOk p e below _ (T76.setTop (mkF m 176 #[.val (.int len), .val (.int p0), .val (.int p1), .val (.int p2), .val (.int p3), .val (.int (Int32.ofNat 2)), .val (.ref b11), .val (.ref b63), .unset, .unset, .unset, .unset, .unset, .unset, .unset, .unset] [(.ref b76), (.ref b76)]))
        refine own_up (fun tx kx => XS.aload X76.here hx rfl (hb hby at_176) rfl rfl kx) ?_
        show OwnOk p e below _ (T76.setTop (mkF m 178 #[.val (.int len), .val (.int p0), .val (.int p1), .val (.int p2), .val (.int p3), .val (.int (Int32.ofNat 2)), .val (.ref b11), .val (.ref b63), .unset, .unset, .unset, .unset, .unset, .unset, .unset, .unset] [(.ref b63), (.ref b76), (.ref b76)]))
        have V_b63_81 := (V_b63_74.ext E76)
        refine own_callC X76 hx hZ (y := (⟨"java/lang/String", "<init>", "([C)V"⟩ : MethodName)) rfl hown (wd_9 hw) (wd_10 hw) (wd_8 hw) (wd_11 hw) (by decide) (c_init1_2 l Z a0 hw b76 b63 k63 (nar .char (nar .char cc14)) (nar .char (nar .char cc18)) cz h76 n0 OL79 SC hcz A76 F_value_b76 F_coder_b76 n0_b76 V_b63_81 (Nat.ne_of_gt lt_b63_b76) (own_ncl (own_ncl hc14)).2 (own_ncl (own_ncl hc18)).2) e76 (argsL := [(.ref b63)]) (rest := [(.ref b76)]) (a := b76) (by rw [hml]; rfl) (lenOf pd_20 rfl) rfl rfl (W := 1) rfl (hb hby at_178) (by decide) (by decide) (by decide) (by decide) (fun T82 v82 L82 X82 hQ82 => ?_)
        obtain ⟨rfl, Nq82, Kq82, uu82, ku82, gu82, ea82, fv82, fc82, vu82⟩ := hQ82
        have N82 := Fr.app N74 Nq82
        have hB82 := hB79.keep Kq82 (own_safS sf_b76_80 own_saf0)
        have sf_b76_83 := hB79.sKeep Kq82 (own_safS sf_b76_80 own_saf0) sf_b76_80
        have OL82 := OL79.keep Kq82 (allS n0_b76 all0)
        show OwnOk p e below _ (T82.setTop (mkF m 181 #[.val (.int len), .val (.int p0), .val (.int p1), .val (.int p2), .val (.int p3), .val (.int (Int32.ofNat 2)), .val (.ref b11), .val (.ref b63), .unset, .unset, .unset, .unset, .unset, .unset, .unset, .unset] [(.ref b76)]))
        refine own_callSH X82 hB82 (own_ew hw) (sf := []) own_saf0 own_lt0 hx hZ (y := (⟨"com/example/strict_replay/strictreplay/rules/FieldValues", "trim", "(Ljava/lang/String;)Ljava/lang/String;"⟩ : MethodName)) hown (wd_27 hw) (wd_28 hw) (wd_29 hw) (wd_30 hw) (by decide) (m_trim l Z a0 hw b76 uu82 ku82 2 (fun j => [(nar .byte ((nar .char (nar .char cc14)).toInt8.toInt32)), (nar .byte ((nar .char (nar .char cc18)).toInt8.toInt32))].getD j 0) cz fm hfm T82.heap n0 OL82 SC hcz SF ea82 fv82 fc82 vu82 (by decide)) rfl (argsL := [(.ref b76)]) (rest := []) (by rw [hml]; rfl) (lenOf pd_21 rfl) rfl rfl (W := 0) rfl (hb hby at_181) (by decide) (by decide) (by decide) (by decide) (fun s84 T84 v84 L84 X84 hB84 hZ84 hown84 hQ84 sf84 => ?_)
        obtain ⟨rr84, ur84, kr84, gr84, rfl, Nq84, Kq84, hse84, hen84, hg84, er84, fv84, fc84, vr84⟩ := hQ84
        have N84 := Fr.app N82 Nq84
        have sf_b76_85 := sf84 b76 ea82.lt sf_b76_83
        have OL84 := OL82.keep Kq84 all0
        show OwnOk p e below _ (T84.setTop (mkF m 184 #[.val (.int len), .val (.int p0), .val (.int p1), .val (.int p2), .val (.int p3), .val (.int (Int32.ofNat 2)), .val (.ref b11), .val (.ref b63), .unset, .unset, .unset, .unset, .unset, .unset, .unset, .unset] [(.ref rr84)]))
        refine own_up (fun tx kx => XS.astore X84.here hx rfl (hb hby at_184) rfl rfl (l' := #[.val (.int len), .val (.int p0), .val (.int p1), .val (.int p2), .val (.int p3), .val (.int (Int32.ofNat 2)), .val (.ref b11), .val (.ref b63), .val (.ref rr84), .unset, .unset, .unset, .unset, .unset, .unset, .unset]) rfl kx) ?_
        show OwnOk p e below _ (T84.setTop (mkF m 186 #[.val (.int len), .val (.int p0), .val (.int p1), .val (.int p2), .val (.int p3), .val (.int (Int32.ofNat 2)), .val (.ref b11), .val (.ref b63), .val (.ref rr84), .unset, .unset, .unset, .unset, .unset, .unset, .unset] []))
        have hcg : ∀ j, j < 2 → (fun j => own_c8 ((fun j => [(nar .byte ((nar .char (nar .char cc14)).toInt8.toInt32)), (nar .byte ((nar .char (nar .char cc18)).toInt8.toInt32))].getD j 0) j)) j = (fun j => [(nar .char cc14), (nar .char cc18), (nar .char cc22), (nar .char cc26)].getD j 0) j := (fun j hj => by
            match j, hj with
            | 0, _ => exact own_b8c (own_ncl hc14)
            | 1, _ => exact own_b8c (own_ncl hc18))
        have e1 := own_ts_congr hcg
        have e2 := own_te_congr hcg
        rw [e1, e2] at hse84 hg84 vr84
        rw [e2] at hen84
        have hgg : ∀ j, j < own_te 2 (fun j => [(nar .char cc14), (nar .char cc18), (nar .char cc22), (nar .char cc26)].getD j 0) - own_ts 2 (fun j => [(nar .char cc14), (nar .char cc18), (nar .char cc22), (nar .char cc26)].getD j 0) → own_c8 (gr84 j) = [(nar .char cc14), (nar .char cc18), (nar .char cc22), (nar .char cc26)].getD (own_ts 2 (fun j => [(nar .char cc14), (nar .char cc18), (nar .char cc22), (nar .char cc26)].getD j 0) + j) 0 := fun j hj => by rw [hg84 j hj]; exact hcg _ (by omega)
        have V_b11_86 := (((V_b11_78.ext E76).keep Kq82 (ninS (Nat.ne_of_lt lt_b11_b76) nin0)).keep Kq84 nin0)
        exact law_186 l Z a0 hw len p0 p1 p2 p3 2 b11 b63 rr84 ur84 k11 kr84 gr84 (nar .char cc14) (nar .char cc18) (nar .char cc22) (nar .char cc26) 0 0 0 0 cz fm hfm hx hby hml hret hlk (X84.mono (Nat.le_of_ble_eq_true rfl) (Nat.le_of_ble_eq_true rfl)) rfl hZ84 hown84 n0 OL84 N84 hB84 SC hcz SF er84 fv84 fc84 vr84 V_b11_86 (by decide) hse84 hen84 hgg
      · refine own_up (fun tx kx => XS.icmpYes X28.here hx rfl (pc0 := 79) (pc' := 104) rfl (hb hby at_79) rfl (feq e2_).2 (by decide) (by decide) kx) ?_
        show OwnOk p e below _ (T28.setTop (mkF m 104 #[.val (.int len), .val (.int p0), .val (.int p1), .val (.int p2), .val (.int p3), .val (.int (Int32.ofNat n)), .val (.ref b11), .unset, .unset, .unset, .unset, .unset, .unset, .unset, .unset, .unset] []))
        refine own_up (fun tx kx => XS.iload X28.here hx rfl (hb hby at_104) rfl kx) ?_
        show OwnOk p e below _ (T28.setTop (mkF m 106 #[.val (.int len), .val (.int p0), .val (.int p1), .val (.int p2), .val (.int p3), .val (.int (Int32.ofNat n)), .val (.ref b11), .unset, .unset, .unset, .unset, .unset, .unset, .unset, .unset, .unset] [(.int (Int32.ofNat n))]))
        refine own_up (fun tx kx => XS.iconst X28.here hx rfl (hb hby at_106) kx) ?_
        show OwnOk p e below _ (T28.setTop (mkF m 107 #[.val (.int len), .val (.int p0), .val (.int p1), .val (.int p2), .val (.int p3), .val (.int (Int32.ofNat n)), .val (.ref b11), .unset, .unset, .unset, .unset, .unset, .unset, .unset, .unset, .unset] [(.int (3 : Int32)), (.int (Int32.ofNat n))]))
        by_cases e3_ : (Int32.ofNat n) = (3 : Int32)
        · refine own_up (fun tx kx => XS.icmpNo X28.here hx rfl (hb hby at_107) rfl (teq e3_).2 kx) ?_
          show OwnOk p e below _ (T28.setTop (mkF m 110 #[.val (.int len), .val (.int p0), .val (.int p1), .val (.int p2), .val (.int p3), .val (.int (Int32.ofNat n)), .val (.ref b11), .unset, .unset, .unset, .unset, .unset, .unset, .unset, .unset, .unset] []))
          refine own_up (fun tx kx => XS.iconst X28.here hx rfl (hb hby at_110) kx) ?_
          show OwnOk p e below _ (T28.setTop (mkF m 111 #[.val (.int len), .val (.int p0), .val (.int p1), .val (.int p2), .val (.int p3), .val (.int (Int32.ofNat n)), .val (.ref b11), .unset, .unset, .unset, .unset, .unset, .unset, .unset, .unset, .unset] [(.int (3 : Int32))]))
          obtain ⟨T87, h87, k87, X87, e87, E87, A87, st87⟩ := newP (aty := .char) X28 hx hZ (wd_1 hw) e28 (g := (mkF m 111 #[.val (.int len), .val (.int p0), .val (.int p1), .val (.int p2), .val (.int p3), .val (.int (Int32.ofNat n)), .val (.ref b11), .unset, .unset, .unset, .unset, .unset, .unset, .unset, .unset, .unset] [(.int (3 : Int32))])) rfl (hb hby at_111) rfl (by decide) (cap := 3) (by decide) (by decide) (by decide) (by decide)
          obtain ⟨b87, g87⟩ : ∃ z, z = h28.size := ⟨_, rfl⟩
          rw [← g87] at A87 st87
          have sz_b87 : h28.size ≤ b87 := Nat.le_of_eq g87.symm
          have lt_b11_b87 : b11 < b87 := Nat.lt_of_lt_of_le V_b11_28.lt sz_b87
          have n0_b87 : n0 ≤ b87 := Nat.le_trans (own_n0 OL29) sz_b87
          have V_b87 : Arv Z h87 b87 k87 .char (3 : Int32) [(.int (0 : Int32)), (.int (0 : Int32)), (.int (0 : Int32))] (.int (0 : Int32)) := (Arv.new A87 (by decide)).pad (pad_rep [] (.int (0 : Int32)) 3)
          have OL89 := OL29.ext E87
          have hB89 := hB29.ext E87
          refine own_up st87 ?_
          show OwnOk p e below _ (T87.setTop (mkF m 113 #[.val (.int len), .val (.int p0), .val (.int p1), .val (.int p2), .val (.int p3), .val (.int (Int32.ofNat n)), .val (.ref b11), .unset, .unset, .unset, .unset, .unset, .unset, .unset, .unset, .unset] [(.ref b87)]))
          refine own_up (fun tx kx => XS.dup X87.here hx rfl (hb hby at_113) rfl rfl kx) ?_
          show OwnOk p e below _ (T87.setTop (mkF m 114 #[.val (.int len), .val (.int p0), .val (.int p1), .val (.int p2), .val (.int p3), .val (.int (Int32.ofNat n)), .val (.ref b11), .unset, .unset, .unset, .unset, .unset, .unset, .unset, .unset, .unset] [(.ref b87), (.ref b87)]))
          refine own_up (fun tx kx => XS.iconst X87.here hx rfl (hb hby at_114) kx) ?_
          show OwnOk p e below _ (T87.setTop (mkF m 115 #[.val (.int len), .val (.int p0), .val (.int p1), .val (.int p2), .val (.int p3), .val (.int (Int32.ofNat n)), .val (.ref b11), .unset, .unset, .unset, .unset, .unset, .unset, .unset, .unset, .unset] [(.int (0 : Int32)), (.ref b87), (.ref b87)]))
          refine own_up (fun tx kx => XS.aload X87.here hx rfl (hb hby at_115) rfl rfl kx) ?_
          show OwnOk p e below _ (T87.setTop (mkF m 117 #[.val (.int len), .val (.int p0), .val (.int p1), .val (.int p2), .val (.int p3), .val (.int (Int32.ofNat n)), .val (.ref b11), .unset, .unset, .unset, .unset, .unset, .unset, .unset, .unset, .unset] [(.ref b11), (.int (0 : Int32)), (.ref b87), (.ref b87)]))
          refine own_up (fun tx kx => XS.iconst X87.here hx rfl (hb hby at_117) kx) ?_
          show OwnOk p e below _ (T87.setTop (mkF m 118 #[.val (.int len), .val (.int p0), .val (.int p1), .val (.int p2), .val (.int p3), .val (.int (Int32.ofNat n)), .val (.ref b11), .unset, .unset, .unset, .unset, .unset, .unset, .unset, .unset, .unset] [(.int (0 : Int32)), (.ref b11), (.int (0 : Int32)), (.ref b87), (.ref b87)]))
          have V_b11_90 := (V_b11_28.ext E87)
          obtain ⟨cl91, Ar91, qc91, Sz91, Nn91, Hs91, Gf91⟩ := id V_b11_90
          have hin91 : ¬ ((0 : Int32) < 0 ∨ cl91.slots.size ≤ ((0 : Int32)).toNatClampNeg) := inb_of Sz91 ⟨by decide, by decide⟩
          have hat91 : cl91.slots[((0 : Int32)).toNatClampNeg]? = some (.int (nar .char cc14)) := Hs91.at hin91 rfl
          refine own_up (fun tx kx => X87.caload hx (j := (0 : Int32)) (v := (.int (nar .char cc14))) (own_ar e87 Ar91.1) (State.isArrayOf_alike hZ.alike Ar91.2.1) Ar91.2.2 hin91 hat91 (g := (mkF m 118 #[.val (.int len), .val (.int p0), .val (.int p1), .val (.int p2), .val (.int p3), .val (.int (Int32.ofNat n)), .val (.ref b11), .unset, .unset, .unset, .unset, .unset, .unset, .unset, .unset, .unset] [(.int (0 : Int32)), (.ref b11), (.int (0 : Int32)), (.ref b87), (.ref b87)])) rfl rfl (hb hby at_118) _ kx) ?_
          show OwnOk p e below _ (T87.setTop (mkF m 119 #[.val (.int len), .val (.int p0), .val (.int p1), .val (.int p2), .val (.int p3), .val (.int (Int32.ofNat n)), .val (.ref b11), .unset, .unset, .unset, .unset, .unset, .unset, .unset, .unset, .unset] [(.int (nar .char cc14)), (.int (0 : Int32)), (.ref b87), (.ref b87)]))
          obtain ⟨cl92, Ar92, qc92, Sz92, Nn92, Hs92, Gf92⟩ := id V_b87
          have hin92 : ¬ ((0 : Int32) < 0 ∨ cl92.slots.size ≤ ((0 : Int32)).toNatClampNeg) := inb_of Sz92 ⟨by decide, by decide⟩
          obtain ⟨T93, h93, X93, e93, W93, st93⟩ := stC X87 hx hZ e87 Ar92 (j := (0 : Int32)) hin92 (g := (mkF m 119 #[.val (.int len), .val (.int p0), .val (.int p1), .val (.int p2), .val (.int p3), .val (.int (Int32.ofNat n)), .val (.ref b11), .unset, .unset, .unset, .unset, .unset, .unset, .unset, .unset, .unset] [(.int (nar .char cc14)), (.int (0 : Int32)), (.ref b87), (.ref b87)])) rfl rfl (hb hby at_119)
          have V_b87_93 : Arv Z h93 b87 k87 .char (3 : Int32) [(.int (nar .char (nar .char cc14))), (.int (0 : Int32)), (.int (0 : Int32))] (.int (0 : Int32)) := Arv.set Ar92 qc92 Sz92 Nn92 Hs92 Gf92 (fits_nar_char _) W93 0 rfl (Nat.le_of_ble_eq_true rfl)
          have N93 := Fr.snoc X93 N28 n0_b87
          have OL94 := OL89.wr W93 n0_b87
          have hB94 := hB89.wr W93 (Safe.arr hZ.alike Ar92 (by decide))
          refine own_up st93 ?_
          show OwnOk p e below _ (T93.setTop (mkF m 120 #[.val (.int len), .val (.int p0), .val (.int p1), .val (.int p2), .val (.int p3), .val (.int (Int32.ofNat n)), .val (.ref b11), .unset, .unset, .unset, .unset, .unset, .unset, .unset, .unset, .unset] [(.ref b87)]))
          refine own_up (fun tx kx => XS.dup X93.here hx rfl (hb hby at_120) rfl rfl kx) ?_
          show OwnOk p e below _ (T93.setTop (mkF m 121 #[.val (.int len), .val (.int p0), .val (.int p1), .val (.int p2), .val (.int p3), .val (.int (Int32.ofNat n)), .val (.ref b11), .unset, .unset, .unset, .unset, .unset, .unset, .unset, .unset, .unset] [(.ref b87), (.ref b87)]))
          refine own_up (fun tx kx => XS.iconst X93.here hx rfl (hb hby at_121) kx) ?_
          show OwnOk p e below _ (T93.setTop (mkF m 122 #[.val (.int len), .val (.int p0), .val (.int p1), .val (.int p2), .val (.int p3), .val (.int (Int32.ofNat n)), .val (.ref b11), .unset, .unset, .unset, .unset, .unset, .unset, .unset, .unset, .unset] [(.int (1 : Int32)), (.ref b87), (.ref b87)]))
          refine own_up (fun tx kx => XS.aload X93.here hx rfl (hb hby at_122) rfl rfl kx) ?_
          show OwnOk p e below _ (T93.setTop (mkF m 124 #[.val (.int len), .val (.int p0), .val (.int p1), .val (.int p2), .val (.int p3), .val (.int (Int32.ofNat n)), .val (.ref b11), .unset, .unset, .unset, .unset, .unset, .unset, .unset, .unset, .unset] [(.ref b11), (.int (1 : Int32)), (.ref b87), (.ref b87)]))
          refine own_up (fun tx kx => XS.iconst X93.here hx rfl (hb hby at_124) kx) ?_
          show OwnOk p e below _ (T93.setTop (mkF m 125 #[.val (.int len), .val (.int p0), .val (.int p1), .val (.int p2), .val (.int p3), .val (.int (Int32.ofNat n)), .val (.ref b11), .unset, .unset, .unset, .unset, .unset, .unset, .unset, .unset, .unset] [(.int (1 : Int32)), (.ref b11), (.int (1 : Int32)), (.ref b87), (.ref b87)]))
          have V_b11_95 := (V_b11_90.other W93 (Nat.ne_of_lt lt_b11_b87))
          obtain ⟨cl96, Ar96, qc96, Sz96, Nn96, Hs96, Gf96⟩ := id V_b11_95
          have hin96 : ¬ ((1 : Int32) < 0 ∨ cl96.slots.size ≤ ((1 : Int32)).toNatClampNeg) := inb_of Sz96 ⟨by decide, by decide⟩
          have hat96 : cl96.slots[((1 : Int32)).toNatClampNeg]? = some (.int (nar .char cc18)) := Hs96.at hin96 rfl
          refine own_up (fun tx kx => X93.caload hx (j := (1 : Int32)) (v := (.int (nar .char cc18))) (own_ar e93 Ar96.1) (State.isArrayOf_alike hZ.alike Ar96.2.1) Ar96.2.2 hin96 hat96 (g := (mkF m 125 #[.val (.int len), .val (.int p0), .val (.int p1), .val (.int p2), .val (.int p3), .val (.int (Int32.ofNat n)), .val (.ref b11), .unset, .unset, .unset, .unset, .unset, .unset, .unset, .unset, .unset] [(.int (1 : Int32)), (.ref b11), (.int (1 : Int32)), (.ref b87), (.ref b87)])) rfl rfl (hb hby at_125) _ kx) ?_
          show OwnOk p e below _ (T93.setTop (mkF m 126 #[.val (.int len), .val (.int p0), .val (.int p1), .val (.int p2), .val (.int p3), .val (.int (Int32.ofNat n)), .val (.ref b11), .unset, .unset, .unset, .unset, .unset, .unset, .unset, .unset, .unset] [(.int (nar .char cc18)), (.int (1 : Int32)), (.ref b87), (.ref b87)]))
          obtain ⟨cl97, Ar97, qc97, Sz97, Nn97, Hs97, Gf97⟩ := id V_b87_93
          have hin97 : ¬ ((1 : Int32) < 0 ∨ cl97.slots.size ≤ ((1 : Int32)).toNatClampNeg) := inb_of Sz97 ⟨by decide, by decide⟩
          obtain ⟨T98, h98, X98, e98, W98, st98⟩ := stC X93 hx hZ e93 Ar97 (j := (1 : Int32)) hin97 (g := (mkF m 126 #[.val (.int len), .val (.int p0), .val (.int p1), .val (.int p2), .val (.int p3), .val (.int (Int32.ofNat n)), .val (.ref b11), .unset, .unset, .unset, .unset, .unset, .unset, .unset, .unset, .unset] [(.int (nar .char cc18)), (.int (1 : Int32)), (.ref b87), (.ref b87)])) rfl rfl (hb hby at_126)
          have V_b87_98 : Arv Z h98 b87 k87 .char (3 : Int32) [(.int (nar .char (nar .char cc14))), (.int (nar .char (nar .char cc18))), (.int (0 : Int32))] (.int (0 : Int32)) := Arv.set Ar97 qc97 Sz97 Nn97 Hs97 Gf97 (fits_nar_char _) W98 1 rfl (Nat.le_of_ble_eq_true rfl)
          have N98 := Fr.snoc X98 N93 n0_b87
          have OL99 := OL94.wr W98 n0_b87
          have hB99 := hB94.wr W98 (Safe.arr hZ.alike Ar97 (by decide))
          refine own_up st98 ?_
          show OwnOk p e below _ (T98.setTop (mkF m 127 #[.val (.int len), .val (.int p0), .val (.int p1), .val (.int p2), .val (.int p3), .val (.int (Int32.ofNat n)), .val (.ref b11), .unset, .unset, .unset, .unset, .unset, .unset, .unset, .unset, .unset] [(.ref b87)]))
          refine own_up (fun tx kx => XS.dup X98.here hx rfl (hb hby at_127) rfl rfl kx) ?_
          show OwnOk p e below _ (T98.setTop (mkF m 128 #[.val (.int len), .val (.int p0), .val (.int p1), .val (.int p2), .val (.int p3), .val (.int (Int32.ofNat n)), .val (.ref b11), .unset, .unset, .unset, .unset, .unset, .unset, .unset, .unset, .unset] [(.ref b87), (.ref b87)]))
          refine own_up (fun tx kx => XS.iconst X98.here hx rfl (hb hby at_128) kx) ?_
          show OwnOk p e below _ (T98.setTop (mkF m 129 #[.val (.int len), .val (.int p0), .val (.int p1), .val (.int p2), .val (.int p3), .val (.int (Int32.ofNat n)), .val (.ref b11), .unset, .unset, .unset, .unset, .unset, .unset, .unset, .unset, .unset] [(.int (2 : Int32)), (.ref b87), (.ref b87)]))
          refine own_up (fun tx kx => XS.aload X98.here hx rfl (hb hby at_129) rfl rfl kx) ?_
          show OwnOk p e below _ (T98.setTop (mkF m 131 #[.val (.int len), .val (.int p0), .val (.int p1), .val (.int p2), .val (.int p3), .val (.int (Int32.ofNat n)), .val (.ref b11), .unset, .unset, .unset, .unset, .unset, .unset, .unset, .unset, .unset] [(.ref b11), (.int (2 : Int32)), (.ref b87), (.ref b87)]))
          refine own_up (fun tx kx => XS.iconst X98.here hx rfl (hb hby at_131) kx) ?_
          show OwnOk p e below _ (T98.setTop (mkF m 132 #[.val (.int len), .val (.int p0), .val (.int p1), .val (.int p2), .val (.int p3), .val (.int (Int32.ofNat n)), .val (.ref b11), .unset, .unset, .unset, .unset, .unset, .unset, .unset, .unset, .unset] [(.int (2 : Int32)), (.ref b11), (.int (2 : Int32)), (.ref b87), (.ref b87)]))
          have V_b11_100 := (V_b11_95.other W98 (Nat.ne_of_lt lt_b11_b87))
          obtain ⟨cl101, Ar101, qc101, Sz101, Nn101, Hs101, Gf101⟩ := id V_b11_100
          have hin101 : ¬ ((2 : Int32) < 0 ∨ cl101.slots.size ≤ ((2 : Int32)).toNatClampNeg) := inb_of Sz101 ⟨by decide, by decide⟩
          have hat101 : cl101.slots[((2 : Int32)).toNatClampNeg]? = some (.int (nar .char cc22)) := Hs101.at hin101 rfl
          refine own_up (fun tx kx => X98.caload hx (j := (2 : Int32)) (v := (.int (nar .char cc22))) (own_ar e98 Ar101.1) (State.isArrayOf_alike hZ.alike Ar101.2.1) Ar101.2.2 hin101 hat101 (g := (mkF m 132 #[.val (.int len), .val (.int p0), .val (.int p1), .val (.int p2), .val (.int p3), .val (.int (Int32.ofNat n)), .val (.ref b11), .unset, .unset, .unset, .unset, .unset, .unset, .unset, .unset, .unset] [(.int (2 : Int32)), (.ref b11), (.int (2 : Int32)), (.ref b87), (.ref b87)])) rfl rfl (hb hby at_132) _ kx) ?_
          show OwnOk p e below _ (T98.setTop (mkF m 133 #[.val (.int len), .val (.int p0), .val (.int p1), .val (.int p2), .val (.int p3), .val (.int (Int32.ofNat n)), .val (.ref b11), .unset, .unset, .unset, .unset, .unset, .unset, .unset, .unset, .unset] [(.int (nar .char cc22)), (.int (2 : Int32)), (.ref b87), (.ref b87)]))
          obtain ⟨cl102, Ar102, qc102, Sz102, Nn102, Hs102, Gf102⟩ := id V_b87_98
          have hin102 : ¬ ((2 : Int32) < 0 ∨ cl102.slots.size ≤ ((2 : Int32)).toNatClampNeg) := inb_of Sz102 ⟨by decide, by decide⟩
          obtain ⟨T103, h103, X103, e103, W103, st103⟩ := stC X98 hx hZ e98 Ar102 (j := (2 : Int32)) hin102 (g := (mkF m 133 #[.val (.int len), .val (.int p0), .val (.int p1), .val (.int p2), .val (.int p3), .val (.int (Int32.ofNat n)), .val (.ref b11), .unset, .unset, .unset, .unset, .unset, .unset, .unset, .unset, .unset] [(.int (nar .char cc22)), (.int (2 : Int32)), (.ref b87), (.ref b87)])) rfl rfl (hb hby at_133)
          have V_b87_103 : Arv Z h103 b87 k87 .char (3 : Int32) [(.int (nar .char (nar .char cc14))), (.int (nar .char (nar .char cc18))), (.int (nar .char (nar .char cc22)))] (.int (0 : Int32)) := Arv.set Ar102 qc102 Sz102 Nn102 Hs102 Gf102 (fits_nar_char _) W103 2 rfl (Nat.le_of_ble_eq_true rfl)
          have N103 := Fr.snoc X103 N98 n0_b87
          have OL104 := OL99.wr W103 n0_b87
          have hB104 := hB99.wr W103 (Safe.arr hZ.alike Ar102 (by decide))
          refine own_up st103 ?_
          show OwnOk p e below _ (T103.setTop (mkF m 134 #[.val (.int len), .val (.int p0), .val (.int p1), .val (.int p2), .val (.int p3), .val (.int (Int32.ofNat n)), .val (.ref b11), .unset, .unset, .unset, .unset, .unset, .unset, .unset, .unset, .unset] [(.ref b87)]))
          refine own_up (fun tx kx => XS.astore X103.here hx rfl (hb hby at_134) rfl rfl (l' := #[.val (.int len), .val (.int p0), .val (.int p1), .val (.int p2), .val (.int p3), .val (.int (Int32.ofNat n)), .val (.ref b11), .val (.ref b87), .unset, .unset, .unset, .unset, .unset, .unset, .unset, .unset]) rfl kx) ?_
          show OwnOk p e below _ (T103.setTop (mkF m 136 #[.val (.int len), .val (.int p0), .val (.int p1), .val (.int p2), .val (.int p3), .val (.int (Int32.ofNat n)), .val (.ref b11), .val (.ref b87), .unset, .unset, .unset, .unset, .unset, .unset, .unset, .unset] []))
          refine own_up (fun tx kx => XS.goto X103.here hx rfl (pc0 := 136) (pc' := 172) rfl (hb hby at_136) (by decide) (by decide) kx) ?_
          show OwnOk p e below _ (T103.setTop (mkF m 172 #[.val (.int len), .val (.int p0), .val (.int p1), .val (.int p2), .val (.int p3), .val (.int (Int32.ofNat n)), .val (.ref b11), .val (.ref b87), .unset, .unset, .unset, .unset, .unset, .unset, .unset, .unset] []))
          obtain rfl : n = 3 := own_ofNatEq (n := 3) e3_ (by omega) (by decide)
          show OwnOk p e below _ (T103.setTop (mkF m 172 #[.val (.int len), .val (.int p0), .val (.int p1), .val (.int p2), .val (.int p3), .val (.int (Int32.ofNat 3)), .val (.ref b11), .val (.ref b87), .unset, .unset, .unset, .unset, .unset, .unset, .unset, .unset] []))
          obtain ⟨T105, h105, X105, e105, E105, A105, D105, -, st105⟩ := newO X103 hx hZ hown (wd_6 hw) (wd_7 hw) (wd_8 hw) e103 (g := (mkF m 172 #[.val (.int len), .val (.int p0), .val (.int p1), .val (.int p2), .val (.int p3), .val (.int (Int32.ofNat 3)), .val (.ref b11), .val (.ref b87), .unset, .unset, .unset, .unset, .unset, .unset, .unset, .unset] [])) rfl (hb hby at_172) (by decide) (by decide)
          obtain ⟨b105, g105⟩ : ∃ z, z = h103.size := ⟨_, rfl⟩
          rw [← g105] at A105 D105 st105
          have sz_b105 : h103.size ≤ b105 := Nat.le_of_eq g105.symm
          have V_b11_107 := (V_b11_100.other W103 (Nat.ne_of_lt lt_b11_b87))
          have lt_b11_b105 : b11 < b105 := Nat.lt_of_lt_of_le V_b11_107.lt sz_b105
          have lt_b87_b105 : b87 < b105 := Nat.lt_of_lt_of_le V_b87_103.lt sz_b105
          have n0_b105 : n0 ≤ b105 := Nat.le_trans (own_n0 OL104) sz_b105
          have F_value_b105 : Fld Z h105 b105 "java/lang/String" "value" "[B" .null := D105 (Or.inr (wd_21 hw)) (ty := (.array .byte)) (by decide)
          have F_coder_b105 : Fld Z h105 b105 "java/lang/String" "coder" "B" (.int (0 : Int32)) := D105 (Or.inr (wd_22 hw)) (ty := .byte) (by decide)
          have OL108 := OL104.ext E105
          have hB108 := hB104.ext E105
          have sf_b105_109 := hB104.sNew E105 sz_b105
          refine own_up st105 ?_
          show OwnOk p e below _ (T105.setTop (mkF m 175 #[.val (.int len), .val (.int p0), .val (.int p1), .val (.int p2), .val (.int p3), .val (.int (Int32.ofNat 3)), .val (.ref b11), .val (.ref b87), .unset, .unset, .unset, .unset, .unset, .unset, .unset, .unset] [(.ref b105)]))
          refine own_up (fun tx kx => XS.dup X105.here hx rfl (hb hby at_175) rfl rfl kx) ?_
          show OwnOk p e below _ (T105.setTop (mkF m 176 #[.val (.int len), .val (.int p0), .val (.int p1), .val (.int p2), .val (.int p3), .val (.int (Int32.ofNat 3)), .val (.ref b11), .val (.ref b87), .unset, .unset, .unset, .unset, .unset, .unset, .unset, .unset] [(.ref b105), (.ref b105)]))
          refine own_up (fun tx kx => XS.aload X105.here hx rfl (hb hby at_176) rfl rfl kx) ?_
          show OwnOk p e below _ (T105.setTop (mkF m 178 #[.val (.int len), .val (.int p0), .val (.int p1), .val (.int p2), .val (.int p3), .val (.int (Int32.ofNat 3)), .val (.ref b11), .val (.ref b87), .unset, .unset, .unset, .unset, .unset, .unset, .unset, .unset] [(.ref b87), (.ref b105), (.ref b105)]))
          have V_b87_110 := (V_b87_103.ext E105)
          refine own_callC X105 hx hZ (y := (⟨"java/lang/String", "<init>", "([C)V"⟩ : MethodName)) rfl hown (wd_9 hw) (wd_10 hw) (wd_8 hw) (wd_11 hw) (by decide) (c_init1_3 l Z a0 hw b105 b87 k87 (nar .char (nar .char cc14)) (nar .char (nar .char cc18)) (nar .char (nar .char cc22)) cz h105 n0 OL108 SC hcz A105 F_value_b105 F_coder_b105 n0_b105 V_b87_110 (Nat.ne_of_gt lt_b87_b105) (own_ncl (own_ncl hc14)).2 (own_ncl (own_ncl hc18)).2 (own_ncl (own_ncl hc22)).2) e105 (argsL := [(.ref b87)]) (rest := [(.ref b105)]) (a := b105) (by rw [hml]; rfl) (lenOf pd_20 rfl) rfl rfl (W := 1) rfl (hb hby at_178) (by decide) (by decide) (by decide) (by decide) (fun T111 v111 L111 X111 hQ111 => ?_)
          obtain ⟨rfl, Nq111, Kq111, uu111, ku111, gu111, ea111, fv111, fc111, vu111⟩ := hQ111
          have N111 := Fr.app N103 Nq111
          have hB111 := hB108.keep Kq111 (own_safS sf_b105_109 own_saf0)
          have sf_b105_112 := hB108.sKeep Kq111 (own_safS sf_b105_109 own_saf0) sf_b105_109
          have OL111 := OL108.keep Kq111 (allS n0_b105 all0)
          show OwnOk p e below _ (T111.setTop (mkF m 181 #[.val (.int len), .val (.int p0), .val (.int p1), .val (.int p2), .val (.int p3), .val (.int (Int32.ofNat 3)), .val (.ref b11), .val (.ref b87), .unset, .unset, .unset, .unset, .unset, .unset, .unset, .unset] [(.ref b105)]))
          refine own_callSH X111 hB111 (own_ew hw) (sf := []) own_saf0 own_lt0 hx hZ (y := (⟨"com/example/strict_replay/strictreplay/rules/FieldValues", "trim", "(Ljava/lang/String;)Ljava/lang/String;"⟩ : MethodName)) hown (wd_27 hw) (wd_28 hw) (wd_29 hw) (wd_30 hw) (by decide) (m_trim l Z a0 hw b105 uu111 ku111 3 (fun j => [(nar .byte ((nar .char (nar .char cc14)).toInt8.toInt32)), (nar .byte ((nar .char (nar .char cc18)).toInt8.toInt32)), (nar .byte ((nar .char (nar .char cc22)).toInt8.toInt32))].getD j 0) cz fm hfm T111.heap n0 OL111 SC hcz SF ea111 fv111 fc111 vu111 (by decide)) rfl (argsL := [(.ref b105)]) (rest := []) (by rw [hml]; rfl) (lenOf pd_21 rfl) rfl rfl (W := 0) rfl (hb hby at_181) (by decide) (by decide) (by decide) (by decide) (fun s113 T113 v113 L113 X113 hB113 hZ113 hown113 hQ113 sf113 => ?_)
          obtain ⟨rr113, ur113, kr113, gr113, rfl, Nq113, Kq113, hse113, hen113, hg113, er113, fv113, fc113, vr113⟩ := hQ113
          have N113 := Fr.app N111 Nq113
          have sf_b105_114 := sf113 b105 ea111.lt sf_b105_112
          have OL113 := OL111.keep Kq113 all0
          show OwnOk p e below _ (T113.setTop (mkF m 184 #[.val (.int len), .val (.int p0), .val (.int p1), .val (.int p2), .val (.int p3), .val (.int (Int32.ofNat 3)), .val (.ref b11), .val (.ref b87), .unset, .unset, .unset, .unset, .unset, .unset, .unset, .unset] [(.ref rr113)]))
          refine own_up (fun tx kx => XS.astore X113.here hx rfl (hb hby at_184) rfl rfl (l' := #[.val (.int len), .val (.int p0), .val (.int p1), .val (.int p2), .val (.int p3), .val (.int (Int32.ofNat 3)), .val (.ref b11), .val (.ref b87), .val (.ref rr113), .unset, .unset, .unset, .unset, .unset, .unset, .unset]) rfl kx) ?_
          show OwnOk p e below _ (T113.setTop (mkF m 186 #[.val (.int len), .val (.int p0), .val (.int p1), .val (.int p2), .val (.int p3), .val (.int (Int32.ofNat 3)), .val (.ref b11), .val (.ref b87), .val (.ref rr113), .unset, .unset, .unset, .unset, .unset, .unset, .unset] []))
          have hcg : ∀ j, j < 3 → (fun j => own_c8 ((fun j => [(nar .byte ((nar .char (nar .char cc14)).toInt8.toInt32)), (nar .byte ((nar .char (nar .char cc18)).toInt8.toInt32)), (nar .byte ((nar .char (nar .char cc22)).toInt8.toInt32))].getD j 0) j)) j = (fun j => [(nar .char cc14), (nar .char cc18), (nar .char cc22), (nar .char cc26)].getD j 0) j := (fun j hj => by
              match j, hj with
              | 0, _ => exact own_b8c (own_ncl hc14)
              | 1, _ => exact own_b8c (own_ncl hc18)
              | 2, _ => exact own_b8c (own_ncl hc22))
          have e1 := own_ts_congr hcg
          have e2 := own_te_congr hcg
          rw [e1, e2] at hse113 hg113 vr113
          rw [e2] at hen113
          have hgg : ∀ j, j < own_te 3 (fun j => [(nar .char cc14), (nar .char cc18), (nar .char cc22), (nar .char cc26)].getD j 0) - own_ts 3 (fun j => [(nar .char cc14), (nar .char cc18), (nar .char cc22), (nar .char cc26)].getD j 0) → own_c8 (gr113 j) = [(nar .char cc14), (nar .char cc18), (nar .char cc22), (nar .char cc26)].getD (own_ts 3 (fun j => [(nar .char cc14), (nar .char cc18), (nar .char cc22), (nar .char cc26)].getD j 0) + j) 0 := fun j hj => by rw [hg113 j hj]; exact hcg _ (by omega)
          have V_b11_115 := (((V_b11_107.ext E105).keep Kq111 (ninS (Nat.ne_of_lt lt_b11_b105) nin0)).keep Kq113 nin0)
          exact law_186 l Z a0 hw len p0 p1 p2 p3 3 b11 b87 rr113 ur113 k11 kr113 gr113 (nar .char cc14) (nar .char cc18) (nar .char cc22) (nar .char cc26) 0 0 0 0 cz fm hfm hx hby hml hret hlk (X113.mono (Nat.le_of_ble_eq_true rfl) (Nat.le_of_ble_eq_true rfl)) rfl hZ113 hown113 n0 OL113 N113 hB113 SC hcz SF er113 fv113 fc113 vr113 V_b11_115 (by decide) hse113 hen113 hgg
        · refine own_up (fun tx kx => XS.icmpYes X28.here hx rfl (pc0 := 107) (pc' := 139) rfl (hb hby at_107) rfl (feq e3_).2 (by decide) (by decide) kx) ?_
          show OwnOk p e below _ (T28.setTop (mkF m 139 #[.val (.int len), .val (.int p0), .val (.int p1), .val (.int p2), .val (.int p3), .val (.int (Int32.ofNat n)), .val (.ref b11), .unset, .unset, .unset, .unset, .unset, .unset, .unset, .unset, .unset] []))
          refine own_up (fun tx kx => XS.iconst X28.here hx rfl (hb hby at_139) kx) ?_
          show OwnOk p e below _ (T28.setTop (mkF m 140 #[.val (.int len), .val (.int p0), .val (.int p1), .val (.int p2), .val (.int p3), .val (.int (Int32.ofNat n)), .val (.ref b11), .unset, .unset, .unset, .unset, .unset, .unset, .unset, .unset, .unset] [(.int (4 : Int32))]))
          obtain ⟨T116, h116, k116, X116, e116, E116, A116, st116⟩ := newP (aty := .char) X28 hx hZ (wd_1 hw) e28 (g := (mkF m 140 #[.val (.int len), .val (.int p0), .val (.int p1), .val (.int p2), .val (.int p3), .val (.int (Int32.ofNat n)), .val (.ref b11), .unset, .unset, .unset, .unset, .unset, .unset, .unset, .unset, .unset] [(.int (4 : Int32))])) rfl (hb hby at_140) rfl (by decide) (cap := 4) (by decide) (by decide) (by decide) (by decide)
          obtain ⟨b116, g116⟩ : ∃ z, z = h28.size := ⟨_, rfl⟩
          rw [← g116] at A116 st116
          have sz_b116 : h28.size ≤ b116 := Nat.le_of_eq g116.symm
          have lt_b11_b116 : b11 < b116 := Nat.lt_of_lt_of_le V_b11_28.lt sz_b116
          have n0_b116 : n0 ≤ b116 := Nat.le_trans (own_n0 OL29) sz_b116
          have V_b116 : Arv Z h116 b116 k116 .char (4 : Int32) [(.int (0 : Int32)), (.int (0 : Int32)), (.int (0 : Int32)), (.int (0 : Int32))] (.int (0 : Int32)) := (Arv.new A116 (by decide)).pad (pad_rep [] (.int (0 : Int32)) 4)
          have OL118 := OL29.ext E116
          have hB118 := hB29.ext E116
          refine own_up st116 ?_
          show OwnOk p e below _ (T116.setTop (mkF m 142 #[.val (.int len), .val (.int p0), .val (.int p1), .val (.int p2), .val (.int p3), .val (.int (Int32.ofNat n)), .val (.ref b11), .unset, .unset, .unset, .unset, .unset, .unset, .unset, .unset, .unset] [(.ref b116)]))
          refine own_up (fun tx kx => XS.dup X116.here hx rfl (hb hby at_142) rfl rfl kx) ?_
          show OwnOk p e below _ (T116.setTop (mkF m 143 #[.val (.int len), .val (.int p0), .val (.int p1), .val (.int p2), .val (.int p3), .val (.int (Int32.ofNat n)), .val (.ref b11), .unset, .unset, .unset, .unset, .unset, .unset, .unset, .unset, .unset] [(.ref b116), (.ref b116)]))
          refine own_up (fun tx kx => XS.iconst X116.here hx rfl (hb hby at_143) kx) ?_
          show OwnOk p e below _ (T116.setTop (mkF m 144 #[.val (.int len), .val (.int p0), .val (.int p1), .val (.int p2), .val (.int p3), .val (.int (Int32.ofNat n)), .val (.ref b11), .unset, .unset, .unset, .unset, .unset, .unset, .unset, .unset, .unset] [(.int (0 : Int32)), (.ref b116), (.ref b116)]))
          refine own_up (fun tx kx => XS.aload X116.here hx rfl (hb hby at_144) rfl rfl kx) ?_
          show OwnOk p e below _ (T116.setTop (mkF m 146 #[.val (.int len), .val (.int p0), .val (.int p1), .val (.int p2), .val (.int p3), .val (.int (Int32.ofNat n)), .val (.ref b11), .unset, .unset, .unset, .unset, .unset, .unset, .unset, .unset, .unset] [(.ref b11), (.int (0 : Int32)), (.ref b116), (.ref b116)]))
          refine own_up (fun tx kx => XS.iconst X116.here hx rfl (hb hby at_146) kx) ?_
          show OwnOk p e below _ (T116.setTop (mkF m 147 #[.val (.int len), .val (.int p0), .val (.int p1), .val (.int p2), .val (.int p3), .val (.int (Int32.ofNat n)), .val (.ref b11), .unset, .unset, .unset, .unset, .unset, .unset, .unset, .unset, .unset] [(.int (0 : Int32)), (.ref b11), (.int (0 : Int32)), (.ref b116), (.ref b116)]))
          have V_b11_119 := (V_b11_28.ext E116)
          obtain ⟨cl120, Ar120, qc120, Sz120, Nn120, Hs120, Gf120⟩ := id V_b11_119
          have hin120 : ¬ ((0 : Int32) < 0 ∨ cl120.slots.size ≤ ((0 : Int32)).toNatClampNeg) := inb_of Sz120 ⟨by decide, by decide⟩
          have hat120 : cl120.slots[((0 : Int32)).toNatClampNeg]? = some (.int (nar .char cc14)) := Hs120.at hin120 rfl
          refine own_up (fun tx kx => X116.caload hx (j := (0 : Int32)) (v := (.int (nar .char cc14))) (own_ar e116 Ar120.1) (State.isArrayOf_alike hZ.alike Ar120.2.1) Ar120.2.2 hin120 hat120 (g := (mkF m 147 #[.val (.int len), .val (.int p0), .val (.int p1), .val (.int p2), .val (.int p3), .val (.int (Int32.ofNat n)), .val (.ref b11), .unset, .unset, .unset, .unset, .unset, .unset, .unset, .unset, .unset] [(.int (0 : Int32)), (.ref b11), (.int (0 : Int32)), (.ref b116), (.ref b116)])) rfl rfl (hb hby at_147) _ kx) ?_
          show OwnOk p e below _ (T116.setTop (mkF m 148 #[.val (.int len), .val (.int p0), .val (.int p1), .val (.int p2), .val (.int p3), .val (.int (Int32.ofNat n)), .val (.ref b11), .unset, .unset, .unset, .unset, .unset, .unset, .unset, .unset, .unset] [(.int (nar .char cc14)), (.int (0 : Int32)), (.ref b116), (.ref b116)]))
          obtain ⟨cl121, Ar121, qc121, Sz121, Nn121, Hs121, Gf121⟩ := id V_b116
          have hin121 : ¬ ((0 : Int32) < 0 ∨ cl121.slots.size ≤ ((0 : Int32)).toNatClampNeg) := inb_of Sz121 ⟨by decide, by decide⟩
          obtain ⟨T122, h122, X122, e122, W122, st122⟩ := stC X116 hx hZ e116 Ar121 (j := (0 : Int32)) hin121 (g := (mkF m 148 #[.val (.int len), .val (.int p0), .val (.int p1), .val (.int p2), .val (.int p3), .val (.int (Int32.ofNat n)), .val (.ref b11), .unset, .unset, .unset, .unset, .unset, .unset, .unset, .unset, .unset] [(.int (nar .char cc14)), (.int (0 : Int32)), (.ref b116), (.ref b116)])) rfl rfl (hb hby at_148)
          have V_b116_122 : Arv Z h122 b116 k116 .char (4 : Int32) [(.int (nar .char (nar .char cc14))), (.int (0 : Int32)), (.int (0 : Int32)), (.int (0 : Int32))] (.int (0 : Int32)) := Arv.set Ar121 qc121 Sz121 Nn121 Hs121 Gf121 (fits_nar_char _) W122 0 rfl (Nat.le_of_ble_eq_true rfl)
          have N122 := Fr.snoc X122 N28 n0_b116
          have OL123 := OL118.wr W122 n0_b116
          have hB123 := hB118.wr W122 (Safe.arr hZ.alike Ar121 (by decide))
          refine own_up st122 ?_
          show OwnOk p e below _ (T122.setTop (mkF m 149 #[.val (.int len), .val (.int p0), .val (.int p1), .val (.int p2), .val (.int p3), .val (.int (Int32.ofNat n)), .val (.ref b11), .unset, .unset, .unset, .unset, .unset, .unset, .unset, .unset, .unset] [(.ref b116)]))
          refine own_up (fun tx kx => XS.dup X122.here hx rfl (hb hby at_149) rfl rfl kx) ?_
          show OwnOk p e below _ (T122.setTop (mkF m 150 #[.val (.int len), .val (.int p0), .val (.int p1), .val (.int p2), .val (.int p3), .val (.int (Int32.ofNat n)), .val (.ref b11), .unset, .unset, .unset, .unset, .unset, .unset, .unset, .unset, .unset] [(.ref b116), (.ref b116)]))
          refine own_up (fun tx kx => XS.iconst X122.here hx rfl (hb hby at_150) kx) ?_
          show OwnOk p e below _ (T122.setTop (mkF m 151 #[.val (.int len), .val (.int p0), .val (.int p1), .val (.int p2), .val (.int p3), .val (.int (Int32.ofNat n)), .val (.ref b11), .unset, .unset, .unset, .unset, .unset, .unset, .unset, .unset, .unset] [(.int (1 : Int32)), (.ref b116), (.ref b116)]))
          refine own_up (fun tx kx => XS.aload X122.here hx rfl (hb hby at_151) rfl rfl kx) ?_
          show OwnOk p e below _ (T122.setTop (mkF m 153 #[.val (.int len), .val (.int p0), .val (.int p1), .val (.int p2), .val (.int p3), .val (.int (Int32.ofNat n)), .val (.ref b11), .unset, .unset, .unset, .unset, .unset, .unset, .unset, .unset, .unset] [(.ref b11), (.int (1 : Int32)), (.ref b116), (.ref b116)]))
          refine own_up (fun tx kx => XS.iconst X122.here hx rfl (hb hby at_153) kx) ?_
          show OwnOk p e below _ (T122.setTop (mkF m 154 #[.val (.int len), .val (.int p0), .val (.int p1), .val (.int p2), .val (.int p3), .val (.int (Int32.ofNat n)), .val (.ref b11), .unset, .unset, .unset, .unset, .unset, .unset, .unset, .unset, .unset] [(.int (1 : Int32)), (.ref b11), (.int (1 : Int32)), (.ref b116), (.ref b116)]))
          have V_b11_124 := (V_b11_119.other W122 (Nat.ne_of_lt lt_b11_b116))
          obtain ⟨cl125, Ar125, qc125, Sz125, Nn125, Hs125, Gf125⟩ := id V_b11_124
          have hin125 : ¬ ((1 : Int32) < 0 ∨ cl125.slots.size ≤ ((1 : Int32)).toNatClampNeg) := inb_of Sz125 ⟨by decide, by decide⟩
          have hat125 : cl125.slots[((1 : Int32)).toNatClampNeg]? = some (.int (nar .char cc18)) := Hs125.at hin125 rfl
          refine own_up (fun tx kx => X122.caload hx (j := (1 : Int32)) (v := (.int (nar .char cc18))) (own_ar e122 Ar125.1) (State.isArrayOf_alike hZ.alike Ar125.2.1) Ar125.2.2 hin125 hat125 (g := (mkF m 154 #[.val (.int len), .val (.int p0), .val (.int p1), .val (.int p2), .val (.int p3), .val (.int (Int32.ofNat n)), .val (.ref b11), .unset, .unset, .unset, .unset, .unset, .unset, .unset, .unset, .unset] [(.int (1 : Int32)), (.ref b11), (.int (1 : Int32)), (.ref b116), (.ref b116)])) rfl rfl (hb hby at_154) _ kx) ?_
          show OwnOk p e below _ (T122.setTop (mkF m 155 #[.val (.int len), .val (.int p0), .val (.int p1), .val (.int p2), .val (.int p3), .val (.int (Int32.ofNat n)), .val (.ref b11), .unset, .unset, .unset, .unset, .unset, .unset, .unset, .unset, .unset] [(.int (nar .char cc18)), (.int (1 : Int32)), (.ref b116), (.ref b116)]))
          obtain ⟨cl126, Ar126, qc126, Sz126, Nn126, Hs126, Gf126⟩ := id V_b116_122
          have hin126 : ¬ ((1 : Int32) < 0 ∨ cl126.slots.size ≤ ((1 : Int32)).toNatClampNeg) := inb_of Sz126 ⟨by decide, by decide⟩
          obtain ⟨T127, h127, X127, e127, W127, st127⟩ := stC X122 hx hZ e122 Ar126 (j := (1 : Int32)) hin126 (g := (mkF m 155 #[.val (.int len), .val (.int p0), .val (.int p1), .val (.int p2), .val (.int p3), .val (.int (Int32.ofNat n)), .val (.ref b11), .unset, .unset, .unset, .unset, .unset, .unset, .unset, .unset, .unset] [(.int (nar .char cc18)), (.int (1 : Int32)), (.ref b116), (.ref b116)])) rfl rfl (hb hby at_155)
          have V_b116_127 : Arv Z h127 b116 k116 .char (4 : Int32) [(.int (nar .char (nar .char cc14))), (.int (nar .char (nar .char cc18))), (.int (0 : Int32)), (.int (0 : Int32))] (.int (0 : Int32)) := Arv.set Ar126 qc126 Sz126 Nn126 Hs126 Gf126 (fits_nar_char _) W127 1 rfl (Nat.le_of_ble_eq_true rfl)
          have N127 := Fr.snoc X127 N122 n0_b116
          have OL128 := OL123.wr W127 n0_b116
          have hB128 := hB123.wr W127 (Safe.arr hZ.alike Ar126 (by decide))
          refine own_up st127 ?_
          show OwnOk p e below _ (T127.setTop (mkF m 156 #[.val (.int len), .val (.int p0), .val (.int p1), .val (.int p2), .val (.int p3), .val (.int (Int32.ofNat n)), .val (.ref b11), .unset, .unset, .unset, .unset, .unset, .unset, .unset, .unset, .unset] [(.ref b116)]))
          refine own_up (fun tx kx => XS.dup X127.here hx rfl (hb hby at_156) rfl rfl kx) ?_
          show OwnOk p e below _ (T127.setTop (mkF m 157 #[.val (.int len), .val (.int p0), .val (.int p1), .val (.int p2), .val (.int p3), .val (.int (Int32.ofNat n)), .val (.ref b11), .unset, .unset, .unset, .unset, .unset, .unset, .unset, .unset, .unset] [(.ref b116), (.ref b116)]))
          refine own_up (fun tx kx => XS.iconst X127.here hx rfl (hb hby at_157) kx) ?_
          show OwnOk p e below _ (T127.setTop (mkF m 158 #[.val (.int len), .val (.int p0), .val (.int p1), .val (.int p2), .val (.int p3), .val (.int (Int32.ofNat n)), .val (.ref b11), .unset, .unset, .unset, .unset, .unset, .unset, .unset, .unset, .unset] [(.int (2 : Int32)), (.ref b116), (.ref b116)]))
          refine own_up (fun tx kx => XS.aload X127.here hx rfl (hb hby at_158) rfl rfl kx) ?_
          show OwnOk p e below _ (T127.setTop (mkF m 160 #[.val (.int len), .val (.int p0), .val (.int p1), .val (.int p2), .val (.int p3), .val (.int (Int32.ofNat n)), .val (.ref b11), .unset, .unset, .unset, .unset, .unset, .unset, .unset, .unset, .unset] [(.ref b11), (.int (2 : Int32)), (.ref b116), (.ref b116)]))
          refine own_up (fun tx kx => XS.iconst X127.here hx rfl (hb hby at_160) kx) ?_
          show OwnOk p e below _ (T127.setTop (mkF m 161 #[.val (.int len), .val (.int p0), .val (.int p1), .val (.int p2), .val (.int p3), .val (.int (Int32.ofNat n)), .val (.ref b11), .unset, .unset, .unset, .unset, .unset, .unset, .unset, .unset, .unset] [(.int (2 : Int32)), (.ref b11), (.int (2 : Int32)), (.ref b116), (.ref b116)]))
          have V_b11_129 := (V_b11_124.other W127 (Nat.ne_of_lt lt_b11_b116))
          obtain ⟨cl130, Ar130, qc130, Sz130, Nn130, Hs130, Gf130⟩ := id V_b11_129
          have hin130 : ¬ ((2 : Int32) < 0 ∨ cl130.slots.size ≤ ((2 : Int32)).toNatClampNeg) := inb_of Sz130 ⟨by decide, by decide⟩
          have hat130 : cl130.slots[((2 : Int32)).toNatClampNeg]? = some (.int (nar .char cc22)) := Hs130.at hin130 rfl
          refine own_up (fun tx kx => X127.caload hx (j := (2 : Int32)) (v := (.int (nar .char cc22))) (own_ar e127 Ar130.1) (State.isArrayOf_alike hZ.alike Ar130.2.1) Ar130.2.2 hin130 hat130 (g := (mkF m 161 #[.val (.int len), .val (.int p0), .val (.int p1), .val (.int p2), .val (.int p3), .val (.int (Int32.ofNat n)), .val (.ref b11), .unset, .unset, .unset, .unset, .unset, .unset, .unset, .unset, .unset] [(.int (2 : Int32)), (.ref b11), (.int (2 : Int32)), (.ref b116), (.ref b116)])) rfl rfl (hb hby at_161) _ kx) ?_
          show OwnOk p e below _ (T127.setTop (mkF m 162 #[.val (.int len), .val (.int p0), .val (.int p1), .val (.int p2), .val (.int p3), .val (.int (Int32.ofNat n)), .val (.ref b11), .unset, .unset, .unset, .unset, .unset, .unset, .unset, .unset, .unset] [(.int (nar .char cc22)), (.int (2 : Int32)), (.ref b116), (.ref b116)]))
          obtain ⟨cl131, Ar131, qc131, Sz131, Nn131, Hs131, Gf131⟩ := id V_b116_127
          have hin131 : ¬ ((2 : Int32) < 0 ∨ cl131.slots.size ≤ ((2 : Int32)).toNatClampNeg) := inb_of Sz131 ⟨by decide, by decide⟩
          obtain ⟨T132, h132, X132, e132, W132, st132⟩ := stC X127 hx hZ e127 Ar131 (j := (2 : Int32)) hin131 (g := (mkF m 162 #[.val (.int len), .val (.int p0), .val (.int p1), .val (.int p2), .val (.int p3), .val (.int (Int32.ofNat n)), .val (.ref b11), .unset, .unset, .unset, .unset, .unset, .unset, .unset, .unset, .unset] [(.int (nar .char cc22)), (.int (2 : Int32)), (.ref b116), (.ref b116)])) rfl rfl (hb hby at_162)
          have V_b116_132 : Arv Z h132 b116 k116 .char (4 : Int32) [(.int (nar .char (nar .char cc14))), (.int (nar .char (nar .char cc18))), (.int (nar .char (nar .char cc22))), (.int (0 : Int32))] (.int (0 : Int32)) := Arv.set Ar131 qc131 Sz131 Nn131 Hs131 Gf131 (fits_nar_char _) W132 2 rfl (Nat.le_of_ble_eq_true rfl)
          have N132 := Fr.snoc X132 N127 n0_b116
          have OL133 := OL128.wr W132 n0_b116
          have hB133 := hB128.wr W132 (Safe.arr hZ.alike Ar131 (by decide))
          refine own_up st132 ?_
          show OwnOk p e below _ (T132.setTop (mkF m 163 #[.val (.int len), .val (.int p0), .val (.int p1), .val (.int p2), .val (.int p3), .val (.int (Int32.ofNat n)), .val (.ref b11), .unset, .unset, .unset, .unset, .unset, .unset, .unset, .unset, .unset] [(.ref b116)]))
          refine own_up (fun tx kx => XS.dup X132.here hx rfl (hb hby at_163) rfl rfl kx) ?_
          show OwnOk p e below _ (T132.setTop (mkF m 164 #[.val (.int len), .val (.int p0), .val (.int p1), .val (.int p2), .val (.int p3), .val (.int (Int32.ofNat n)), .val (.ref b11), .unset, .unset, .unset, .unset, .unset, .unset, .unset, .unset, .unset] [(.ref b116), (.ref b116)]))
          refine own_up (fun tx kx => XS.iconst X132.here hx rfl (hb hby at_164) kx) ?_
          show OwnOk p e below _ (T132.setTop (mkF m 165 #[.val (.int len), .val (.int p0), .val (.int p1), .val (.int p2), .val (.int p3), .val (.int (Int32.ofNat n)), .val (.ref b11), .unset, .unset, .unset, .unset, .unset, .unset, .unset, .unset, .unset] [(.int (3 : Int32)), (.ref b116), (.ref b116)]))
          refine own_up (fun tx kx => XS.aload X132.here hx rfl (hb hby at_165) rfl rfl kx) ?_
          show OwnOk p e below _ (T132.setTop (mkF m 167 #[.val (.int len), .val (.int p0), .val (.int p1), .val (.int p2), .val (.int p3), .val (.int (Int32.ofNat n)), .val (.ref b11), .unset, .unset, .unset, .unset, .unset, .unset, .unset, .unset, .unset] [(.ref b11), (.int (3 : Int32)), (.ref b116), (.ref b116)]))
          refine own_up (fun tx kx => XS.iconst X132.here hx rfl (hb hby at_167) kx) ?_
          show OwnOk p e below _ (T132.setTop (mkF m 168 #[.val (.int len), .val (.int p0), .val (.int p1), .val (.int p2), .val (.int p3), .val (.int (Int32.ofNat n)), .val (.ref b11), .unset, .unset, .unset, .unset, .unset, .unset, .unset, .unset, .unset] [(.int (3 : Int32)), (.ref b11), (.int (3 : Int32)), (.ref b116), (.ref b116)]))
          have V_b11_134 := (V_b11_129.other W132 (Nat.ne_of_lt lt_b11_b116))
          obtain ⟨cl135, Ar135, qc135, Sz135, Nn135, Hs135, Gf135⟩ := id V_b11_134
          have hin135 : ¬ ((3 : Int32) < 0 ∨ cl135.slots.size ≤ ((3 : Int32)).toNatClampNeg) := inb_of Sz135 ⟨by decide, by decide⟩
          have hat135 : cl135.slots[((3 : Int32)).toNatClampNeg]? = some (.int (nar .char cc26)) := Hs135.at hin135 rfl
          refine own_up (fun tx kx => X132.caload hx (j := (3 : Int32)) (v := (.int (nar .char cc26))) (own_ar e132 Ar135.1) (State.isArrayOf_alike hZ.alike Ar135.2.1) Ar135.2.2 hin135 hat135 (g := (mkF m 168 #[.val (.int len), .val (.int p0), .val (.int p1), .val (.int p2), .val (.int p3), .val (.int (Int32.ofNat n)), .val (.ref b11), .unset, .unset, .unset, .unset, .unset, .unset, .unset, .unset, .unset] [(.int (3 : Int32)), (.ref b11), (.int (3 : Int32)), (.ref b116), (.ref b116)])) rfl rfl (hb hby at_168) _ kx) ?_
          show OwnOk p e below _ (T132.setTop (mkF m 169 #[.val (.int len), .val (.int p0), .val (.int p1), .val (.int p2), .val (.int p3), .val (.int (Int32.ofNat n)), .val (.ref b11), .unset, .unset, .unset, .unset, .unset, .unset, .unset, .unset, .unset] [(.int (nar .char cc26)), (.int (3 : Int32)), (.ref b116), (.ref b116)]))
          obtain ⟨cl136, Ar136, qc136, Sz136, Nn136, Hs136, Gf136⟩ := id V_b116_132
          have hin136 : ¬ ((3 : Int32) < 0 ∨ cl136.slots.size ≤ ((3 : Int32)).toNatClampNeg) := inb_of Sz136 ⟨by decide, by decide⟩
          obtain ⟨T137, h137, X137, e137, W137, st137⟩ := stC X132 hx hZ e132 Ar136 (j := (3 : Int32)) hin136 (g := (mkF m 169 #[.val (.int len), .val (.int p0), .val (.int p1), .val (.int p2), .val (.int p3), .val (.int (Int32.ofNat n)), .val (.ref b11), .unset, .unset, .unset, .unset, .unset, .unset, .unset, .unset, .unset] [(.int (nar .char cc26)), (.int (3 : Int32)), (.ref b116), (.ref b116)])) rfl rfl (hb hby at_169)
          have V_b116_137 : Arv Z h137 b116 k116 .char (4 : Int32) [(.int (nar .char (nar .char cc14))), (.int (nar .char (nar .char cc18))), (.int (nar .char (nar .char cc22))), (.int (nar .char (nar .char cc26)))] (.int (0 : Int32)) := Arv.set Ar136 qc136 Sz136 Nn136 Hs136 Gf136 (fits_nar_char _) W137 3 rfl (Nat.le_of_ble_eq_true rfl)
          have N137 := Fr.snoc X137 N132 n0_b116
          have OL138 := OL133.wr W137 n0_b116
          have hB138 := hB133.wr W137 (Safe.arr hZ.alike Ar136 (by decide))
          refine own_up st137 ?_
          show OwnOk p e below _ (T137.setTop (mkF m 170 #[.val (.int len), .val (.int p0), .val (.int p1), .val (.int p2), .val (.int p3), .val (.int (Int32.ofNat n)), .val (.ref b11), .unset, .unset, .unset, .unset, .unset, .unset, .unset, .unset, .unset] [(.ref b116)]))
          refine own_up (fun tx kx => XS.astore X137.here hx rfl (hb hby at_170) rfl rfl (l' := #[.val (.int len), .val (.int p0), .val (.int p1), .val (.int p2), .val (.int p3), .val (.int (Int32.ofNat n)), .val (.ref b11), .val (.ref b116), .unset, .unset, .unset, .unset, .unset, .unset, .unset, .unset]) rfl kx) ?_
          show OwnOk p e below _ (T137.setTop (mkF m 172 #[.val (.int len), .val (.int p0), .val (.int p1), .val (.int p2), .val (.int p3), .val (.int (Int32.ofNat n)), .val (.ref b11), .val (.ref b116), .unset, .unset, .unset, .unset, .unset, .unset, .unset, .unset] []))
          obtain rfl : n = 4 := by
            have z0 : n ≠ 0 := fun q => e0_ (by rw [q]; rfl)
            have z1 : n ≠ 1 := fun q => e1_ (by rw [q]; rfl)
            have z2 : n ≠ 2 := fun q => e2_ (by rw [q]; rfl)
            have z3 : n ≠ 3 := fun q => e3_ (by rw [q]; rfl)
            omega
          show OwnOk p e below _ (T137.setTop (mkF m 172 #[.val (.int len), .val (.int p0), .val (.int p1), .val (.int p2), .val (.int p3), .val (.int (Int32.ofNat 4)), .val (.ref b11), .val (.ref b116), .unset, .unset, .unset, .unset, .unset, .unset, .unset, .unset] []))
          obtain ⟨T139, h139, X139, e139, E139, A139, D139, -, st139⟩ := newO X137 hx hZ hown (wd_6 hw) (wd_7 hw) (wd_8 hw) e137 (g := (mkF m 172 #[.val (.int len), .val (.int p0), .val (.int p1), .val (.int p2), .val (.int p3), .val (.int (Int32.ofNat 4)), .val (.ref b11), .val (.ref b116), .unset, .unset, .unset, .unset, .unset, .unset, .unset, .unset] [])) rfl (hb hby at_172) (by decide) (by decide)
          obtain ⟨b139, g139⟩ : ∃ z, z = h137.size := ⟨_, rfl⟩
          rw [← g139] at A139 D139 st139
          have sz_b139 : h137.size ≤ b139 := Nat.le_of_eq g139.symm
          have V_b11_141 := (V_b11_134.other W137 (Nat.ne_of_lt lt_b11_b116))
          have lt_b11_b139 : b11 < b139 := Nat.lt_of_lt_of_le V_b11_141.lt sz_b139
          have lt_b116_b139 : b116 < b139 := Nat.lt_of_lt_of_le V_b116_137.lt sz_b139
          have n0_b139 : n0 ≤ b139 := Nat.le_trans (own_n0 OL138) sz_b139
          have F_value_b139 : Fld Z h139 b139 "java/lang/String" "value" "[B" .null := D139 (Or.inr (wd_21 hw)) (ty := (.array .byte)) (by decide)
          have F_coder_b139 : Fld Z h139 b139 "java/lang/String" "coder" "B" (.int (0 : Int32)) := D139 (Or.inr (wd_22 hw)) (ty := .byte) (by decide)
          have OL142 := OL138.ext E139
          have hB142 := hB138.ext E139
          have sf_b139_143 := hB138.sNew E139 sz_b139
          refine own_up st139 ?_
          show OwnOk p e below _ (T139.setTop (mkF m 175 #[.val (.int len), .val (.int p0), .val (.int p1), .val (.int p2), .val (.int p3), .val (.int (Int32.ofNat 4)), .val (.ref b11), .val (.ref b116), .unset, .unset, .unset, .unset, .unset, .unset, .unset, .unset] [(.ref b139)]))
          refine own_up (fun tx kx => XS.dup X139.here hx rfl (hb hby at_175) rfl rfl kx) ?_
          show OwnOk p e below _ (T139.setTop (mkF m 176 #[.val (.int len), .val (.int p0), .val (.int p1), .val (.int p2), .val (.int p3), .val (.int (Int32.ofNat 4)), .val (.ref b11), .val (.ref b116), .unset, .unset, .unset, .unset, .unset, .unset, .unset, .unset] [(.ref b139), (.ref b139)]))
          refine own_up (fun tx kx => XS.aload X139.here hx rfl (hb hby at_176) rfl rfl kx) ?_
          show OwnOk p e below _ (T139.setTop (mkF m 178 #[.val (.int len), .val (.int p0), .val (.int p1), .val (.int p2), .val (.int p3), .val (.int (Int32.ofNat 4)), .val (.ref b11), .val (.ref b116), .unset, .unset, .unset, .unset, .unset, .unset, .unset, .unset] [(.ref b116), (.ref b139), (.ref b139)]))
          have V_b116_144 := (V_b116_137.ext E139)
          refine own_callC X139 hx hZ (y := (⟨"java/lang/String", "<init>", "([C)V"⟩ : MethodName)) rfl hown (wd_9 hw) (wd_10 hw) (wd_8 hw) (wd_11 hw) (by decide) (c_init1_4 l Z a0 hw b139 b116 k116 (nar .char (nar .char cc14)) (nar .char (nar .char cc18)) (nar .char (nar .char cc22)) (nar .char (nar .char cc26)) cz h139 n0 OL142 SC hcz A139 F_value_b139 F_coder_b139 n0_b139 V_b116_144 (Nat.ne_of_gt lt_b116_b139) (own_ncl (own_ncl hc14)).2 (own_ncl (own_ncl hc18)).2 (own_ncl (own_ncl hc22)).2 (own_ncl (own_ncl hc26)).2) e139 (argsL := [(.ref b116)]) (rest := [(.ref b139)]) (a := b139) (by rw [hml]; rfl) (lenOf pd_20 rfl) rfl rfl (W := 1) rfl (hb hby at_178) (by decide) (by decide) (by decide) (by decide) (fun T145 v145 L145 X145 hQ145 => ?_)
          obtain ⟨rfl, Nq145, Kq145, uu145, ku145, gu145, ea145, fv145, fc145, vu145⟩ := hQ145
          have N145 := Fr.app N137 Nq145
          have hB145 := hB142.keep Kq145 (own_safS sf_b139_143 own_saf0)
          have sf_b139_146 := hB142.sKeep Kq145 (own_safS sf_b139_143 own_saf0) sf_b139_143
          have OL145 := OL142.keep Kq145 (allS n0_b139 all0)
          show OwnOk p e below _ (T145.setTop (mkF m 181 #[.val (.int len), .val (.int p0), .val (.int p1), .val (.int p2), .val (.int p3), .val (.int (Int32.ofNat 4)), .val (.ref b11), .val (.ref b116), .unset, .unset, .unset, .unset, .unset, .unset, .unset, .unset] [(.ref b139)]))
          refine own_callSH X145 hB145 (own_ew hw) (sf := []) own_saf0 own_lt0 hx hZ (y := (⟨"com/example/strict_replay/strictreplay/rules/FieldValues", "trim", "(Ljava/lang/String;)Ljava/lang/String;"⟩ : MethodName)) hown (wd_27 hw) (wd_28 hw) (wd_29 hw) (wd_30 hw) (by decide) (m_trim l Z a0 hw b139 uu145 ku145 4 (fun j => [(nar .byte ((nar .char (nar .char cc14)).toInt8.toInt32)), (nar .byte ((nar .char (nar .char cc18)).toInt8.toInt32)), (nar .byte ((nar .char (nar .char cc22)).toInt8.toInt32)), (nar .byte ((nar .char (nar .char cc26)).toInt8.toInt32))].getD j 0) cz fm hfm T145.heap n0 OL145 SC hcz SF ea145 fv145 fc145 vu145 (by decide)) rfl (argsL := [(.ref b139)]) (rest := []) (by rw [hml]; rfl) (lenOf pd_21 rfl) rfl rfl (W := 0) rfl (hb hby at_181) (by decide) (by decide) (by decide) (by decide) (fun s147 T147 v147 L147 X147 hB147 hZ147 hown147 hQ147 sf147 => ?_)
          obtain ⟨rr147, ur147, kr147, gr147, rfl, Nq147, Kq147, hse147, hen147, hg147, er147, fv147, fc147, vr147⟩ := hQ147
          have N147 := Fr.app N145 Nq147
          have sf_b139_148 := sf147 b139 ea145.lt sf_b139_146
          have OL147 := OL145.keep Kq147 all0
          show OwnOk p e below _ (T147.setTop (mkF m 184 #[.val (.int len), .val (.int p0), .val (.int p1), .val (.int p2), .val (.int p3), .val (.int (Int32.ofNat 4)), .val (.ref b11), .val (.ref b116), .unset, .unset, .unset, .unset, .unset, .unset, .unset, .unset] [(.ref rr147)]))
          refine own_up (fun tx kx => XS.astore X147.here hx rfl (hb hby at_184) rfl rfl (l' := #[.val (.int len), .val (.int p0), .val (.int p1), .val (.int p2), .val (.int p3), .val (.int (Int32.ofNat 4)), .val (.ref b11), .val (.ref b116), .val (.ref rr147), .unset, .unset, .unset, .unset, .unset, .unset, .unset]) rfl kx) ?_
          show OwnOk p e below _ (T147.setTop (mkF m 186 #[.val (.int len), .val (.int p0), .val (.int p1), .val (.int p2), .val (.int p3), .val (.int (Int32.ofNat 4)), .val (.ref b11), .val (.ref b116), .val (.ref rr147), .unset, .unset, .unset, .unset, .unset, .unset, .unset] []))
          have hcg : ∀ j, j < 4 → (fun j => own_c8 ((fun j => [(nar .byte ((nar .char (nar .char cc14)).toInt8.toInt32)), (nar .byte ((nar .char (nar .char cc18)).toInt8.toInt32)), (nar .byte ((nar .char (nar .char cc22)).toInt8.toInt32)), (nar .byte ((nar .char (nar .char cc26)).toInt8.toInt32))].getD j 0) j)) j = (fun j => [(nar .char cc14), (nar .char cc18), (nar .char cc22), (nar .char cc26)].getD j 0) j := (fun j hj => by
              match j, hj with
              | 0, _ => exact own_b8c (own_ncl hc14)
              | 1, _ => exact own_b8c (own_ncl hc18)
              | 2, _ => exact own_b8c (own_ncl hc22)
              | 3, _ => exact own_b8c (own_ncl hc26))
          have e1 := own_ts_congr hcg
          have e2 := own_te_congr hcg
          rw [e1, e2] at hse147 hg147 vr147
          rw [e2] at hen147
          have hgg : ∀ j, j < own_te 4 (fun j => [(nar .char cc14), (nar .char cc18), (nar .char cc22), (nar .char cc26)].getD j 0) - own_ts 4 (fun j => [(nar .char cc14), (nar .char cc18), (nar .char cc22), (nar .char cc26)].getD j 0) → own_c8 (gr147 j) = [(nar .char cc14), (nar .char cc18), (nar .char cc22), (nar .char cc26)].getD (own_ts 4 (fun j => [(nar .char cc14), (nar .char cc18), (nar .char cc22), (nar .char cc26)].getD j 0) + j) 0 := fun j hj => by rw [hg147 j hj]; exact hcg _ (by omega)
          have V_b11_149 := (((V_b11_141.ext E139).keep Kq145 (ninS (Nat.ne_of_lt lt_b11_b139) nin0)).keep Kq147 nin0)
          exact law_186 l Z a0 hw len p0 p1 p2 p3 4 b11 b116 rr147 ur147 k11 kr147 gr147 (nar .char cc14) (nar .char cc18) (nar .char cc22) (nar .char cc26) 0 0 0 0 cz fm hfm hx hby hml hret hlk (X147.mono (Nat.le_of_ble_eq_true rfl) (Nat.le_of_ble_eq_true rfl)) rfl hZ147 hown147 n0 OL147 N147 hB147 SC hcz SF er147 fv147 fc147 vr147 V_b11_149 (by decide) hse147 hen147 hgg
set_option maxRecDepth 65536 in
set_option maxHeartbeats 40000000 in
theorem comes_1 {Post : Tables → Env → Array Value → State → Outcome → State → Prop} (hpost : ∀ tb e args s v u, (limb_1_1.after args s (.returned v) u = true ∧ limb_1_2.after args s (.returned v) u = true ∧ True) → ReturnedEndW s (.returned v) u (Jvm.fieldLocs frame_1_writes args s ++ Jvm.arrayLocs frame_1_arrays args s ++ Jvm.staticLocs frame_1_statics s) 24 2176 → Post tb e args s (.returned v) u) :
    ArmFor flags0 classFile x code maxLocals ret World_1 tables_1 room_1 Calls_1 rest_1 Pre_1 Post := by
  intro l hfl _ _ p e ha hc hk s m args below hf hA hF happ hP
  obtain ⟨hcalls, hrest, hpre⟩ := hP
  obtain ⟨-, -, -, hnamed, -, -, -, hat⟩ := (Spec.applies_iff hf).mp happ
  obtain ⟨hg, hn⟩ := and_e (Cond.before_iff.mp (show (Jvm.Cond.and given_1 narrow_1).before args s = true from hpre))
  obtain ⟨g0, gr0⟩ := and_e hg
  obtain ⟨w_0, w_1, w_2, w_3, w_4, rfl⟩ : ∃ w_0 w_1 w_2 w_3 w_4 : Value, args = #[w_0, w_1, w_2, w_3, w_4] := by
    have hs : args.size = 5 := by simpa [Cond.value, given_1] using g0
    obtain ⟨L⟩ := args
    match L, hs with
    | [w_0, w_1, w_2, w_3, w_4], _ => exact ⟨w_0, w_1, w_2, w_3, w_4, rfl⟩
  have hw := fun d (hd : d ∈ tables_1) => atoms_spec (ws := Jvm.Cond.code x code maxLocals ret :: tables_1) hat d (List.mem_cons_of_mem _ hd)
  have hfit : Fit s := fun {y c} hc i hi => by
    obtain ⟨ha, rfl⟩ := Array.getElem?_eq_some_iff.mp hc
    have q := List.all_eq_true.mp ((Array.all_eq_true_iff_forall_mem.mp hF) _ (Array.getElem_mem ha)) i (List.mem_range.mpr hi)
    simpa [Array.getElem?_eq_getElem hi] using q
  obtain ⟨gi0, gr1⟩ := and_e gr0
  obtain ⟨i0, ei0⟩ := is_v gi0
  obtain rfl : w_0 = (.int i0) := Option.some.inj ei0
  obtain ⟨gi1, gr2⟩ := and_e gr1
  obtain ⟨i1, ei1⟩ := is_v gi1
  obtain rfl : w_1 = (.int i1) := Option.some.inj ei1
  obtain ⟨gi2, gr3⟩ := and_e gr2
  obtain ⟨i2, ei2⟩ := is_v gi2
  obtain rfl : w_2 = (.int i2) := Option.some.inj ei2
  obtain ⟨gi3, gr4⟩ := and_e gr3
  obtain ⟨i3, ei3⟩ := is_v gi3
  obtain rfl : w_3 = (.int i3) := Option.some.inj ei3
  obtain ⟨i4, ei4⟩ := is_v gr4
  obtain rfl : w_4 = (.int i4) := Option.some.inj ei4
  obtain ⟨hsets, hown0⟩ := atoms_of _ (rest_1_c_eq ▸ (show rest_1_c.before _ s = true from hrest))
  have n5 := not_v (Cond.before_iff.mp (hsets _ (List.mem_of_getElem? (i := 2) rfl)))
  obtain ⟨cz, e10⟩ := is_v (Cond.before_iff.mp (hsets _ (List.mem_of_getElem? (i := 1) rfl)))
  have SC : Sta s s.heap "java/lang/String" "COMPACT_STRINGS" "Z" (.int cz) := Sta.start e10 (Or.inl (hsets _ (List.mem_of_getElem? (i := 0) rfl)))
  have hcz : ¬ cz = 0 := gotF (Cond.eq_ints e10 (Term.int_eval (0))) n5
  obtain ⟨fm, ef, hfm⟩ := isR_v (Cond.before_iff.mp (hsets _ (List.mem_of_getElem? (i := 8) rfl)))
  have SF := Sta.start ef (Or.inl (hsets _ (List.mem_of_getElem? (i := 7) rfl)))
  obtain ⟨n, o, h1, h2, h3, _, L, rfl, ⟨rfl, N⟩, -, hq⟩ := (rm0 l s _ hw i0 i1 i2 i3 i4 cz fm hfm s.heap s.heap.size (Old.start s) SC hcz SF) tables_1 p e ha hc hk s m _ below hf ((Spec.applies_iff_loose hf).mp happ).1 ⟨rfl, State.Warmed39.refl s, rfl, CHv.start (own_ew hw) hcalls.1 (hsets _ (List.mem_of_getElem? (i := 2) rfl)) (wd_20 hw) (wd_7 hw), own_saf0⟩ trivial
  refine ⟨n, _, h1, h2, h3, hpost _ _ _ _ _ _ ⟨Cond.after_iff.mpr rfl, Cond.after_iff.mpr (eq_i res_at (Term.int_eval (1)) rfl), trivial⟩ ⟨hq.1, hq.2.1, hq.2.2.1, (hq.2.2.2.sift fun y hy => Or.inr (N y hy)).mono (by decide) (by decide)⟩⟩
theorem main_1_1 : Claimed_1_1 := comes_1 fun _ _ _ _ _ _ h hF => ⟨h.1, hF⟩
theorem main_1_2 : Claimed_1_2 := comes_1 fun _ _ _ _ _ _ h hF => ⟨h.2.1, hF⟩
end Jvm.Pilot.@@N@@
namespace Jvm.Pilot.@@N@@
open Jvm Jvm.ClassFile Sem Op Lib Jvm.Free Jvm.Stand Jvm.Pilot.@@N@@.Jvm.D
/-! MADE BY PROGRAM (witnessworld.py) out of the Statement's table words and the real class files: 23 classes; the members and pool entries that the words name. The judged class is class 1, her method 4. -/
namespace start1
open Jvm.ClassFile
def u (s : String) : CpInfo := .utf8 (stringToUtf16 s)
/-- a pool by its gaps: so many unusable entries, then the entry; so many at the end -/
def gap : Nat → List CpInfo → List CpInfo
  | 0, r => r
  | n + 1, r => .unusable :: gap n r
def poolList (es : List (Nat × CpInfo)) (last : Nat) : List CpInfo := es.foldr (fun e r => gap e.1 (e.2 :: r)) (gap last [])
def pool (es : List (Nat × CpInfo)) (last : Nat) : Array CpInfo := ⟨poolList es last⟩
def fileOf (pool : Array CpInfo) (this : Nat) (attrs : Array Attribute := #[]) (ms : Array MethodInfo := #[]) (fl : Nat := 33) (sup : Nat := 0) (ifs : Array Nat := #[]) (fds : Array FieldInfo := #[]) : ClassFile where
  minorVersion := 0
  majorVersion := 65
  constantPool := pool
  accessFlags := fl
  thisClass := this
  superClass := sup
  interfaces := ifs
  fields := fds
  methods := ms
  attributes := attrs
def plain (name : String) (sup : Option ClassId) : Class where
  name := name
  kind := .ordinary
  loader := none
  accessFlags := 33
  super := sup
  interfaces := #[]
  cf := none
  fields := #[]
  methods := #[]
  instanceTypes := #[]
  staticTypes := #[]
  resolved := #[]
  callSites := []
  init := .initialized
  statics := none
  mirror := none

def pool0 : Array CpInfo := pool [(5, u "<init>"), (0, u "()V"), (1, .class_ 10), (1, u "java/lang/Object")] 113

def k0c0 : Code := { maxStack := 0, maxLocals := 1, code := object_method_1_code, exceptionTable := #[], attributes := #[] }
def k0m0 : Method := { name := "<init>", desc := "()V", sig := { parameters := [], returnType := none }, accessFlags := 1, code := some k0c0 }
/-- java/lang/Object -/
def k0 : Class := { plain "java/lang/Object" none with
  accessFlags := 33
  interfaces := #[]
  cf := some (fileOf pool0 8 #[] #[{ accessFlags := 1, nameIndex := 5, descriptorIndex := 6, attributes := #[] }] 33 0 #[] #[])
  fields := #[]
  methods := #[k0m0]
  instanceTypes := #[]
  staticTypes := #[]
  resolved := Array.replicate 124 none
  statics := none }

def pool1 : Array CpInfo := pool [(2, .class_ 4), (1, u "java/lang/Object"), (0, u "<init>"), (0, u "()V"), (0, .methodref 8 9), (0, .class_ 10), (0, .nameAndType 11 12), (0, u "java/lang/String"), (0, u "charAt"), (0, u "(I)C"), (0, .integer 2147483647), (0, .methodref 15 16), (0, .class_ 17), (0, .nameAndType 18 12), (0, u "com/example/strict_replay/strictreplay/rules/FieldValuesTrimPinLaw"), (0, u "draw"), (0, .methodref 8 20), (0, .nameAndType 5 21), (0, u "([C)V"), (0, .methodref 23 24), (0, .class_ 25), (0, .nameAndType 26 27), (0, u "com/example/strict_replay/strictreplay/rules/FieldValues"), (0, u "trim"), (0, u "(Ljava/lang/String;)Ljava/lang/String;"), (0, .methodref 15 29), (0, .nameAndType 30 31), (0, u "ws"), (0, u "(C)Z"), (0, .methodref 8 33), (0, .nameAndType 34 35), (0, u "length"), (0, u "()I"), (0, .methodref 15 37), (0, .nameAndType 38 39), (0, u "at"), (0, u "(Ljava/lang/String;II[CI)Z"), (3, u "law"), (0, u "(IIIII)Z")] 4

def k1m0 : Method := { name := "<init>", desc := "()V", sig := { parameters := [], returnType := none }, accessFlags := 1, code := none }
def k1c1 : Code := { maxStack := 2, maxLocals := 2, code := method_2_code, exceptionTable := #[], attributes := #[] }
def k1m1 : Method := { name := "draw", desc := "(I)C", sig := { parameters := [.int], returnType := some .char }, accessFlags := 10, code := some k1c1 }
def k1c2 : Code := { maxStack := 2, maxLocals := 1, code := method_3_code, exceptionTable := #[], attributes := #[] }
def k1m2 : Method := { name := "ws", desc := "(C)Z", sig := { parameters := [.char], returnType := some .boolean }, accessFlags := 10, code := some k1c2 }
def k1c3 : Code := { maxStack := 4, maxLocals := 5, code := method_4_code, exceptionTable := #[], attributes := #[] }
def k1m3 : Method := { name := "at", desc := "(Ljava/lang/String;II[CI)Z", sig := { parameters := [(.object "java/lang/String"), .int, .int, (.array .char), .int], returnType := some .boolean }, accessFlags := 10, code := some k1c3 }
def k1c4 : Code := { maxStack := 5, maxLocals := 16, code := code, exceptionTable := #[], attributes := #[] }
def k1m4 : Method := { name := "law", desc := "(IIIII)Z", sig := { parameters := [.int, .int, .int, .int, .int], returnType := some .boolean }, accessFlags := 9, code := some k1c4 }
/-- com/example/strict_replay/strictreplay/rules/FieldValuesTrimPinLaw -/
def k1 : Class := { plain "com/example/strict_replay/strictreplay/rules/FieldValuesTrimPinLaw" (some 0) with
  accessFlags := 49
  interfaces := #[]
  cf := some (fileOf pool1 15 #[] #[{ accessFlags := 1, nameIndex := 5, descriptorIndex := 6, attributes := #[] }, { accessFlags := 10, nameIndex := 18, descriptorIndex := 12, attributes := #[] }, { accessFlags := 10, nameIndex := 30, descriptorIndex := 31, attributes := #[] }, { accessFlags := 10, nameIndex := 38, descriptorIndex := 39, attributes := #[] }, { accessFlags := 9, nameIndex := 43, descriptorIndex := 44, attributes := #[] }] 49 2 #[] #[])
  fields := #[]
  methods := #[k1m0, k1m1, k1m2, k1m3, k1m4]
  instanceTypes := #[]
  staticTypes := #[]
  resolved := Array.replicate 49 none
  statics := none }

def pool2 : Array CpInfo := pool [(1, .class_ 2), (0, u "java/io/Serializable"), (0, .class_ 4), (0, u "java/lang/Object")] 2

/-- java/io/Serializable -/
def k2 : Class := { plain "java/io/Serializable" (some 0) with
  accessFlags := 1537
  interfaces := #[]
  cf := some (fileOf pool2 1 #[] #[] 1537 3 #[] #[])
  fields := #[]
  methods := #[]
  instanceTypes := #[]
  staticTypes := #[]
  resolved := Array.replicate 7 none
  statics := none }

def pool3 : Array CpInfo := pool [(1, .class_ 2), (0, u "java/lang/Comparable"), (0, .class_ 4), (0, u "java/lang/Object")] 7

/-- java/lang/Comparable -/
def k3 : Class := { plain "java/lang/Comparable" (some 0) with
  accessFlags := 1537
  interfaces := #[]
  cf := some (fileOf pool3 1 #[] #[] 1537 3 #[] #[])
  fields := #[]
  methods := #[]
  instanceTypes := #[]
  staticTypes := #[]
  resolved := Array.replicate 12 none
  statics := none }

def pool4 : Array CpInfo := pool [(2, .class_ 4), (1, u "java/lang/CharSequence"), (42, .class_ 48), (0, u "java/lang/CharSequence$1CodePointIterator"), (10, .class_ 60), (0, u "java/lang/CharSequence$1CharIterator"), (5, .class_ 67), (0, u "java/lang/Object")] 63

/-- java/lang/CharSequence -/
def k4 : Class := { plain "java/lang/CharSequence" (some 0) with
  accessFlags := 1537
  interfaces := #[]
  cf := some (fileOf pool4 2 #[.nestMembers #[47, 59]] #[] 1537 66 #[] #[])
  fields := #[]
  methods := #[]
  instanceTypes := #[]
  staticTypes := #[]
  resolved := Array.replicate 131 none
  statics := none }

def pool5 : Array CpInfo := pool [(1, .class_ 2), (0, u "java/lang/constant/Constable"), (0, .class_ 4), (0, u "java/lang/Object")] 6

/-- java/lang/constant/Constable -/
def k5 : Class := { plain "java/lang/constant/Constable" (some 0) with
  accessFlags := 1537
  interfaces := #[]
  cf := some (fileOf pool5 1 #[] #[] 1537 3 #[] #[])
  fields := #[]
  methods := #[]
  instanceTypes := #[]
  staticTypes := #[]
  resolved := Array.replicate 11 none
  statics := none }

def pool6 : Array CpInfo := pool [(1, .class_ 2), (0, u "java/lang/constant/ConstantDesc"), (0, .class_ 4), (0, u "java/lang/Object")] 32

/-- java/lang/constant/ConstantDesc -/
def k6 : Class := { plain "java/lang/constant/ConstantDesc" (some 0) with
  accessFlags := 1537
  interfaces := #[]
  cf := some (fileOf pool6 1 #[] #[] 1537 3 #[] #[])
  fields := #[]
  methods := #[]
  instanceTypes := #[]
  staticTypes := #[]
  resolved := Array.replicate 37 none
  statics := none }

def pool7 : Array CpInfo := pool [(1, .methodref 2 3), (0, .class_ 4), (0, .nameAndType 5 6), (0, u "java/lang/Object"), (0, u "<init>"), (0, u "()V"), (0, .string 8), (0, u ""), (0, .fieldref 10 11), (0, .class_ 12), (0, .nameAndType 13 14), (0, u "java/lang/String"), (0, u "value"), (0, u "[B"), (0, .fieldref 10 16), (0, .nameAndType 17 18), (0, u "coder"), (0, u "B"), (2, u "hash"), (0, u "I"), (2, u "hashIsZero"), (0, u "Z"), (0, .methodref 10 28), (0, .nameAndType 5 29), (0, u "([CIILjava/lang/Void;)V"), (8, .fieldref 10 39), (0, .nameAndType 40 26), (0, u "COMPACT_STRINGS"), (1, .class_ 44), (1, u "java/lang/StringUTF16"), (0, u "compress"), (1, .methodref 42 48), (0, .nameAndType 49 50), (0, u "coderFromArrayLen"), (0, u "([BI)B"), (56, .class_ 109), (1, u "java/lang/StringLatin1"), (32, u "()Z"), (34, .methodref 42 178), (0, .nameAndType 45 179), (0, u "([CII)[B"), (31, u "([BB)V"), (122, u "()I"), (0, .methodref 10 336), (0, .nameAndType 17 337), (0, u "()B"), (25, u "([BI)C"), (27, u "(II)V"), (35, u "(I)C"), (64, .methodref 10 493), (0, .nameAndType 494 142), (0, u "isLatin1"), (0, .methodref 107 496), (0, .nameAndType 497 363), (0, u "charAt"), (3, u "checkIndex"), (3, .methodref 10 506), (0, .nameAndType 507 334), (0, u "length"), (5, u "checkFromToIndex"), (7, .methodref 10 522), (0, .nameAndType 523 524), (0, u "checkBoundsBeginEnd"), (0, u "(III)V"), (50, .class_ 576), (0, u "java/lang/CharSequence"), (22, u "CASE_INSENSITIVE_ORDER"), (0, u "Ljava/util/Comparator;"), (82, u "substring"), (0, u "(II)Ljava/lang/String;"), (0, .methodref 107 686), (0, .nameAndType 687 688), (0, u "newString"), (0, u "([BII)Ljava/lang/String;"), (321, u "([C)V"), (42, .fieldref 1054 1055), (0, .class_ 1056), (0, .nameAndType 1057 1058), (0, u "jdk/internal/util/Preconditions"), (0, u "SIOOBE_FORMATTER"), (0, u "Ljava/util/function/BiFunction;"), (0, .methodref 1054 1060), (0, .nameAndType 501 1061), (0, u "(IILjava/util/function/BiFunction;)I"), (0, .methodref 1054 1063), (0, .nameAndType 513 1064), (0, u "(IIILjava/util/function/BiFunction;)I"), (36, u "serialPersistentFields"), (0, u "[Ljava/io/ObjectStreamField;"), (0, .class_ 1104), (0, u "java/lang/String$CaseInsensitiveComparator"), (1, .class_ 1107), (0, u "java/io/Serializable"), (0, .class_ 1109), (0, u "java/lang/Comparable"), (0, .class_ 1111), (0, u "java/lang/constant/Constable"), (0, .class_ 1113), (0, u "java/lang/constant/ConstantDesc"), (2, u "serialVersionUID"), (0, u "J"), (3, u "REPL"), (0, u "C"), (2, u "LATIN1"), (1, u "UTF16")] 323

def k7m0 : Method := { name := "<init>", desc := "()V", sig := { parameters := [], returnType := none }, accessFlags := 1, code := none }
def k7c1 : Code := { maxStack := 5, maxLocals := 2, code := jdk_42_method_3_code, exceptionTable := #[], attributes := #[] }
def k7m1 : Method := { name := "<init>", desc := "([C)V", sig := { parameters := [(.array .char)], returnType := none }, accessFlags := 1, code := some k7c1 }
def k7c2 : Code := { maxStack := 2, maxLocals := 1, code := jdk_42_method_54_code, exceptionTable := #[], attributes := #[] }
def k7m2 : Method := { name := "length", desc := "()I", sig := { parameters := [], returnType := some .int }, accessFlags := 1, code := some k7c2 }
def k7c3 : Code := { maxStack := 2, maxLocals := 2, code := jdk_42_method_56_code, exceptionTable := #[], attributes := #[] }
def k7m3 : Method := { name := "charAt", desc := "(I)C", sig := { parameters := [.int], returnType := some .char }, accessFlags := 1, code := some k7c3 }
def k7c4 : Code := { maxStack := 3, maxLocals := 5, code := jdk_42_method_92_code, exceptionTable := #[], attributes := #[] }
def k7m4 : Method := { name := "substring", desc := "(II)Ljava/lang/String;", sig := { parameters := [.int, .int], returnType := some (.object "java/lang/String") }, accessFlags := 1, code := some k7c4 }
def k7c5 : Code := { maxStack := 4, maxLocals := 6, code := jdk_42_method_149_code, exceptionTable := #[], attributes := #[] }
def k7m5 : Method := { name := "<init>", desc := "([CIILjava/lang/Void;)V", sig := { parameters := [(.array .char), .int, .int, (.object "java/lang/Void")], returnType := none }, accessFlags := 2, code := some k7c5 }
def k7c6 : Code := { maxStack := 2, maxLocals := 3, code := jdk_42_method_151_code, exceptionTable := #[], attributes := #[] }
def k7m6 : Method := { name := "<init>", desc := "([BB)V", sig := { parameters := [(.array .byte), .byte], returnType := none }, accessFlags := 0, code := some k7c6 }
def k7c7 : Code := { maxStack := 1, maxLocals := 1, code := jdk_42_method_152_code, exceptionTable := #[], attributes := #[] }
def k7m7 : Method := { name := "coder", desc := "()B", sig := { parameters := [], returnType := some .byte }, accessFlags := 0, code := some k7c7 }
def k7c8 : Code := { maxStack := 1, maxLocals := 1, code := jdk_42_method_154_code, exceptionTable := #[], attributes := #[] }
def k7m8 : Method := { name := "isLatin1", desc := "()Z", sig := { parameters := [], returnType := some .boolean }, accessFlags := 0, code := some k7c8 }
def k7c9 : Code := { maxStack := 3, maxLocals := 2, code := jdk_42_method_155_code, exceptionTable := #[], attributes := #[] }
def k7m9 : Method := { name := "checkIndex", desc := "(II)V", sig := { parameters := [.int, .int], returnType := none }, accessFlags := 8, code := some k7c9 }
def k7c10 : Code := { maxStack := 4, maxLocals := 3, code := jdk_42_method_158_code, exceptionTable := #[], attributes := #[] }
def k7m10 : Method := { name := "checkBoundsBeginEnd", desc := "(III)V", sig := { parameters := [.int, .int, .int], returnType := none }, accessFlags := 8, code := some k7c10 }
/-- java/lang/String -/
def k7 : Class := { plain "java/lang/String" (some 0) with
  accessFlags := 49
  interfaces := #[2, 3, 4, 5, 6]
  cf := some (fileOf pool7 10 #[.nestMembers #[1103]] #[{ accessFlags := 1, nameIndex := 5, descriptorIndex := 6, attributes := #[] }, { accessFlags := 1, nameIndex := 5, descriptorIndex := 1010, attributes := #[] }, { accessFlags := 1, nameIndex := 507, descriptorIndex := 334, attributes := #[] }, { accessFlags := 1, nameIndex := 497, descriptorIndex := 427, attributes := #[] }, { accessFlags := 1, nameIndex := 683, descriptorIndex := 684, attributes := #[] }, { accessFlags := 2, nameIndex := 5, descriptorIndex := 29, attributes := #[] }, { accessFlags := 0, nameIndex := 5, descriptorIndex := 211, attributes := #[] }, { accessFlags := 0, nameIndex := 17, descriptorIndex := 337, attributes := #[] }, { accessFlags := 0, nameIndex := 494, descriptorIndex := 142, attributes := #[] }, { accessFlags := 8, nameIndex := 501, descriptorIndex := 391, attributes := #[] }, { accessFlags := 8, nameIndex := 523, descriptorIndex := 524, attributes := #[] }] 49 2 #[1106, 1108, 575, 1110, 1112] #[{ accessFlags := 18, nameIndex := 13, descriptorIndex := 14, attributes := #[] }, { accessFlags := 18, nameIndex := 17, descriptorIndex := 18, attributes := #[] }, { accessFlags := 2, nameIndex := 21, descriptorIndex := 22, attributes := #[] }, { accessFlags := 2, nameIndex := 25, descriptorIndex := 26, attributes := #[] }, { accessFlags := 26, nameIndex := 1116, descriptorIndex := 1117, attributes := #[] }, { accessFlags := 24, nameIndex := 40, descriptorIndex := 26, attributes := #[] }, { accessFlags := 26, nameIndex := 1101, descriptorIndex := 1102, attributes := #[] }, { accessFlags := 26, nameIndex := 1121, descriptorIndex := 1122, attributes := #[] }, { accessFlags := 25, nameIndex := 599, descriptorIndex := 600, attributes := #[] }, { accessFlags := 24, nameIndex := 1125, descriptorIndex := 18, attributes := #[] }, { accessFlags := 24, nameIndex := 1127, descriptorIndex := 18, attributes := #[] }])
  fields := #[{ name := "value", type := (.array .byte), accessFlags := 18, slot := 0, constantValue := 0 }, { name := "coder", type := .byte, accessFlags := 18, slot := 1, constantValue := 0 }, { name := "hash", type := .int, accessFlags := 2, slot := 2, constantValue := 0 }, { name := "hashIsZero", type := .boolean, accessFlags := 2, slot := 3, constantValue := 0 }, { name := "serialVersionUID", type := .long, accessFlags := 26, slot := 0, constantValue := 0 }, { name := "COMPACT_STRINGS", type := .boolean, accessFlags := 24, slot := 1, constantValue := 0 }, { name := "serialPersistentFields", type := (.array (.object "java/io/ObjectStreamField")), accessFlags := 26, slot := 2, constantValue := 0 }, { name := "REPL", type := .char, accessFlags := 26, slot := 3, constantValue := 0 }, { name := "CASE_INSENSITIVE_ORDER", type := (.object "java/util/Comparator"), accessFlags := 25, slot := 4, constantValue := 0 }, { name := "LATIN1", type := .byte, accessFlags := 24, slot := 5, constantValue := 0 }, { name := "UTF16", type := .byte, accessFlags := 24, slot := 6, constantValue := 0 }]
  methods := #[k7m0, k7m1, k7m2, k7m3, k7m4, k7m5, k7m6, k7m7, k7m8, k7m9, k7m10]
  instanceTypes := #[(.array .byte), .byte, .int, .boolean]
  staticTypes := #[.long, .boolean, (.array (.object "java/io/ObjectStreamField")), .char, (.object "java/util/Comparator"), .byte, .byte]
  resolved := Array.replicate 1451 none
  statics := some 0 }

def pool8 : Array CpInfo := pool [(2, .class_ 4), (1, u "java/lang/Object"), (0, u "<init>"), (0, u "()V"), (0, .methodref 8 9), (0, .class_ 10), (0, .nameAndType 11 12), (0, u "java/lang/String"), (0, u "length"), (0, u "()I"), (0, .methodref 8 14), (0, .nameAndType 15 16), (0, u "charAt"), (0, u "(I)C"), (0, .methodref 18 19), (0, .class_ 20), (0, .nameAndType 21 22), (0, u "com/example/strict_replay/strictreplay/rules/FieldValues"), (0, u "isSpaceOrTab"), (0, u "(C)Z"), (0, .methodref 8 24), (0, .nameAndType 25 26), (0, u "substring"), (0, u "(II)Ljava/lang/String;"), (2, u "trim"), (0, u "(Ljava/lang/String;)Ljava/lang/String;")] 3

def k8m0 : Method := { name := "<init>", desc := "()V", sig := { parameters := [], returnType := none }, accessFlags := 2, code := none }
def k8c1 : Code := { maxStack := 3, maxLocals := 3, code := prog_8_method_2_code, exceptionTable := #[], attributes := #[] }
def k8m1 : Method := { name := "trim", desc := "(Ljava/lang/String;)Ljava/lang/String;", sig := { parameters := [(.object "java/lang/String")], returnType := some (.object "java/lang/String") }, accessFlags := 8, code := some k8c1 }
def k8c2 : Code := { maxStack := 2, maxLocals := 1, code := prog_8_method_3_code, exceptionTable := #[], attributes := #[] }
def k8m2 : Method := { name := "isSpaceOrTab", desc := "(C)Z", sig := { parameters := [.char], returnType := some .boolean }, accessFlags := 10, code := some k8c2 }
/-- com/example/strict_replay/strictreplay/rules/FieldValues -/
def k8 : Class := { plain "com/example/strict_replay/strictreplay/rules/FieldValues" (some 0) with
  accessFlags := 32
  interfaces := #[]
  cf := some (fileOf pool8 18 #[] #[{ accessFlags := 2, nameIndex := 5, descriptorIndex := 6, attributes := #[] }, { accessFlags := 8, nameIndex := 29, descriptorIndex := 30, attributes := #[] }, { accessFlags := 10, nameIndex := 21, descriptorIndex := 22, attributes := #[] }] 32 2 #[] #[])
  fields := #[]
  methods := #[k8m0, k8m1, k8m2]
  instanceTypes := #[]
  staticTypes := #[]
  resolved := Array.replicate 34 none
  statics := none }

def pool9 : Array CpInfo := pool [(2, .class_ 4), (1, u "java/lang/Object"), (0, u "<init>"), (0, u "()V"), (17, .class_ 26), (1, u "jdk/internal/util/Preconditions"), (6, u "checkIndex"), (13, u "checkFromToIndex"), (7, .class_ 56), (0, u "jdk/internal/util/Preconditions$4"), (57, .class_ 115), (0, u "jdk/internal/util/Preconditions$1"), (7, u "SIOOBE_FORMATTER"), (0, u "Ljava/util/function/BiFunction;"), (0, .class_ 126), (0, u "jdk/internal/util/Preconditions$2"), (3, u "AIOOBE_FORMATTER"), (0, .class_ 132), (0, u "jdk/internal/util/Preconditions$3"), (3, u "IOOBE_FORMATTER"), (41, u "(IILjava/util/function/BiFunction;)I"), (4, u "(IIILjava/util/function/BiFunction;)I")] 10

def k9m0 : Method := { name := "<init>", desc := "()V", sig := { parameters := [], returnType := none }, accessFlags := 1, code := none }
def k9c1 : Code := { maxStack := 3, maxLocals := 3, code := jdk_41_method_11_code, exceptionTable := #[], attributes := #[] }
def k9m1 : Method := { name := "checkIndex", desc := "(IILjava/util/function/BiFunction;)I", sig := { parameters := [.int, .int, (.object "java/util/function/BiFunction")], returnType := some .int }, accessFlags := 9, code := some k9c1 }
def k9c2 : Code := { maxStack := 4, maxLocals := 4, code := jdk_41_method_12_code, exceptionTable := #[], attributes := #[] }
def k9m2 : Method := { name := "checkFromToIndex", desc := "(IIILjava/util/function/BiFunction;)I", sig := { parameters := [.int, .int, .int, (.object "java/util/function/BiFunction")], returnType := some .int }, accessFlags := 9, code := some k9c2 }
/-- jdk/internal/util/Preconditions -/
def k9 : Class := { plain "jdk/internal/util/Preconditions" (some 0) with
  accessFlags := 33
  interfaces := #[]
  cf := some (fileOf pool9 24 #[.nestMembers #[55, 131, 125, 114]] #[{ accessFlags := 1, nameIndex := 5, descriptorIndex := 6, attributes := #[] }, { accessFlags := 9, nameIndex := 33, descriptorIndex := 178, attributes := #[] }, { accessFlags := 9, nameIndex := 47, descriptorIndex := 183, attributes := #[] }] 33 2 #[] #[{ accessFlags := 25, nameIndex := 123, descriptorIndex := 124, attributes := #[] }, { accessFlags := 25, nameIndex := 130, descriptorIndex := 124, attributes := #[] }, { accessFlags := 25, nameIndex := 136, descriptorIndex := 124, attributes := #[] }])
  fields := #[{ name := "SIOOBE_FORMATTER", type := (.object "java/util/function/BiFunction"), accessFlags := 25, slot := 0, constantValue := 0 }, { name := "AIOOBE_FORMATTER", type := (.object "java/util/function/BiFunction"), accessFlags := 25, slot := 1, constantValue := 0 }, { name := "IOOBE_FORMATTER", type := (.object "java/util/function/BiFunction"), accessFlags := 25, slot := 2, constantValue := 0 }]
  methods := #[k9m0, k9m1, k9m2]
  instanceTypes := #[]
  staticTypes := #[(.object "java/util/function/BiFunction"), (.object "java/util/function/BiFunction"), (.object "java/util/function/BiFunction")]
  resolved := Array.replicate 194 none
  statics := some 1 }

def pool10 : Array CpInfo := pool [(6, .class_ 8), (1, u "java/lang/Object"), (0, u "<init>"), (0, u "()V"), (1, .class_ 14), (1, u "java/lang/StringUTF16"), (31, u "$assertionsDisabled"), (0, u "Z"), (13, u "HI_BYTE_SHIFT"), (0, u "I"), (2, u "LO_BYTE_SHIFT"), (49, .methodref 12 116), (0, .nameAndType 117 118), (0, u "compress"), (0, u "([CI[BII)I"), (3, u "([CII)[B"), (138, u "coderFromArrayLen"), (0, u "([BI)B"), (106, .class_ 371), (1, u "java/lang/StringUTF16$LinesSpliterator"), (58, u "MAX_LENGTH"), (196, .class_ 628), (0, u "java/lang/StringUTF16$CodePointsSpliterator"), (0, .class_ 630), (0, u "java/lang/StringUTF16$CharsSpliterator")] 4

def k10m0 : Method := { name := "<init>", desc := "()V", sig := { parameters := [], returnType := none }, accessFlags := 0, code := none }
def k10c1 : Code := { maxStack := 2, maxLocals := 2, code := jdk_52_method_15_code, exceptionTable := #[], attributes := #[] }
def k10m1 : Method := { name := "coderFromArrayLen", desc := "([BI)B", sig := { parameters := [(.array .byte), .int], returnType := some .byte }, accessFlags := 8, code := some k10c1 }
def k10c2 : Code := { maxStack := 5, maxLocals := 6, code := jdk_52_method_16_code, exceptionTable := #[], attributes := #[] }
def k10m2 : Method := { name := "compress", desc := "([CII)[B", sig := { parameters := [(.array .char), .int, .int], returnType := some (.array .byte) }, accessFlags := 9, code := some k10c2 }
def k10c3 : Code := { maxStack := 3, maxLocals := 7, code := jdk_52_method_21_code, exceptionTable := #[], attributes := #[] }
def k10m3 : Method := { name := "compress", desc := "([CI[BII)I", sig := { parameters := [(.array .char), .int, (.array .byte), .int, .int], returnType := some .int }, accessFlags := 9, code := some k10c3 }
/-- java/lang/StringUTF16 -/
def k10 : Class := { plain "java/lang/StringUTF16" (some 0) with
  accessFlags := 48
  interfaces := #[]
  cf := some (fileOf pool10 12 #[.nestMembers #[627, 629, 369]] #[{ accessFlags := 0, nameIndex := 9, descriptorIndex := 10, attributes := #[] }, { accessFlags := 8, nameIndex := 261, descriptorIndex := 262, attributes := #[] }, { accessFlags := 9, nameIndex := 117, descriptorIndex := 122, attributes := #[] }, { accessFlags := 9, nameIndex := 117, descriptorIndex := 118, attributes := #[] }] 48 6 #[] #[{ accessFlags := 26, nameIndex := 61, descriptorIndex := 62, attributes := #[] }, { accessFlags := 26, nameIndex := 65, descriptorIndex := 62, attributes := #[] }, { accessFlags := 24, nameIndex := 430, descriptorIndex := 62, attributes := #[] }, { accessFlags := 4120, nameIndex := 46, descriptorIndex := 47, attributes := #[] }])
  fields := #[{ name := "HI_BYTE_SHIFT", type := .int, accessFlags := 26, slot := 0, constantValue := 0 }, { name := "LO_BYTE_SHIFT", type := .int, accessFlags := 26, slot := 1, constantValue := 0 }, { name := "MAX_LENGTH", type := .int, accessFlags := 24, slot := 2, constantValue := 0 }, { name := "$assertionsDisabled", type := .boolean, accessFlags := 4120, slot := 3, constantValue := 0 }]
  methods := #[k10m0, k10m1, k10m2, k10m3]
  instanceTypes := #[]
  staticTypes := #[.int, .int, .int, .boolean]
  resolved := Array.replicate 635 none
  statics := none }

def pool11 : Array CpInfo := pool [(1, .class_ 2), (0, u "java/lang/String"), (1, .class_ 6), (1, u "java/lang/Object"), (0, u "<init>"), (0, u "()V"), (0, .methodref 1 10), (0, .nameAndType 11 12), (0, u "checkIndex"), (0, u "(II)V"), (1, .class_ 16), (1, u "java/lang/StringLatin1"), (36, u "([BI)C"), (58, .methodref 1 113), (0, .nameAndType 7 114), (0, u "([BB)V"), (6, u "$assertionsDisabled"), (0, u "Z"), (8, .class_ 133), (1, u "java/util/Arrays"), (17, .string 152), (0, u ""), (43, u "newString"), (0, u "([BII)Ljava/lang/String;"), (23, .class_ 223), (1, u "java/lang/StringLatin1$LinesSpliterator"), (8, .methodref 131 233), (0, .nameAndType 234 235), (0, u "copyOfRange"), (0, u "([BII)[B"), (16, u "charAt"), (137, .class_ 391), (0, u "java/lang/StringLatin1$CharsSpliterator")] 3

def k11m0 : Method := { name := "<init>", desc := "()V", sig := { parameters := [], returnType := none }, accessFlags := 0, code := none }
def k11c1 : Code := { maxStack := 2, maxLocals := 2, code := jdk_43_method_2_code, exceptionTable := #[], attributes := #[] }
def k11m1 : Method := { name := "charAt", desc := "([BI)C", sig := { parameters := [(.array .byte), .int], returnType := some .char }, accessFlags := 9, code := some k11c1 }
def k11c2 : Code := { maxStack := 6, maxLocals := 3, code := jdk_43_method_47_code, exceptionTable := #[], attributes := #[] }
def k11m2 : Method := { name := "newString", desc := "([BII)Ljava/lang/String;", sig := { parameters := [(.array .byte), .int, .int], returnType := some (.object "java/lang/String") }, accessFlags := 9, code := some k11c2 }
/-- java/lang/StringLatin1 -/
def k11 : Class := { plain "java/lang/StringLatin1" (some 0) with
  accessFlags := 48
  interfaces := #[]
  cf := some (fileOf pool11 14 #[.nestMembers #[390, 221]] #[{ accessFlags := 0, nameIndex := 7, descriptorIndex := 8, attributes := #[] }, { accessFlags := 9, nameIndex := 252, descriptorIndex := 53, attributes := #[] }, { accessFlags := 9, nameIndex := 196, descriptorIndex := 197, attributes := #[] }] 48 4 #[] #[{ accessFlags := 4120, nameIndex := 121, descriptorIndex := 122, attributes := #[] }])
  fields := #[{ name := "$assertionsDisabled", type := .boolean, accessFlags := 4120, slot := 0, constantValue := 0 }]
  methods := #[k11m0, k11m1, k11m2]
  instanceTypes := #[]
  staticTypes := #[.boolean]
  resolved := Array.replicate 395 none
  statics := none }

def pool12 : Array CpInfo := pool [(2, .class_ 4), (1, u "java/lang/Object"), (0, u "<init>"), (0, u "()V"), (7, .class_ 16), (1, u "java/util/Arrays"), (57, .class_ 76), (1, u "java/util/Arrays$NaturalOrder"), (36, .class_ 115), (1, u "java/util/Arrays$LegacyMergeSort"), (1, u "Z"), (21, u "copyOfRange"), (10, .methodref 151 152), (0, .class_ 153), (0, .nameAndType 154 155), (0, u "java/lang/System"), (0, u "arraycopy"), (0, u "(Ljava/lang/Object;ILjava/lang/Object;II)V"), (148, .methodref 305 306), (0, .class_ 307), (0, .nameAndType 308 309), (0, u "java/lang/Math"), (0, u "min"), (0, u "(II)I"), (29, .methodref 14 340), (0, .nameAndType 341 342), (0, u "copyOfRangeByte"), (0, u "([BII)[B"), (0, .methodref 14 344), (0, .nameAndType 345 346), (0, u "checkLength"), (0, u "(II)V"), (28, .class_ 376), (0, u "java/util/Arrays$ArrayList"), (68, u "$assertionsDisabled"), (269, u "MIN_ARRAY_SORT_GRAN"), (0, u "I"), (2, u "INSERTIONSORT_THRESHOLD"), (255, .class_ 976), (0, u "java/util/Arrays$ArrayItr")] 52

def k12m0 : Method := { name := "<init>", desc := "()V", sig := { parameters := [], returnType := none }, accessFlags := 2, code := none }
def k12c1 : Code := { maxStack := 4, maxLocals := 2, code := jdk_65_method_131_code, exceptionTable := #[], attributes := #[] }
def k12m1 : Method := { name := "checkLength", desc := "(II)V", sig := { parameters := [.int, .int], returnType := none }, accessFlags := 10, code := some k12c1 }
def k12c2 : Code := { maxStack := 3, maxLocals := 3, code := jdk_65_method_132_code, exceptionTable := #[], attributes := #[] }
def k12m2 : Method := { name := "copyOfRange", desc := "([BII)[B", sig := { parameters := [(.array .byte), .int, .int], returnType := some (.array .byte) }, accessFlags := 9, code := some k12c2 }
def k12c3 : Code := { maxStack := 6, maxLocals := 5, code := jdk_65_method_133_code, exceptionTable := #[], attributes := #[] }
def k12m3 : Method := { name := "copyOfRangeByte", desc := "([BII)[B", sig := { parameters := [(.array .byte), .int, .int], returnType := some (.array .byte) }, accessFlags := 10, code := some k12c3 }
/-- java/util/Arrays -/
def k12 : Class := { plain "java/util/Arrays" (some 0) with
  accessFlags := 49
  interfaces := #[]
  cf := some (fileOf pool12 14 #[.nestMembers #[975, 375, 113, 74]] #[{ accessFlags := 2, nameIndex := 5, descriptorIndex := 6, attributes := #[] }, { accessFlags := 10, nameIndex := 345, descriptorIndex := 346, attributes := #[] }, { accessFlags := 9, nameIndex := 139, descriptorIndex := 342, attributes := #[] }, { accessFlags := 10, nameIndex := 341, descriptorIndex := 342, attributes := #[] }] 49 2 #[] #[{ accessFlags := 26, nameIndex := 715, descriptorIndex := 716, attributes := #[] }, { accessFlags := 26, nameIndex := 719, descriptorIndex := 716, attributes := #[] }, { accessFlags := 4120, nameIndex := 445, descriptorIndex := 117, attributes := #[] }])
  fields := #[{ name := "MIN_ARRAY_SORT_GRAN", type := .int, accessFlags := 26, slot := 0, constantValue := 0 }, { name := "INSERTIONSORT_THRESHOLD", type := .int, accessFlags := 26, slot := 1, constantValue := 0 }, { name := "$assertionsDisabled", type := .boolean, accessFlags := 4120, slot := 2, constantValue := 0 }]
  methods := #[k12m0, k12m1, k12m2, k12m3]
  instanceTypes := #[]
  staticTypes := #[.int, .int, .boolean]
  resolved := Array.replicate 1029 none
  statics := none }

def pool13 : Array CpInfo := pool [(1, .class_ 2), (0, u "java/lang/Math"), (1, .class_ 6), (1, u "java/lang/Object"), (0, u "<init>"), (0, u "()V"), (89, .class_ 100), (1, u "java/lang/Math$RandomNumberGeneratorHolder"), (71, u "negativeZeroFloatBits"), (0, u "J"), (2, u "negativeZeroDoubleBits"), (24, u "min"), (43, u "$assertionsDisabled"), (0, u "Z"), (88, u "(II)I"), (2, u "twoToTheDoubleScaleDown"), (0, u "D"), (4, u "twoToTheDoubleScaleUp"), (9, u "E"), (3, u "PI"), (2, u "TAU"), (2, u "DEGREES_TO_RADIANS"), (0, u "RADIANS_TO_DEGREES")] 94

def k13m0 : Method := { name := "<init>", desc := "()V", sig := { parameters := [], returnType := none }, accessFlags := 2, code := none }
def k13c1 : Code := { maxStack := 2, maxLocals := 2, code := jdk_29_method_69_code, exceptionTable := #[], attributes := #[] }
def k13m1 : Method := { name := "min", desc := "(II)I", sig := { parameters := [.int, .int], returnType := some .int }, accessFlags := 9, code := some k13c1 }
/-- java/lang/Math -/
def k13 : Class := { plain "java/lang/Math" (some 0) with
  accessFlags := 49
  interfaces := #[]
  cf := some (fileOf pool13 1 #[.nestMembers #[98]] #[{ accessFlags := 2, nameIndex := 7, descriptorIndex := 8, attributes := #[] }, { accessFlags := 9, nameIndex := 201, descriptorIndex := 335, attributes := #[] }] 49 4 #[] #[{ accessFlags := 25, nameIndex := 354, descriptorIndex := 339, attributes := #[] }, { accessFlags := 25, nameIndex := 358, descriptorIndex := 339, attributes := #[] }, { accessFlags := 25, nameIndex := 361, descriptorIndex := 339, attributes := #[] }, { accessFlags := 26, nameIndex := 364, descriptorIndex := 339, attributes := #[] }, { accessFlags := 26, nameIndex := 365, descriptorIndex := 339, attributes := #[] }, { accessFlags := 26, nameIndex := 172, descriptorIndex := 173, attributes := #[] }, { accessFlags := 26, nameIndex := 176, descriptorIndex := 173, attributes := #[] }, { accessFlags := 8, nameIndex := 344, descriptorIndex := 339, attributes := #[] }, { accessFlags := 8, nameIndex := 338, descriptorIndex := 339, attributes := #[] }, { accessFlags := 4120, nameIndex := 245, descriptorIndex := 246, attributes := #[] }])
  fields := #[{ name := "E", type := .double, accessFlags := 25, slot := 0, constantValue := 0 }, { name := "PI", type := .double, accessFlags := 25, slot := 1, constantValue := 0 }, { name := "TAU", type := .double, accessFlags := 25, slot := 2, constantValue := 0 }, { name := "DEGREES_TO_RADIANS", type := .double, accessFlags := 26, slot := 3, constantValue := 0 }, { name := "RADIANS_TO_DEGREES", type := .double, accessFlags := 26, slot := 4, constantValue := 0 }, { name := "negativeZeroFloatBits", type := .long, accessFlags := 26, slot := 5, constantValue := 0 }, { name := "negativeZeroDoubleBits", type := .long, accessFlags := 26, slot := 6, constantValue := 0 }, { name := "twoToTheDoubleScaleUp", type := .double, accessFlags := 8, slot := 7, constantValue := 0 }, { name := "twoToTheDoubleScaleDown", type := .double, accessFlags := 8, slot := 8, constantValue := 0 }, { name := "$assertionsDisabled", type := .boolean, accessFlags := 4120, slot := 9, constantValue := 0 }]
  methods := #[k13m0, k13m1]
  instanceTypes := #[]
  staticTypes := #[.double, .double, .double, .double, .double, .long, .long, .double, .double, .boolean]
  resolved := Array.replicate 460 none
  statics := none }

def pool14 : Array CpInfo := pool [(2, .class_ 4), (1, u "java/lang/Object"), (0, u "<init>"), (0, u "()V"), (1, .class_ 10), (1, u "java/lang/System"), (0, u "allowSecurityManager"), (0, u "I"), (16, u "cons"), (0, u "Ljava/io/Console;"), (77, .class_ 110), (1, u "java/lang/System$CallersHolder"), (43, u "initialErrStream"), (0, u "Ljava/io/PrintStream;"), (19, u "security"), (0, u "Ljava/lang/SecurityManager;"), (31, .class_ 209), (0, u "java/lang/System$1"), (7, u "props"), (0, u "Ljava/util/Properties;"), (2, u "lineSeparator"), (0, u "Ljava/lang/String;"), (96, .class_ 321), (1, u "java/lang/System$LoggerFinder"), (5, .class_ 328), (0, u "java/lang/System$Logger"), (67, u "err"), (2, u "out"), (91, u "notSupportedJnuEncoding"), (15, u "in"), (17, u "initialIn"), (0, u "Ljava/io/InputStream;"), (35, u "bootLayer"), (0, u "Ljava/lang/ModuleLayer;"), (99, .class_ 664), (0, u "java/lang/System$2"), (9, u "NEVER"), (2, u "MAYBE"), (49, u "arraycopy"), (0, u "(Ljava/lang/Object;ILjava/lang/Object;II)V"), (72, .class_ 802), (0, u "java/lang/System$Logger$Level")] 31

def k14m0 : Method := { name := "<init>", desc := "()V", sig := { parameters := [], returnType := none }, accessFlags := 2, code := none }
def k14m1 : Method := { name := "arraycopy", desc := "(Ljava/lang/Object;ILjava/lang/Object;II)V", sig := { parameters := [(.object "java/lang/Object"), .int, (.object "java/lang/Object"), .int, .int], returnType := none }, accessFlags := 265, code := none }
/-- java/lang/System -/
def k14 : Class := { plain "java/lang/System" (some 0) with
  accessFlags := 49
  interfaces := #[]
  cf := some (fileOf pool14 8 #[.nestMembers #[319, 327, 801, 108, 663, 208]] #[{ accessFlags := 2, nameIndex := 5, descriptorIndex := 6, attributes := #[] }, { accessFlags := 265, nameIndex := 727, descriptorIndex := 728, attributes := #[] }] 49 2 #[] #[{ accessFlags := 25, nameIndex := 507, descriptorIndex := 526, attributes := #[] }, { accessFlags := 25, nameIndex := 399, descriptorIndex := 155, attributes := #[] }, { accessFlags := 25, nameIndex := 396, descriptorIndex := 155, attributes := #[] }, { accessFlags := 10, nameIndex := 525, descriptorIndex := 526, attributes := #[] }, { accessFlags := 26, nameIndex := 674, descriptorIndex := 12, attributes := #[] }, { accessFlags := 26, nameIndex := 677, descriptorIndex := 12, attributes := #[] }, { accessFlags := 10, nameIndex := 11, descriptorIndex := 12, attributes := #[] }, { accessFlags := 74, nameIndex := 175, descriptorIndex := 176, attributes := #[] }, { accessFlags := 10, nameIndex := 491, descriptorIndex := 222, attributes := #[] }, { accessFlags := 74, nameIndex := 29, descriptorIndex := 30, attributes := #[] }, { accessFlags := 74, nameIndex := 154, descriptorIndex := 155, attributes := #[] }, { accessFlags := 10, nameIndex := 217, descriptorIndex := 218, attributes := #[] }, { accessFlags := 10, nameIndex := 221, descriptorIndex := 222, attributes := #[] }, { accessFlags := 8, nameIndex := 562, descriptorIndex := 563, attributes := #[] }])
  fields := #[{ name := "in", type := (.object "java/io/InputStream"), accessFlags := 25, slot := 0, constantValue := 0 }, { name := "out", type := (.object "java/io/PrintStream"), accessFlags := 25, slot := 1, constantValue := 0 }, { name := "err", type := (.object "java/io/PrintStream"), accessFlags := 25, slot := 2, constantValue := 0 }, { name := "initialIn", type := (.object "java/io/InputStream"), accessFlags := 10, slot := 3, constantValue := 0 }, { name := "NEVER", type := .int, accessFlags := 26, slot := 4, constantValue := 0 }, { name := "MAYBE", type := .int, accessFlags := 26, slot := 5, constantValue := 0 }, { name := "allowSecurityManager", type := .int, accessFlags := 10, slot := 6, constantValue := 0 }, { name := "security", type := (.object "java/lang/SecurityManager"), accessFlags := 74, slot := 7, constantValue := 0 }, { name := "notSupportedJnuEncoding", type := (.object "java/lang/String"), accessFlags := 10, slot := 8, constantValue := 0 }, { name := "cons", type := (.object "java/io/Console"), accessFlags := 74, slot := 9, constantValue := 0 }, { name := "initialErrStream", type := (.object "java/io/PrintStream"), accessFlags := 74, slot := 10, constantValue := 0 }, { name := "props", type := (.object "java/util/Properties"), accessFlags := 10, slot := 11, constantValue := 0 }, { name := "lineSeparator", type := (.object "java/lang/String"), accessFlags := 10, slot := 12, constantValue := 0 }, { name := "bootLayer", type := (.object "java/lang/ModuleLayer"), accessFlags := 8, slot := 13, constantValue := 0 }]
  methods := #[k14m0, k14m1]
  instanceTypes := #[]
  staticTypes := #[(.object "java/io/InputStream"), (.object "java/io/PrintStream"), (.object "java/io/PrintStream"), (.object "java/io/InputStream"), .int, .int, .int, (.object "java/lang/SecurityManager"), (.object "java/lang/String"), (.object "java/io/Console"), (.object "java/io/PrintStream"), (.object "java/util/Properties"), (.object "java/lang/String"), (.object "java/lang/ModuleLayer")]
  resolved := Array.replicate 834 none
  statics := none }

def pool15 : Array CpInfo := pool [(9, u "<init>"), (6, .class_ 18), (1, u "java/lang/Object"), (0, u "()V"), (1, .class_ 23), (1, u "jdk/internal/util/ArraysSupport"), (0, u "LOG2_ARRAY_LONG_INDEX_SCALE"), (0, u "I"), (2, u "U"), (0, u "Ljdk/internal/misc/Unsafe;"), (8, u "BIG_ENDIAN"), (0, u "Z"), (8, u "LOG2_BYTE_BIT_SIZE"), (4, u "LOG2_ARRAY_INT_INDEX_SCALE"), (54, u "JLA"), (0, u "Ljdk/internal/access/JavaLangAccess;"), (11, u "LOG2_ARRAY_BOOLEAN_INDEX_SCALE"), (9, u "LOG2_ARRAY_BYTE_INDEX_SCALE"), (5, u "LOG2_ARRAY_CHAR_INDEX_SCALE"), (5, u "LOG2_ARRAY_SHORT_INDEX_SCALE"), (18, u "LOG2_ARRAY_FLOAT_INDEX_SCALE"), (24, u "LOG2_ARRAY_DOUBLE_INDEX_SCALE"), (89, u "T_BOOLEAN"), (2, u "T_CHAR"), (1, u "T_FLOAT"), (1, u "T_DOUBLE"), (1, u "T_BYTE"), (1, u "T_SHORT"), (1, u "T_INT"), (1, u "T_LONG"), (1, u "SOFT_MAX_ARRAY_LENGTH")] 83

def k15m0 : Method := { name := "<init>", desc := "()V", sig := { parameters := [], returnType := none }, accessFlags := 2, code := none }
/-- jdk/internal/util/ArraysSupport -/
def k15 : Class := { plain "jdk/internal/util/ArraysSupport" (some 0) with
  accessFlags := 33
  interfaces := #[]
  cf := some (fileOf pool15 21 #[] #[{ accessFlags := 2, nameIndex := 9, descriptorIndex := 19, attributes := #[] }] 33 16 #[] #[{ accessFlags := 24, nameIndex := 28, descriptorIndex := 29, attributes := #[] }, { accessFlags := 26, nameIndex := 38, descriptorIndex := 39, attributes := #[] }, { accessFlags := 25, nameIndex := 121, descriptorIndex := 25, attributes := #[] }, { accessFlags := 25, nameIndex := 131, descriptorIndex := 25, attributes := #[] }, { accessFlags := 25, nameIndex := 137, descriptorIndex := 25, attributes := #[] }, { accessFlags := 25, nameIndex := 143, descriptorIndex := 25, attributes := #[] }, { accessFlags := 25, nameIndex := 53, descriptorIndex := 25, attributes := #[] }, { accessFlags := 25, nameIndex := 24, descriptorIndex := 25, attributes := #[] }, { accessFlags := 25, nameIndex := 162, descriptorIndex := 25, attributes := #[] }, { accessFlags := 25, nameIndex := 187, descriptorIndex := 25, attributes := #[] }, { accessFlags := 26, nameIndex := 48, descriptorIndex := 25, attributes := #[] }, { accessFlags := 25, nameIndex := 277, descriptorIndex := 25, attributes := #[] }, { accessFlags := 25, nameIndex := 280, descriptorIndex := 25, attributes := #[] }, { accessFlags := 25, nameIndex := 282, descriptorIndex := 25, attributes := #[] }, { accessFlags := 25, nameIndex := 284, descriptorIndex := 25, attributes := #[] }, { accessFlags := 25, nameIndex := 286, descriptorIndex := 25, attributes := #[] }, { accessFlags := 25, nameIndex := 288, descriptorIndex := 25, attributes := #[] }, { accessFlags := 25, nameIndex := 290, descriptorIndex := 25, attributes := #[] }, { accessFlags := 25, nameIndex := 292, descriptorIndex := 25, attributes := #[] }, { accessFlags := 26, nameIndex := 108, descriptorIndex := 109, attributes := #[] }, { accessFlags := 25, nameIndex := 294, descriptorIndex := 25, attributes := #[] }])
  fields := #[{ name := "U", type := (.object "jdk/internal/misc/Unsafe"), accessFlags := 24, slot := 0, constantValue := 0 }, { name := "BIG_ENDIAN", type := .boolean, accessFlags := 26, slot := 1, constantValue := 0 }, { name := "LOG2_ARRAY_BOOLEAN_INDEX_SCALE", type := .int, accessFlags := 25, slot := 2, constantValue := 0 }, { name := "LOG2_ARRAY_BYTE_INDEX_SCALE", type := .int, accessFlags := 25, slot := 3, constantValue := 0 }, { name := "LOG2_ARRAY_CHAR_INDEX_SCALE", type := .int, accessFlags := 25, slot := 4, constantValue := 0 }, { name := "LOG2_ARRAY_SHORT_INDEX_SCALE", type := .int, accessFlags := 25, slot := 5, constantValue := 0 }, { name := "LOG2_ARRAY_INT_INDEX_SCALE", type := .int, accessFlags := 25, slot := 6, constantValue := 0 }, { name := "LOG2_ARRAY_LONG_INDEX_SCALE", type := .int, accessFlags := 25, slot := 7, constantValue := 0 }, { name := "LOG2_ARRAY_FLOAT_INDEX_SCALE", type := .int, accessFlags := 25, slot := 8, constantValue := 0 }, { name := "LOG2_ARRAY_DOUBLE_INDEX_SCALE", type := .int, accessFlags := 25, slot := 9, constantValue := 0 }, { name := "LOG2_BYTE_BIT_SIZE", type := .int, accessFlags := 26, slot := 10, constantValue := 0 }, { name := "T_BOOLEAN", type := .int, accessFlags := 25, slot := 11, constantValue := 0 }, { name := "T_CHAR", type := .int, accessFlags := 25, slot := 12, constantValue := 0 }, { name := "T_FLOAT", type := .int, accessFlags := 25, slot := 13, constantValue := 0 }, { name := "T_DOUBLE", type := .int, accessFlags := 25, slot := 14, constantValue := 0 }, { name := "T_BYTE", type := .int, accessFlags := 25, slot := 15, constantValue := 0 }, { name := "T_SHORT", type := .int, accessFlags := 25, slot := 16, constantValue := 0 }, { name := "T_INT", type := .int, accessFlags := 25, slot := 17, constantValue := 0 }, { name := "T_LONG", type := .int, accessFlags := 25, slot := 18, constantValue := 0 }, { name := "JLA", type := (.object "jdk/internal/access/JavaLangAccess"), accessFlags := 26, slot := 19, constantValue := 0 }, { name := "SOFT_MAX_ARRAY_LENGTH", type := .int, accessFlags := 25, slot := 20, constantValue := 0 }]
  methods := #[k15m0]
  instanceTypes := #[]
  staticTypes := #[(.object "jdk/internal/misc/Unsafe"), .boolean, .int, .int, .int, .int, .int, .int, .int, .int, .int, .int, .int, .int, .int, .int, .int, .int, .int, (.object "jdk/internal/access/JavaLangAccess"), .int]
  resolved := Array.replicate 378 none
  statics := none }

def pool16 : Array CpInfo := pool [(1, u "java/lang/Cloneable"), (0, .class_ 1), (0, u "java/lang/Object"), (0, .class_ 3)] 3

/-- java/lang/Cloneable -/
def k16 : Class := { plain "java/lang/Cloneable" (some 0) with
  accessFlags := 1537
  interfaces := #[]
  cf := some (fileOf pool16 2 #[] #[] 1537 4 #[] #[])
  fields := #[]
  methods := #[]
  instanceTypes := #[]
  staticTypes := #[]
  resolved := Array.replicate 8 none
  statics := none }

/-- the primitive byte -/
def k17 : Class := { plain "byte" none with kind := .primitive 'B', accessFlags := 0x411 }
/-- [B -/
def k18 : Class := { plain "[B" (some 0) with kind := .array 17 .byte, interfaces := #[16, 2], accessFlags := 1041 }

/-- the primitive char -/
def k19 : Class := { plain "char" none with kind := .primitive 'C', accessFlags := 0x411 }
/-- [C -/
def k20 : Class := { plain "[C" (some 0) with kind := .array 19 .char, interfaces := #[16, 2], accessFlags := 1041 }

/-- the primitive int -/
def k21 : Class := { plain "int" none with kind := .primitive 'I', accessFlags := 0x411 }
/-- [I -/
def k22 : Class := { plain "[I" (some 0) with kind := .array 21 .int, interfaces := #[16, 2], accessFlags := 1041 }

def heap : Heap := #[{ cls := 7, slots := #[.long 0, .int 1, .null, .int 0, .null, .int 0, .int 0], vm := .statics 7 },
  { cls := 9, slots := #[.null, .null, .null], vm := .statics 9 }]
def classes : Array Class := #[k0, k1, k2, k3, k4, k5, k6, k7, k8, k9, k10, k11, k12, k13, k14, k15, k16, k17, k18, k19, k20, k21, k22]
def interned : List (Array UInt16 × Addr) := []
def slotsUsed : Nat := 10
def theMethod : MethodId := ⟨1, 4⟩
def args0 : Array Value := #[.int 5, .int 6, .int 7, .int 8, .int 9]
def aboutOver (below : List Frame) : State where
  vm := { classes := classes, interned := interned.toArray }
  heap := heap
  slotsUsed := slotsUsed
  threads := #[{ frames := .invoking theMethod args0 :: below }]
def below0 : List Frame := [.native { method := ⟨0, 0⟩, args := #[] }]
def about1 : State := aboutOver below0
def p0 : Program := .bare "" "" ""
def e0 : Env := launch0.env 0 0 0
theorem w_frames : about1.frames = Frame.invoking theMethod args0 :: below0 := rfl
set_option maxRecDepth 65536 in
theorem w_args : argsFit about1.vm theMethod args0 = true := by decide +kernel
set_option maxRecDepth 65536 in
theorem w_heap : heapFits about1 = true := by decide +kernel
set_option maxRecDepth 65536 in
theorem w_runnable : about1.curStatus? = some .runnable := by decide +kernel
set_option maxRecDepth 65536 in
theorem w_alone : about1.alone = true := by decide +kernel
set_option maxRecDepth 65536 in
theorem w_named : about1.methodNamed? x = some theMethod := by decide +kernel
set_option maxRecDepth 65536 in
theorem w_hears : about1.hears theMethod below0 = true := by decide +kernel
set_option maxRecDepth 65536 in
theorem w_ripe : about1.ripe theMethod args0 below0 = true := by decide +kernel
theorem w_running : about1.status = .running := rfl
set_option maxRecDepth 65536 in
theorem w_room : about1.hasRoom e0.platform room_1 = true :=
  launch0.hasRoom_least _ room_1 (by decide +kernel) (by decide +kernel) (by decide +kernel) (by decide +kernel) (by decide +kernel) (by decide +kernel)
theorem allAtoms_all (ts : List Jvm.Cond) (a : Array Jvm.Value) (st : Jvm.State) : (allAtoms ts).before a st = ts.all (fun c => c.before a st) := by
  induction ts with
  | nil => rfl
  | cons c t ih =>
    show (Jvm.Cond.and c (allAtoms t)).before a st = _
    rw [Jvm.Cond.before_and, ih, List.all_cons]
def words1 : List Jvm.Cond := Jvm.Cond.code x code maxLocals ret :: tables_1
/-- a 'code' word, met by the world's own term for the bytes: nothing is compared byte by byte -/
theorem code_word {y : MethodName} {bytes : ByteArray} {mx : Nat} {rt : Option FieldType} {a : Array Value} {s : State} {m : MethodId} {meth : Method} {c : Code} (h1 : s.methodNamed? y = some m) (h2 : s.vm.method? m = some meth) (h3 : meth.code = some c) (h4 : c.code = bytes)
    (h5 : (c.maxLocals == mx && c.exceptionTable.isEmpty && decide (c.maxStack ≤ mostOperands) && decide (meth.sig.returnType = rt) && !meth.locks && decide (parseMethodDescriptor y.desc = some meth.sig)) = true) : (Jvm.Cond.code y bytes mx rt).before a s = true := by
  simp only [Bool.and_eq_true, beq_iff_eq, Bool.not_eq_true', decide_eq_true_eq] at h5
  obtain ⟨⟨⟨⟨⟨g1, g2⟩, g3⟩, g4⟩, g5⟩, g6⟩ := h5
  simp [Cond.before, Cond.holds, Cond.value, h1, h2, h3, h4, g1, g2, g3, g4, g5, g6]
def isCode : Jvm.Cond → Bool
  | .code _ _ _ _ => true
  | _ => false
theorem all_split {L : List Jvm.Cond} {P : Jvm.Cond → Bool} (h1 : L.all (fun c => isCode c || P c) = true) (h2 : ∀ c ∈ L.filter isCode, P c = true) : L.all P = true := by
  refine List.all_eq_true.mpr fun c hc => ?_
  have h := List.all_eq_true.mp h1 c hc
  rcases Bool.eq_false_or_eq_true (isCode c) with hi | hi
  · exact h2 c (List.mem_filter.mpr ⟨hc, hi⟩)
  · simpa [hi] using h
set_option maxRecDepth 65536 in
theorem w_c0 : (Jvm.Cond.code x code maxLocals ret).before args0 about1 = true := code_word (m := ⟨1, 4⟩) (meth := k1m4) (c := k1c4) (by decide +kernel) rfl rfl rfl (by decide +kernel)
set_option maxRecDepth 65536 in
theorem w_c1 : (Jvm.Cond.code ({ cls := "com/example/strict_replay/strictreplay/rules/FieldValuesTrimPinLaw", name := "draw", desc := "(I)C" } : Jvm.MethodName) method_2_code (2 : Nat) (Option.some Jvm.ClassFile.FieldType.char)).before args0 about1 = true := code_word (m := ⟨1, 1⟩) (meth := k1m1) (c := k1c1) (by decide +kernel) rfl rfl rfl (by decide +kernel)
set_option maxRecDepth 65536 in
theorem w_c2 : (Jvm.Cond.code ({ cls := "java/lang/String", name := "<init>", desc := "([C)V" } : Jvm.MethodName) jdk_42_method_3_code (2 : Nat) (Option.none : Option Jvm.ClassFile.FieldType)).before args0 about1 = true := code_word (m := ⟨7, 1⟩) (meth := k7m1) (c := k7c1) (by decide +kernel) rfl rfl rfl (by decide +kernel)
set_option maxRecDepth 65536 in
theorem w_c3 : (Jvm.Cond.code ({ cls := "java/lang/String", name := "<init>", desc := "([CIILjava/lang/Void;)V" } : Jvm.MethodName) jdk_42_method_149_code (6 : Nat) (Option.none : Option Jvm.ClassFile.FieldType)).before args0 about1 = true := code_word (m := ⟨7, 5⟩) (meth := k7m5) (c := k7c5) (by decide +kernel) rfl rfl rfl (by decide +kernel)
set_option maxRecDepth 65536 in
theorem w_c4 : (Jvm.Cond.code ({ cls := "java/lang/Object", name := "<init>", desc := "()V" } : Jvm.MethodName) object_method_1_code (1 : Nat) (Option.none : Option Jvm.ClassFile.FieldType)).before args0 about1 = true := code_word (m := ⟨0, 0⟩) (meth := k0m0) (c := k0c0) (by decide +kernel) rfl rfl rfl (by decide +kernel)
set_option maxRecDepth 65536 in
theorem w_c5 : (Jvm.Cond.code ({ cls := "com/example/strict_replay/strictreplay/rules/FieldValues", name := "trim", desc := "(Ljava/lang/String;)Ljava/lang/String;" } : Jvm.MethodName) prog_8_method_2_code (3 : Nat) (Option.some (Jvm.ClassFile.FieldType.object "java/lang/String"))).before args0 about1 = true := code_word (m := ⟨8, 1⟩) (meth := k8m1) (c := k8c1) (by decide +kernel) rfl rfl rfl (by decide +kernel)
set_option maxRecDepth 65536 in
theorem w_c6 : (Jvm.Cond.code ({ cls := "java/lang/String", name := "length", desc := "()I" } : Jvm.MethodName) jdk_42_method_54_code (1 : Nat) (Option.some Jvm.ClassFile.FieldType.int)).before args0 about1 = true := code_word (m := ⟨7, 2⟩) (meth := k7m2) (c := k7c2) (by decide +kernel) rfl rfl rfl (by decide +kernel)
set_option maxRecDepth 65536 in
theorem w_c7 : (Jvm.Cond.code ({ cls := "java/lang/String", name := "coder", desc := "()B" } : Jvm.MethodName) jdk_42_method_152_code (1 : Nat) (Option.some Jvm.ClassFile.FieldType.byte)).before args0 about1 = true := code_word (m := ⟨7, 7⟩) (meth := k7m7) (c := k7c7) (by decide +kernel) rfl rfl rfl (by decide +kernel)
set_option maxRecDepth 65536 in
theorem w_c8 : (Jvm.Cond.code ({ cls := "java/lang/String", name := "substring", desc := "(II)Ljava/lang/String;" } : Jvm.MethodName) jdk_42_method_92_code (5 : Nat) (Option.some (Jvm.ClassFile.FieldType.object "java/lang/String"))).before args0 about1 = true := code_word (m := ⟨7, 4⟩) (meth := k7m4) (c := k7c4) (by decide +kernel) rfl rfl rfl (by decide +kernel)
set_option maxRecDepth 65536 in
theorem w_c9 : (Jvm.Cond.code ({ cls := "java/lang/String", name := "checkBoundsBeginEnd", desc := "(III)V" } : Jvm.MethodName) jdk_42_method_158_code (3 : Nat) (Option.none : Option Jvm.ClassFile.FieldType)).before args0 about1 = true := code_word (m := ⟨7, 10⟩) (meth := k7m10) (c := k7c10) (by decide +kernel) rfl rfl rfl (by decide +kernel)
set_option maxRecDepth 65536 in
theorem w_c10 : (Jvm.Cond.code ({ cls := "jdk/internal/util/Preconditions", name := "checkFromToIndex", desc := "(IIILjava/util/function/BiFunction;)I" } : Jvm.MethodName) jdk_41_method_12_code (4 : Nat) (Option.some Jvm.ClassFile.FieldType.int)).before args0 about1 = true := code_word (m := ⟨9, 2⟩) (meth := k9m2) (c := k9c2) (by decide +kernel) rfl rfl rfl (by decide +kernel)
set_option maxRecDepth 65536 in
theorem w_c11 : (Jvm.Cond.code ({ cls := "com/example/strict_replay/strictreplay/rules/FieldValuesTrimPinLaw", name := "at", desc := "(Ljava/lang/String;II[CI)Z" } : Jvm.MethodName) method_4_code (5 : Nat) (Option.some Jvm.ClassFile.FieldType.boolean)).before args0 about1 = true := code_word (m := ⟨1, 3⟩) (meth := k1m3) (c := k1c3) (by decide +kernel) rfl rfl rfl (by decide +kernel)
set_option maxRecDepth 65536 in
theorem w_c12 : (Jvm.Cond.code ({ cls := "java/lang/StringUTF16", name := "compress", desc := "([CII)[B" } : Jvm.MethodName) jdk_52_method_16_code (6 : Nat) (Option.some (Jvm.ClassFile.FieldType.array Jvm.ClassFile.FieldType.byte))).before args0 about1 = true := code_word (m := ⟨10, 2⟩) (meth := k10m2) (c := k10c2) (by decide +kernel) rfl rfl rfl (by decide +kernel)
set_option maxRecDepth 65536 in
theorem w_c13 : (Jvm.Cond.code ({ cls := "java/lang/StringUTF16", name := "compress", desc := "([CI[BII)I" } : Jvm.MethodName) jdk_52_method_21_code (7 : Nat) (Option.some Jvm.ClassFile.FieldType.int)).before args0 about1 = true := code_word (m := ⟨10, 3⟩) (meth := k10m3) (c := k10c3) (by decide +kernel) rfl rfl rfl (by decide +kernel)
set_option maxRecDepth 65536 in
theorem w_c14 : (Jvm.Cond.code ({ cls := "java/lang/StringUTF16", name := "coderFromArrayLen", desc := "([BI)B" } : Jvm.MethodName) jdk_52_method_15_code (2 : Nat) (Option.some Jvm.ClassFile.FieldType.byte)).before args0 about1 = true := code_word (m := ⟨10, 1⟩) (meth := k10m1) (c := k10c1) (by decide +kernel) rfl rfl rfl (by decide +kernel)
set_option maxRecDepth 65536 in
theorem w_c15 : (Jvm.Cond.code ({ cls := "java/lang/String", name := "charAt", desc := "(I)C" } : Jvm.MethodName) jdk_42_method_56_code (2 : Nat) (Option.some Jvm.ClassFile.FieldType.char)).before args0 about1 = true := code_word (m := ⟨7, 3⟩) (meth := k7m3) (c := k7c3) (by decide +kernel) rfl rfl rfl (by decide +kernel)
set_option maxRecDepth 65536 in
theorem w_c16 : (Jvm.Cond.code ({ cls := "java/lang/String", name := "isLatin1", desc := "()Z" } : Jvm.MethodName) jdk_42_method_154_code (1 : Nat) (Option.some Jvm.ClassFile.FieldType.boolean)).before args0 about1 = true := code_word (m := ⟨7, 8⟩) (meth := k7m8) (c := k7c8) (by decide +kernel) rfl rfl rfl (by decide +kernel)
set_option maxRecDepth 65536 in
theorem w_c17 : (Jvm.Cond.code ({ cls := "java/lang/StringLatin1", name := "charAt", desc := "([BI)C" } : Jvm.MethodName) jdk_43_method_2_code (2 : Nat) (Option.some Jvm.ClassFile.FieldType.char)).before args0 about1 = true := code_word (m := ⟨11, 1⟩) (meth := k11m1) (c := k11c1) (by decide +kernel) rfl rfl rfl (by decide +kernel)
set_option maxRecDepth 65536 in
theorem w_c18 : (Jvm.Cond.code ({ cls := "java/lang/String", name := "checkIndex", desc := "(II)V" } : Jvm.MethodName) jdk_42_method_155_code (2 : Nat) (Option.none : Option Jvm.ClassFile.FieldType)).before args0 about1 = true := code_word (m := ⟨7, 9⟩) (meth := k7m9) (c := k7c9) (by decide +kernel) rfl rfl rfl (by decide +kernel)
set_option maxRecDepth 65536 in
theorem w_c19 : (Jvm.Cond.code ({ cls := "jdk/internal/util/Preconditions", name := "checkIndex", desc := "(IILjava/util/function/BiFunction;)I" } : Jvm.MethodName) jdk_41_method_11_code (3 : Nat) (Option.some Jvm.ClassFile.FieldType.int)).before args0 about1 = true := code_word (m := ⟨9, 1⟩) (meth := k9m1) (c := k9c1) (by decide +kernel) rfl rfl rfl (by decide +kernel)
set_option maxRecDepth 65536 in
theorem w_c20 : (Jvm.Cond.code ({ cls := "com/example/strict_replay/strictreplay/rules/FieldValues", name := "isSpaceOrTab", desc := "(C)Z" } : Jvm.MethodName) prog_8_method_3_code (1 : Nat) (Option.some Jvm.ClassFile.FieldType.boolean)).before args0 about1 = true := code_word (m := ⟨8, 2⟩) (meth := k8m2) (c := k8c2) (by decide +kernel) rfl rfl rfl (by decide +kernel)
set_option maxRecDepth 65536 in
theorem w_c21 : (Jvm.Cond.code ({ cls := "java/lang/StringLatin1", name := "newString", desc := "([BII)Ljava/lang/String;" } : Jvm.MethodName) jdk_43_method_47_code (3 : Nat) (Option.some (Jvm.ClassFile.FieldType.object "java/lang/String"))).before args0 about1 = true := code_word (m := ⟨11, 2⟩) (meth := k11m2) (c := k11c2) (by decide +kernel) rfl rfl rfl (by decide +kernel)
set_option maxRecDepth 65536 in
theorem w_c22 : (Jvm.Cond.code ({ cls := "java/util/Arrays", name := "copyOfRange", desc := "([BII)[B" } : Jvm.MethodName) jdk_65_method_132_code (3 : Nat) (Option.some (Jvm.ClassFile.FieldType.array Jvm.ClassFile.FieldType.byte))).before args0 about1 = true := code_word (m := ⟨12, 2⟩) (meth := k12m2) (c := k12c2) (by decide +kernel) rfl rfl rfl (by decide +kernel)
set_option maxRecDepth 65536 in
theorem w_c23 : (Jvm.Cond.code ({ cls := "java/util/Arrays", name := "copyOfRangeByte", desc := "([BII)[B" } : Jvm.MethodName) jdk_65_method_133_code (5 : Nat) (Option.some (Jvm.ClassFile.FieldType.array Jvm.ClassFile.FieldType.byte))).before args0 about1 = true := code_word (m := ⟨12, 3⟩) (meth := k12m3) (c := k12c3) (by decide +kernel) rfl rfl rfl (by decide +kernel)
set_option maxRecDepth 65536 in
theorem w_c24 : (Jvm.Cond.code ({ cls := "java/util/Arrays", name := "checkLength", desc := "(II)V" } : Jvm.MethodName) jdk_65_method_131_code (2 : Nat) (Option.none : Option Jvm.ClassFile.FieldType)).before args0 about1 = true := code_word (m := ⟨12, 1⟩) (meth := k12m1) (c := k12c1) (by decide +kernel) rfl rfl rfl (by decide +kernel)
set_option maxRecDepth 65536 in
theorem w_c25 : (Jvm.Cond.code ({ cls := "java/lang/Math", name := "min", desc := "(II)I" } : Jvm.MethodName) jdk_29_method_69_code (2 : Nat) (Option.some Jvm.ClassFile.FieldType.int)).before args0 about1 = true := code_word (m := ⟨13, 1⟩) (meth := k13m1) (c := k13c1) (by decide +kernel) rfl rfl rfl (by decide +kernel)
set_option maxRecDepth 65536 in
theorem w_c26 : (Jvm.Cond.code ({ cls := "java/lang/String", name := "<init>", desc := "([BB)V" } : Jvm.MethodName) jdk_42_method_151_code (3 : Nat) (Option.none : Option Jvm.ClassFile.FieldType)).before args0 about1 = true := code_word (m := ⟨7, 6⟩) (meth := k7m6) (c := k7c6) (by decide +kernel) rfl rfl rfl (by decide +kernel)
set_option maxRecDepth 65536 in
theorem w_c27 : (Jvm.Cond.code ({ cls := "com/example/strict_replay/strictreplay/rules/FieldValuesTrimPinLaw", name := "ws", desc := "(C)Z" } : Jvm.MethodName) method_3_code (1 : Nat) (Option.some Jvm.ClassFile.FieldType.boolean)).before args0 about1 = true := code_word (m := ⟨1, 2⟩) (meth := k1m2) (c := k1c2) (by decide +kernel) rfl rfl rfl (by decide +kernel)
def codes1 : List Jvm.Cond := [Jvm.Cond.code x code maxLocals ret, Jvm.Cond.code ({ cls := "com/example/strict_replay/strictreplay/rules/FieldValuesTrimPinLaw", name := "draw", desc := "(I)C" } : Jvm.MethodName) method_2_code (2 : Nat) (Option.some Jvm.ClassFile.FieldType.char), Jvm.Cond.code ({ cls := "java/lang/String", name := "<init>", desc := "([C)V" } : Jvm.MethodName) jdk_42_method_3_code (2 : Nat) (Option.none : Option Jvm.ClassFile.FieldType), Jvm.Cond.code ({ cls := "java/lang/String", name := "<init>", desc := "([CIILjava/lang/Void;)V" } : Jvm.MethodName) jdk_42_method_149_code (6 : Nat) (Option.none : Option Jvm.ClassFile.FieldType), Jvm.Cond.code ({ cls := "java/lang/Object", name := "<init>", desc := "()V" } : Jvm.MethodName) object_method_1_code (1 : Nat) (Option.none : Option Jvm.ClassFile.FieldType), Jvm.Cond.code ({ cls := "com/example/strict_replay/strictreplay/rules/FieldValues", name := "trim", desc := "(Ljava/lang/String;)Ljava/lang/String;" } : Jvm.MethodName) prog_8_method_2_code (3 : Nat) (Option.some (Jvm.ClassFile.FieldType.object "java/lang/String")), Jvm.Cond.code ({ cls := "java/lang/String", name := "length", desc := "()I" } : Jvm.MethodName) jdk_42_method_54_code (1 : Nat) (Option.some Jvm.ClassFile.FieldType.int), Jvm.Cond.code ({ cls := "java/lang/String", name := "coder", desc := "()B" } : Jvm.MethodName) jdk_42_method_152_code (1 : Nat) (Option.some Jvm.ClassFile.FieldType.byte), Jvm.Cond.code ({ cls := "java/lang/String", name := "substring", desc := "(II)Ljava/lang/String;" } : Jvm.MethodName) jdk_42_method_92_code (5 : Nat) (Option.some (Jvm.ClassFile.FieldType.object "java/lang/String")), Jvm.Cond.code ({ cls := "java/lang/String", name := "checkBoundsBeginEnd", desc := "(III)V" } : Jvm.MethodName) jdk_42_method_158_code (3 : Nat) (Option.none : Option Jvm.ClassFile.FieldType), Jvm.Cond.code ({ cls := "jdk/internal/util/Preconditions", name := "checkFromToIndex", desc := "(IIILjava/util/function/BiFunction;)I" } : Jvm.MethodName) jdk_41_method_12_code (4 : Nat) (Option.some Jvm.ClassFile.FieldType.int), Jvm.Cond.code ({ cls := "com/example/strict_replay/strictreplay/rules/FieldValuesTrimPinLaw", name := "at", desc := "(Ljava/lang/String;II[CI)Z" } : Jvm.MethodName) method_4_code (5 : Nat) (Option.some Jvm.ClassFile.FieldType.boolean), Jvm.Cond.code ({ cls := "java/lang/StringUTF16", name := "compress", desc := "([CII)[B" } : Jvm.MethodName) jdk_52_method_16_code (6 : Nat) (Option.some (Jvm.ClassFile.FieldType.array Jvm.ClassFile.FieldType.byte)), Jvm.Cond.code ({ cls := "java/lang/StringUTF16", name := "compress", desc := "([CI[BII)I" } : Jvm.MethodName) jdk_52_method_21_code (7 : Nat) (Option.some Jvm.ClassFile.FieldType.int), Jvm.Cond.code ({ cls := "java/lang/StringUTF16", name := "coderFromArrayLen", desc := "([BI)B" } : Jvm.MethodName) jdk_52_method_15_code (2 : Nat) (Option.some Jvm.ClassFile.FieldType.byte), Jvm.Cond.code ({ cls := "java/lang/String", name := "charAt", desc := "(I)C" } : Jvm.MethodName) jdk_42_method_56_code (2 : Nat) (Option.some Jvm.ClassFile.FieldType.char), Jvm.Cond.code ({ cls := "java/lang/String", name := "isLatin1", desc := "()Z" } : Jvm.MethodName) jdk_42_method_154_code (1 : Nat) (Option.some Jvm.ClassFile.FieldType.boolean), Jvm.Cond.code ({ cls := "java/lang/StringLatin1", name := "charAt", desc := "([BI)C" } : Jvm.MethodName) jdk_43_method_2_code (2 : Nat) (Option.some Jvm.ClassFile.FieldType.char), Jvm.Cond.code ({ cls := "java/lang/String", name := "checkIndex", desc := "(II)V" } : Jvm.MethodName) jdk_42_method_155_code (2 : Nat) (Option.none : Option Jvm.ClassFile.FieldType), Jvm.Cond.code ({ cls := "jdk/internal/util/Preconditions", name := "checkIndex", desc := "(IILjava/util/function/BiFunction;)I" } : Jvm.MethodName) jdk_41_method_11_code (3 : Nat) (Option.some Jvm.ClassFile.FieldType.int), Jvm.Cond.code ({ cls := "com/example/strict_replay/strictreplay/rules/FieldValues", name := "isSpaceOrTab", desc := "(C)Z" } : Jvm.MethodName) prog_8_method_3_code (1 : Nat) (Option.some Jvm.ClassFile.FieldType.boolean), Jvm.Cond.code ({ cls := "java/lang/StringLatin1", name := "newString", desc := "([BII)Ljava/lang/String;" } : Jvm.MethodName) jdk_43_method_47_code (3 : Nat) (Option.some (Jvm.ClassFile.FieldType.object "java/lang/String")), Jvm.Cond.code ({ cls := "java/util/Arrays", name := "copyOfRange", desc := "([BII)[B" } : Jvm.MethodName) jdk_65_method_132_code (3 : Nat) (Option.some (Jvm.ClassFile.FieldType.array Jvm.ClassFile.FieldType.byte)), Jvm.Cond.code ({ cls := "java/util/Arrays", name := "copyOfRangeByte", desc := "([BII)[B" } : Jvm.MethodName) jdk_65_method_133_code (5 : Nat) (Option.some (Jvm.ClassFile.FieldType.array Jvm.ClassFile.FieldType.byte)), Jvm.Cond.code ({ cls := "java/util/Arrays", name := "checkLength", desc := "(II)V" } : Jvm.MethodName) jdk_65_method_131_code (2 : Nat) (Option.none : Option Jvm.ClassFile.FieldType), Jvm.Cond.code ({ cls := "java/lang/Math", name := "min", desc := "(II)I" } : Jvm.MethodName) jdk_29_method_69_code (2 : Nat) (Option.some Jvm.ClassFile.FieldType.int), Jvm.Cond.code ({ cls := "java/lang/String", name := "<init>", desc := "([BB)V" } : Jvm.MethodName) jdk_42_method_151_code (3 : Nat) (Option.none : Option Jvm.ClassFile.FieldType), Jvm.Cond.code ({ cls := "com/example/strict_replay/strictreplay/rules/FieldValuesTrimPinLaw", name := "ws", desc := "(C)Z" } : Jvm.MethodName) method_3_code (1 : Nat) (Option.some Jvm.ClassFile.FieldType.boolean)]
set_option maxRecDepth 65536 in
theorem codes_eq : words1.filter isCode = codes1 := rfl
theorem w_codes : ∀ c ∈ words1.filter isCode, c.before args0 about1 = true := by
  rw [codes_eq]
  intro c hc
  simp only [codes1, List.mem_cons, List.not_mem_nil, or_false] at hc
  rcases hc with rfl | rfl | rfl | rfl | rfl | rfl | rfl | rfl | rfl | rfl | rfl | rfl | rfl | rfl | rfl | rfl | rfl | rfl | rfl | rfl | rfl | rfl | rfl | rfl | rfl | rfl | rfl | rfl
  · exact w_c0
  · exact w_c1
  · exact w_c2
  · exact w_c3
  · exact w_c4
  · exact w_c5
  · exact w_c6
  · exact w_c7
  · exact w_c8
  · exact w_c9
  · exact w_c10
  · exact w_c11
  · exact w_c12
  · exact w_c13
  · exact w_c14
  · exact w_c15
  · exact w_c16
  · exact w_c17
  · exact w_c18
  · exact w_c19
  · exact w_c20
  · exact w_c21
  · exact w_c22
  · exact w_c23
  · exact w_c24
  · exact w_c25
  · exact w_c26
  · exact w_c27
set_option maxRecDepth 65536 in
theorem w_t1 : (words1.take 24).all (fun c => isCode c || c.before args0 about1) = true := by decide +kernel
set_option maxRecDepth 65536 in
theorem w_t2 : ((words1.drop 24).take 24).all (fun c => isCode c || c.before args0 about1) = true := by decide +kernel
set_option maxRecDepth 65536 in
theorem w_t3 : (((words1.drop 24).drop 24).take 24).all (fun c => isCode c || c.before args0 about1) = true := by decide +kernel
set_option maxRecDepth 65536 in
theorem w_t4 : ((((words1.drop 24).drop 24).drop 24).take 24).all (fun c => isCode c || c.before args0 about1) = true := by decide +kernel
set_option maxRecDepth 65536 in
theorem w_t5 : (((((words1.drop 24).drop 24).drop 24).drop 24).take 24).all (fun c => isCode c || c.before args0 about1) = true := by decide +kernel
set_option maxRecDepth 65536 in
theorem w_t6 : (((((words1.drop 24).drop 24).drop 24).drop 24).drop 24).all (fun c => isCode c || c.before args0 about1) = true := by decide +kernel
theorem w_tables : (allAtoms (Jvm.Cond.code x code maxLocals ret :: tables_1)).before args0 about1 = true := by
  rw [allAtoms_all]
  show words1.all (fun c => c.before args0 about1) = true
  refine all_split ?_ w_codes
  rw [← List.take_append_drop 24 words1, List.all_append, w_t1, ← List.take_append_drop 24 (words1.drop 24), List.all_append, w_t2, ← List.take_append_drop 24 ((words1.drop 24).drop 24), List.all_append, w_t3, ← List.take_append_drop 24 (((words1.drop 24).drop 24).drop 24), List.all_append, w_t4, ← List.take_append_drop 24 ((((words1.drop 24).drop 24).drop 24).drop 24), List.all_append, w_t5, w_t6]
  rfl
set_option maxRecDepth 65536 in
theorem w_rest : rest_1_c.before args0 about1 = true := by decide +kernel
set_option maxRecDepth 65536 in
theorem w_case : (Jvm.Cond.and given_1 narrow_1).before args0 about1 = true := by decide +kernel
set_option maxRecDepth 65536 in
theorem w_consts : constsHeld consts_1 about1 := Jvm.Lit.constsHeldB_iff.mp (by decide +kernel)
theorem w_applies : (headSpec (Jvm.Cond.code x code maxLocals ret :: tables_1) room_1).applies x e0.platform about1 = true :=
  (Spec.applies_iff w_frames).mpr ⟨w_running, w_runnable, w_alone, w_named, w_hears, w_ripe, w_room, w_tables⟩
theorem atStart : AtStart classFile x code maxLocals ret World_1 tables_1 room_1 Calls_1 rest_1 Pre_1 launch0 p0 e0 about1 theMethod args0 below0 :=
  ⟨lists_1, trivial, launch0.admits_env _ _ _, launch0.least_env, fairChoices_fair.cas, fairChoices_fair.clock, w_frames, w_args, w_heap, w_applies, ⟨w_consts, trivial⟩, w_rest, w_case⟩
end start1
theorem witness_1 : WitnessClaimed_1 := ⟨start1.p0, start1.e0, start1.about1, start1.theMethod, start1.args0, start1.below0, start1.atStart⟩
end Jvm.Pilot.@@N@@
