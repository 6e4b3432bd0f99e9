import JvmDerived
import JvmDerived.Pilot.@@N@@Statement
import JvmDerived.Pilot.@@N@@Code
set_option linter.unusedVariables false
set_option linter.unusedSimpArgs false
namespace Jvm.RoadKit
open Sem ClassFile Op Lib Jvm.Stand Jvm.Free Jvm.LawKit
section Own
variable {p : Program} {l : Launch} {e : Env} {R : Room} {s s' : State} {m : MethodId} {args : Array Value} {below : List Frame} {meth : Method} {c : Code} {T : State} {locs : List Loc} {cells slots : Nat} {Z : State} {a0 : Array Value} {h : Heap} {K : Outcome → State → Prop} {Q : Option Value → Heap → List Loc → Prop}
/-- from the state A the run comes to an end that K allows -/
def OwnOk (p : Program) (e : Env) (below : List Frame) (K : Outcome → State → Prop) (A : State) : Prop :=
  ∃ s₂ o, Steps p.tables e below A s₂ ∧ s₂.status = .running ∧ Ended s₂ below o ∧ K o s₂
theorem own_up {A B : State} (h : ∀ t, Steps p.tables e below B t → Steps p.tables e below A t) (k : OwnOk p e below K B) : OwnOk p e below K A := by
  obtain ⟨s₂, o, h1, h2⟩ := k
  exact ⟨s₂, o, h _ h1, h2⟩
theorem own_to {A B : State} (h : Steps p.tables e below A B) (k : OwnOk p e below K B) : OwnOk p e below K A := own_up (fun _ q => h.trans q) k
theorem own_rem64 (x y : Int64) : x - (x / y) * y = x % y := by
  apply Int64.toInt_inj.mp
  have h1 := Int64.le_toInt (x % y)
  have h2 := Int64.toInt_lt (x % y)
  rw [Int64.toInt_sub, Int64.toInt_mul, Int64.toInt_div, Int.bmod_mul_bmod, Int.sub_bmod_bmod, Int.mul_comm (x.toInt.tdiv y.toInt), ← Int.tmod_def, ← Int64.toInt_mod]
  exact Int.bmod_eq_of_le_mul_two (by omega) (by omega)
theorem own_ldiv {g : JFrame} {target : State} (X : Stand p l e R s m args below meth c T locs cells slots) (hx : p.tables.exec = Jvm.exec) (hg : g.method = m) {x y : Int64} {rest : List Value} (hd : decode c.code g.pc = .ok (.ldiv, 1)) (hs : g.stack = .long y :: .long x :: rest) (hy : y ≠ 0)
    (hr : Steps p.tables e below (T.setTop { g with pc := g.pc + 1, stack := .long (x / y) :: rest }) target) : Steps p.tables e below (T.setTop g) target := by
  have h := X.here
  subst hg
  jvm_step h [h.top, hx, hd, hs, hy, ldiv.wp_sem]
  exact hr
theorem own_lrem {g : JFrame} {target : State} (X : Stand p l e R s m args below meth c T locs cells slots) (hx : p.tables.exec = Jvm.exec) (hg : g.method = m) {x y : Int64} {rest : List Value} (hd : decode c.code g.pc = .ok (.lrem, 1)) (hs : g.stack = .long y :: .long x :: rest) (hy : y ≠ 0)
    (hr : Steps p.tables e below (T.setTop { g with pc := g.pc + 1, stack := .long (x % y) :: rest }) target) : Steps p.tables e below (T.setTop g) target := by
  have h := X.here
  rw [← own_rem64] at hr
  subst hg
  jvm_step h [h.top, hx, hd, hs, hy, lrem.wp_sem]
  exact hr
theorem own_ar {h1 h2 : Heap} {b : Addr} {cl : Cell} (q : h1 = h2) (r : h2[b]? = some cl) : h1[b]? = some cl := by rw [q]; exact r
theorem own_n0 {n0 : Nat} (X : Old Z n0 h) : n0 ≤ h.size := X.1 ▸ X.2.1
theorem own_ref_eq {a b : Addr} (q : a = b) : Value.ref a = Value.ref b := congrArg Value.ref q
theorem own_ref_ne {a b : Addr} (q : ¬ a = b) : ¬ Value.ref a = Value.ref b := fun r => q (Value.ref.inj r)
theorem own_jtlt {x y : Int64} (h : x < y) : ifCond.holds .lt (lcmpW x y) = true ∧ ifCond.holds .ge (lcmpW x y) = false ∧ ifCond.holds .gt (lcmpW y x) = true ∧ ifCond.holds .le (lcmpW y x) = false := by
  have q1 : lcmpW x y < 0 := by rw [lcW]; exact (lc_lt x y).mpr h
  have q2 : (0 : Int32) < lcmpW y x := by rw [lcW]; exact (lc_gt y x).mpr h
  exact ⟨(if0 _ _).trans (tlt q1).1, (if0 _ _).trans (tlt q1).2.1, (if0 _ _).trans (tlt q2).2.2.1, (if0 _ _).trans (tlt q2).2.2.2⟩
theorem own_jflt {x y : Int64} (h : ¬ x < y) : ifCond.holds .lt (lcmpW x y) = false ∧ ifCond.holds .ge (lcmpW x y) = true ∧ ifCond.holds .gt (lcmpW y x) = false ∧ ifCond.holds .le (lcmpW y x) = true := by
  have q1 : ¬ lcmpW x y < 0 := by rw [lcW]; exact fun q => h ((lc_lt x y).mp q)
  have q2 : ¬ (0 : Int32) < lcmpW y x := by rw [lcW]; exact fun q => h ((lc_gt y x).mp q)
  exact ⟨(if0 _ _).trans (flt q1).1, (if0 _ _).trans (flt q1).2.1, (if0 _ _).trans (flt q2).2.2.1, (if0 _ _).trans (flt q2).2.2.2⟩
theorem own_jteq {x y : Int64} (h : x = y) : ifCond.holds .eq (lcmpW x y) = true ∧ ifCond.holds .ne (lcmpW x y) = false := by
  have q1 : lcmpW x y = 0 := by rw [lcW]; exact (lc_eq x y).mpr h
  exact ⟨(if0 _ _).trans (teq q1).1, (if0 _ _).trans (teq q1).2⟩
theorem own_jfeq {x y : Int64} (h : ¬ x = y) : ifCond.holds .eq (lcmpW x y) = false ∧ ifCond.holds .ne (lcmpW x y) = true := by
  have q1 : ¬ lcmpW x y = 0 := by rw [lcW]; exact fun q => h ((lc_eq x y).mp q)
  exact ⟨(if0 _ _).trans (feq q1).1, (if0 _ _).trans (feq q1).2⟩
theorem own_fldEq {t : Term} {a : Addr} {C n d : String} {z : Int32} (ev : t.eval args Z none [] Z = some (.ref a)) (q : (Cond.eq (.field t C n d) (.int z)).value args Z none Z [] = some true) : Fld Z Z.heap a C n d (.int z) := by
  obtain ⟨x, y, h1, h2, h3, h4⟩ := cmp_v (Or.inl q)
  have e2 : y = .int z := by simpa [Term.eval] using h2.symm
  subst e2
  obtain ⟨w, rfl⟩ := h4
  have hw : w = z := by
    have q' := q
    rw [Cond.eq_ints h1 h2] at q'
    exact of_decide_eq_true (Option.some.inj q')
  subst hw
  rw [fld_at ev] at h1
  exact Fld.start h1
/-- the end of a body that interns nothing -/
def own_K (s : State) (Q : Option Value → Heap → List Loc → Prop) (k n : Nat) (o : Outcome) (u : State) : Prop := ∃ v L, o = .returned v ∧ Q v u.heap L ∧ FrameEnd s o u L k n
/-- a body's contract -/
def own_Met (l : Launch) (Z : State) (y : MethodName) (bytes : ByteArray) (maxL : Nat) (ret : Option FieldType) (rm : Room) (as' : Array Value) (h0 : Heap) (Q : Option Value → Heap → List Loc → Prop) : Prop :=
  ∀ ws, MetFree l y (head1 (Cond.code y bytes maxL ret :: ws) rm) (fun a U => a = as' ∧ Z.Warmed39 U.vm ∧ U.heap = h0) (fun _ _ _ _ _ => True) (fun _ U o U' => own_K U Q rm.cells rm.slots o U')
theorem own_body {y : MethodName} {bytes : ByteArray} {maxL : Nat} {ret : Option FieldType} {rm : Room} {as' : Array Value} {L0 : Array Slot}
    (hpl : plainFor y = true) (ef : ∀ m, entryFrame m as' maxL = mkF m 0 L0 [])
    (body : ∀ (p : Program) (e : Env) (s : State) (m : MethodId) (below : List Frame) (meth : Method) (c : Code) (s₁ : State), p.tables.exec = Jvm.exec → c.code = bytes → c.maxLocals = maxL → Z.Warmed39 s.vm → s.vm.findClass y.cls = some m.cls → meth.name = y.name → meth.sig.returnType = ret → meth.locks = false →
      Stand p l e rm s m as' below meth c s₁ [] 0 0 → s₁.heap = h → OwnOk p e below (own_K s Q rm.cells rm.slots) (s₁.setTop (mkF m 0 L0 []))) :
    own_Met l Z y bytes maxL ret rm as' h Q := by
  intro ws
  refine MetFree.of_bodySF hpl hisR ?_
  intro p e s m args below meth c s₁ Bd hml0 hP hK
  obtain ⟨rfl, hZ, hh⟩ := hP
  have q := body p e s m below meth c s₁ Bd.exec Bd.bytes hml0 hZ (findClass_of_methodNamed Bd.named) (name_of_methodNamed Bd.named Bd.method).1 Bd.returns Bd.notSynchronized (Stand.of_body Bd) (by rw [← hh, Bd.state]; rfl)
  rw [← ef] at q
  exact q
theorem own_ret (X : Stand p l e R s m args below meth c T locs cells slots) {F : JFrame} {v : Option Value} (hv : meth.sig.returnType = none → v = none) (hlk : meth.locks = false)
    (st : ∀ fs, (∀ (f : JFrame) (acts : List Action), f.method = m → f.locked = none → f.entered = [] → (doReturn e (T.setTop f) acts v).1 = T.setFrames fs) → Steps p.tables e below (T.setTop F) (T.setFrames fs))
    (eT : T.heap = h) (hQ : Q v h locs) {k n : Nat} (hk : cells ≤ k) (hn : slots ≤ n) : OwnOk p e below (own_K s Q k n) (T.setTop F) := by
  obtain ⟨fs, hr, hrun, hended, hW, hsame⟩ := X.leave hv hlk
  refine ⟨_, _, st fs hr, hrun, hended, v, locs, rfl, ?_, ⟨_, rfl⟩, hW, hsame.mono hk hn⟩
  show Q v T.heap locs
  rw [eT]; exact hQ
theorem own_retN (X : Stand p l e R s m args below meth c T locs cells slots) (hx : p.tables.exec = Jvm.exec) {t : FieldType} (hret : meth.sig.returnType = some t) (ht : t = .boolean ∨ t = .byte ∨ t = .char ∨ t = .short) (hlk : meth.locks = false)
    {pc : Nat} {Ls : Array Slot} {z z' : Int32} {rest : List Value} (hd : decode c.code pc = .ok (.ireturn, 1)) (hz : nar t z = z') (eT : T.heap = h) {k n : Nat} (hk : cells ≤ k) (hn : slots ≤ n) (hQ : Q (some (.int z')) h locs) :
    OwnOk p e below (own_K s Q k n) (T.setTop (mkF m pc Ls (.int z :: rest))) := by
  subst hz
  exact own_ret X (fun q => by rw [hret] at q; cases q) hlk (fun fs hr => retN X hx hret ht hd hr) eT hQ hk hn
theorem own_retI (X : Stand p l e R s m args below meth c T locs cells slots) (hx : p.tables.exec = Jvm.exec) (hret : meth.sig.returnType = some .int) (hlk : meth.locks = false)
    {pc : Nat} {Ls : Array Slot} {z : Int32} {rest : List Value} (hd : decode c.code pc = .ok (.ireturn, 1)) (eT : T.heap = h) {k n : Nat} (hk : cells ≤ k) (hn : slots ≤ n) (hQ : Q (some (.int z)) h locs) :
    OwnOk p e below (own_K s Q k n) (T.setTop (mkF m pc Ls (.int z :: rest))) :=
  own_ret X (fun q => by rw [hret] at q; cases q) hlk (fun fs hr => retOut X hx hret rfl (Or.inl ⟨rfl, Or.inl rfl, z, rfl⟩) hd hr) eT hQ hk hn
theorem own_retJ (X : Stand p l e R s m args below meth c T locs cells slots) (hx : p.tables.exec = Jvm.exec) (hret : meth.sig.returnType = some .long) (hlk : meth.locks = false)
    {pc : Nat} {Ls : Array Slot} {z : Int64} {rest : List Value} (hd : decode c.code pc = .ok (.lreturn, 1)) (eT : T.heap = h) {k n : Nat} (hk : cells ≤ k) (hn : slots ≤ n) (hQ : Q (some (.long z)) h locs) :
    OwnOk p e below (own_K s Q k n) (T.setTop (mkF m pc Ls (.long z :: rest))) :=
  own_ret X (fun q => by rw [hret] at q; cases q) hlk (fun fs hr => retOut X hx hret rfl (Or.inr (Or.inl ⟨rfl, rfl, z, rfl⟩)) hd hr) eT hQ hk hn
theorem own_retR (X : Stand p l e R s m args below meth c T locs cells slots) (hx : p.tables.exec = Jvm.exec) {t : FieldType} (hret : meth.sig.returnType = some t) (ht : t.isReference = true) (hlk : meth.locks = false)
    {pc : Nat} {Ls : Array Slot} {w : Value} {rest : List Value} (hw : w.isRef = true) (hd : decode c.code pc = .ok (.areturn, 1)) (eT : T.heap = h) {k n : Nat} (hk : cells ≤ k) (hn : slots ≤ n) (hQ : Q (some w) h locs) :
    OwnOk p e below (own_K s Q k n) (T.setTop (mkF m pc Ls (w :: rest))) :=
  own_ret X (fun q => by rw [hret] at q; cases q) hlk (fun fs hr => retOut X hx hret (by rcases ref_cases hw with rfl | ⟨a, rfl⟩ <;> cases t <;> rfl) (Or.inr (Or.inr (Or.inr (Or.inr ⟨rfl, ht, hw⟩)))) hd hr) eT hQ hk hn
theorem own_retV (X : Stand p l e R s m args below meth c T locs cells slots) (hx : p.tables.exec = Jvm.exec) (hret : meth.sig.returnType = none) (hlk : meth.locks = false)
    {pc : Nat} {Ls : Array Slot} (hd : decode c.code pc = .ok (.return_, 1)) (eT : T.heap = h) {k n : Nat} (hk : cells ≤ k) (hn : slots ≤ n) (hQ : Q none h locs) :
    OwnOk p e below (own_K s Q k n) (T.setTop (mkF m pc Ls [])) :=
  own_ret X (fun _ => rfl) hlk (fun fs hr => X.returnOut hx hret hd hr) eT hQ hk hn
/-- who pays a call: Back, in the form that backOf and the pasted String laws have -/
def own_Bk (l : Launch) (R : Room) (p : Program) (e : Env) (below : List Frame) (s : State) (args : Array Value) (y : MethodName) (len W : Nat) (as' : Array Value) (h : Heap) (kc ks : Nat) (Q : Option Value → Heap → List Loc → Prop) : Prop :=
  Back l R p e below s args y len W (fun A a => a = as' ∧ A.U.heap = h ∧ A.cells + kc ≤ R.cells ∧ A.slots + ks ≤ R.slots) (fun A _ v B => ∃ L, Q v B.U.heap L ∧ B.locs = A.locs ++ L ∧ B.cells = A.cells + kc ∧ B.slots = A.slots + ks)
theorem own_bk {y : MethodName} {bytes : ByteArray} {maxL : Nat} {ret : Option FieldType} {rm : Room} {len W : Nat} {as' : Array Value} (hM : own_Met l Z y bytes maxL ret rm as' h Q) (hZ : Z.Warmed39 s.vm) (w4 : (Cond.code y bytes maxL ret).before a0 Z = true) (w3 : (Cond.initialized y.cls).before a0 Z = true) (hf : rm.frames + 1 ≤ R.frames) (hl : W + (maxL + 11) + rm.locals ≤ R.locals) :
    own_Bk l R p e below s args y len W as' h rm.cells rm.slots Q := backOf (W := W) (hM []) hZ w4 w3 hf hl
/-- a static call -/
theorem own_callSB (X : Stand p l e R s m args below meth c T locs cells slots) (hx : p.tables.exec = Jvm.exec) (hZ : Z.Warmed39 s.vm) {own : String} {index : Nat} {y : MethodName} {bytes : ByteArray} {maxL : Nat} {ret : Option FieldType}
    (hown : s.vm.findClass own = some m.cls) (w1 : (Cond.methodLink own index y).before a0 Z = true) (w2 : (Cond.static y).before a0 Z = true) (w3 : (Cond.initialized y.cls).before a0 Z = true) (w4 : (Cond.code y bytes maxL ret).before a0 Z = true)
    (hy : y.cls ≠ "java/lang/invoke/MethodHandle" ∧ y.cls ≠ "java/lang/invoke/VarHandle") {W kc ks : Nat} {as' : Array Value} {Q' : Option Value → Heap → List Loc → Prop} (hB : own_Bk l R p e below s args y 3 W as' h kc ks Q') (eT : T.heap = h)
    {pc : Nat} {ls : Array Slot} {st argsL rest : List Value} (hsize : ls.size = c.maxLocals) (hlen : ∀ sig, parseMethodDescriptor y.desc = some sig → argsL.length = sig.parameters.length) (has : argsL.toArray = as') (hst : st = argsL.reverse ++ rest)
    (hW : (rest.map fun v => v.category).sum = W) (hd : decode c.code pc = .ok (.invokestatic index, 3)) (hc : cells + kc ≤ R.cells) (hs : slots + ks ≤ R.slots)
    (k : ∀ (T' : State) (v : Option Value) (L : List Loc), Stand p l e R s m args below meth c T' (locs ++ L) (cells + kc) (slots + ks) → Q' v T'.heap L → OwnOk p e below K (T'.setTop (mkF m (pc + 3) ls (v.toList ++ rest)))) :
    OwnOk p e below K (T.setTop (mkF m pc ls st)) := by
  obtain ⟨v, _, ⟨T2, L2, k2, n2⟩, -, X2, ⟨Lc, hQ, l2, y2, z2⟩, st2⟩ := Jvm.LawKit.callS X hx hown (mvT hZ w1) (mvT hZ w2) (mvT hZ w3) (mvT hZ w4) hy hB
    (g := mkF m pc ls st) rfl hsize (argsL := argsL) (rest := rest) hlen hst (by show 2 * 0 + _ ≤ _; rw [hW]; omega) hd (fun _ _ => ⟨has, eT, hc, hs⟩)
  dsimp only [Pt.U, Pt.locs, Pt.cells, Pt.slots] at X2 l2 y2 z2 st2 hQ
  subst l2 y2 z2
  exact own_up st2 (k _ _ _ X2 hQ)
theorem own_callS (X : Stand p l e R s m args below meth c T locs cells slots) (hx : p.tables.exec = Jvm.exec) (hZ : Z.Warmed39 s.vm) {own : String} {index : Nat} {y : MethodName} {bytes : ByteArray} {maxL : Nat} {ret : Option FieldType}
    (hown : s.vm.findClass own = some m.cls) (w1 : (Cond.methodLink own index y).before a0 Z = true) (w2 : (Cond.static y).before a0 Z = true) (w3 : (Cond.initialized y.cls).before a0 Z = true) (w4 : (Cond.code y bytes maxL ret).before a0 Z = true)
    (hy : y.cls ≠ "java/lang/invoke/MethodHandle" ∧ y.cls ≠ "java/lang/invoke/VarHandle") {rm : Room} {as' : Array Value} {Q' : Option Value → Heap → List Loc → Prop} (hM : own_Met l Z y bytes maxL ret rm as' h Q') (eT : T.heap = h)
    {pc W : Nat} {ls : Array Slot} {st argsL rest : List Value} (hsize : ls.size = c.maxLocals) (hlen : ∀ sig, parseMethodDescriptor y.desc = some sig → argsL.length = sig.parameters.length) (has : argsL.toArray = as') (hst : st = argsL.reverse ++ rest)
    (hW : (rest.map fun v => v.category).sum = W) (hd : decode c.code pc = .ok (.invokestatic index, 3)) (hf : rm.frames + 1 ≤ R.frames) (hl : W + (maxL + 11) + rm.locals ≤ R.locals) (hc : cells + rm.cells ≤ R.cells) (hs : slots + rm.slots ≤ R.slots)
    (k : ∀ (T' : State) (v : Option Value) (L : List Loc), Stand p l e R s m args below meth c T' (locs ++ L) (cells + rm.cells) (slots + rm.slots) → Q' v T'.heap L → OwnOk p e below K (T'.setTop (mkF m (pc + 3) ls (v.toList ++ rest)))) :
    OwnOk p e below K (T.setTop (mkF m pc ls st)) := own_callSB X hx hZ hown w1 w2 w3 w4 hy (own_bk hM hZ w4 w3 hf hl) eT hsize hlen has hst hW hd hc hs k
/-- a constructor -/
theorem own_callCB (X : Stand p l e R s m args below meth c T locs cells slots) (hx : p.tables.exec = Jvm.exec) (hZ : Z.Warmed39 s.vm) {own : String} {index : Nat} {y : MethodName} {bytes : ByteArray} {maxL : Nat} (hy1 : y.name = "<init>")
    (hown : s.vm.findClass own = some m.cls) (w1 : (Cond.methodLink own index y).before a0 Z = true) (w2 : (Cond.instanceMethod y).before a0 Z = true) (w4 : (Cond.code y bytes maxL none).before a0 Z = true)
    (hy : y.cls ≠ "java/lang/invoke/MethodHandle" ∧ y.cls ≠ "java/lang/invoke/VarHandle") {W kc ks : Nat} {as' : Array Value} {Q' : Option Value → Heap → List Loc → Prop} (hB : own_Bk l R p e below s args y 3 W as' h kc ks Q') (eT : T.heap = h)
    {pc : Nat} {ls : Array Slot} {a : Addr} {st argsL rest : List Value} (hsize : ls.size = c.maxLocals) (hlen : ∀ sig, parseMethodDescriptor y.desc = some sig → argsL.length = sig.parameters.length) (has : (Value.ref a :: argsL).toArray = as') (hst : st = argsL.reverse ++ .ref a :: rest)
    (hW : (rest.map fun v => v.category).sum = W) (hd : decode c.code pc = .ok (.invokespecial index, 3)) (hc : cells + kc ≤ R.cells) (hs : slots + ks ≤ R.slots)
    (k : ∀ (T' : State) (v : Option Value) (L : List Loc), Stand p l e R s m args below meth c T' (locs ++ L) (cells + kc) (slots + ks) → Q' v T'.heap L → OwnOk p e below K (T'.setTop (mkF m (pc + 3) ls (v.toList ++ rest)))) :
    OwnOk p e below K (T.setTop (mkF m pc ls st)) := by
  obtain ⟨v, _, ⟨T2, L2, k2, n2⟩, -, X2, ⟨Lc, hQ, l2, y2, z2⟩, st2⟩ := X.specialBack hx hy1 hown (mvT hZ w1) (mvT hZ w2) (mvT hZ w4) hy hB
    (g := mkF m pc ls st) rfl hsize (Steps.refl _) (a := a) (argsL := argsL) (rest := rest) hlen hst (by show 2 * 0 + _ ≤ _; rw [hW]; omega) hd (fun _ _ => ⟨has, eT, hc, hs⟩)
  dsimp only [Pt.U, Pt.locs, Pt.cells, Pt.slots] at X2 l2 y2 z2 st2 hQ
  subst l2 y2 z2
  exact own_to st2 (k _ _ _ X2 hQ)
theorem own_callC (X : Stand p l e R s m args below meth c T locs cells slots) (hx : p.tables.exec = Jvm.exec) (hZ : Z.Warmed39 s.vm) {own : String} {index : Nat} {y : MethodName} {bytes : ByteArray} {maxL : Nat} (hy1 : y.name = "<init>")
    (hown : s.vm.findClass own = some m.cls) (w1 : (Cond.methodLink own index y).before a0 Z = true) (w2 : (Cond.instanceMethod y).before a0 Z = true) (w3 : (Cond.initialized y.cls).before a0 Z = true) (w4 : (Cond.code y bytes maxL none).before a0 Z = true)
    (hy : y.cls ≠ "java/lang/invoke/MethodHandle" ∧ y.cls ≠ "java/lang/invoke/VarHandle") {rm : Room} {as' : Array Value} {Q' : Option Value → Heap → List Loc → Prop} (hM : own_Met l Z y bytes maxL none rm as' h Q') (eT : T.heap = h)
    {pc W : Nat} {ls : Array Slot} {a : Addr} {st argsL rest : List Value} (hsize : ls.size = c.maxLocals) (hlen : ∀ sig, parseMethodDescriptor y.desc = some sig → argsL.length = sig.parameters.length) (has : (Value.ref a :: argsL).toArray = as') (hst : st = argsL.reverse ++ .ref a :: rest)
    (hW : (rest.map fun v => v.category).sum = W) (hd : decode c.code pc = .ok (.invokespecial index, 3)) (hf : rm.frames + 1 ≤ R.frames) (hl : W + (maxL + 11) + rm.locals ≤ R.locals) (hc : cells + rm.cells ≤ R.cells) (hs : slots + rm.slots ≤ R.slots)
    (k : ∀ (T' : State) (v : Option Value) (L : List Loc), Stand p l e R s m args below meth c T' (locs ++ L) (cells + rm.cells) (slots + rm.slots) → Q' v T'.heap L → OwnOk p e below K (T'.setTop (mkF m (pc + 3) ls (v.toList ++ rest)))) :
    OwnOk p e below K (T.setTop (mkF m pc ls st)) := own_callCB X hx hZ hy1 hown w1 w2 w4 hy (own_bk hM hZ w4 w3 hf hl) eT hsize hlen has hst hW hd hc hs k
/-- an instance method: the body that the receiver's class selects -/
theorem own_callVB (X : Stand p l e R s m args below meth c T locs cells slots) (hx : p.tables.exec = Jvm.exec) (hZ : Z.Warmed39 s.vm) {own C : String} {index : Nat} {y z : MethodName}
    (hown : s.vm.findClass own = some m.cls) (w1 : (Cond.methodLink own index y).before a0 Z = true) (w2 : (Cond.declares y).before a0 Z = true) (hnf : NotFace s y) (w5 : (Cond.selects C y z).before a0 Z = true) (w6 : (Cond.instanceMethod z).before a0 Z = true)
    (hy : y.cls ≠ "java/lang/invoke/MethodHandle" ∧ y.cls ≠ "java/lang/invoke/VarHandle") {W kc ks : Nat} {as' : Array Value} {Q' : Option Value → Heap → List Loc → Prop} (hB : own_Bk l R p e below s args z 3 W as' h kc ks Q') (eT : T.heap = h)
    {pc : Nat} {ls : Array Slot} {a : Addr} {st argsL rest : List Value} (E : Exa Z h a C) (hsize : ls.size = c.maxLocals) (hlen : ∀ sig, parseMethodDescriptor y.desc = some sig → argsL.length = sig.parameters.length) (has : (Value.ref a :: argsL).toArray = as') (hst : st = argsL.reverse ++ .ref a :: rest)
    (hW : (rest.map fun v => v.category).sum = W) (hd : decode c.code pc = .ok (.invokevirtual index, 3)) (hc : cells + kc ≤ R.cells) (hs : slots + ks ≤ R.slots)
    (k : ∀ (T' : State) (v : Option Value) (L : List Loc), Stand p l e R s m args below meth c T' (locs ++ L) (cells + kc) (slots + ks) → Q' v T'.heap L → OwnOk p e below K (T'.setTop (mkF m (pc + 3) ls (v.toList ++ rest)))) :
    OwnOk p e below K (T.setTop (mkF m pc ls st)) := by
  obtain ⟨cq, kq, qa, qb, qc⟩ := isOf hZ eT E
  obtain ⟨v, _, ⟨T2, L2, k2, n2⟩, -, X2, ⟨Lc, hQ, l2, y2, z2⟩, st2⟩ := X.virtualBack hx (y := y) (z := z) hown (mvT hZ w1) (mvT hZ w2) hnf (mvT hZ w5) (mvT hZ w6) hy hB qa qc
    (g := mkF m pc ls st) rfl hsize (Steps.refl _) (argsL := argsL) (rest := rest) hlen hst (by show 2 * 0 + _ ≤ _; rw [hW]; omega) hd (fun _ _ => ⟨has, eT, hc, hs⟩)
  dsimp only [Pt.U, Pt.locs, Pt.cells, Pt.slots] at X2 l2 y2 z2 st2 hQ
  subst l2 y2 z2
  exact own_to st2 (k _ _ _ X2 hQ)
theorem own_callV (X : Stand p l e R s m args below meth c T locs cells slots) (hx : p.tables.exec = Jvm.exec) (hZ : Z.Warmed39 s.vm) {own C : String} {index : Nat} {y z : MethodName} {bytes : ByteArray} {maxL : Nat} {ret : Option FieldType}
    (hown : s.vm.findClass own = some m.cls) (w1 : (Cond.methodLink own index y).before a0 Z = true) (w2 : (Cond.declares y).before a0 Z = true) (hnf : NotFace s y) (w5 : (Cond.selects C y z).before a0 Z = true) (w6 : (Cond.instanceMethod z).before a0 Z = true) (w3 : (Cond.initialized z.cls).before a0 Z = true) (w4 : (Cond.code z bytes maxL ret).before a0 Z = true)
    (hy : y.cls ≠ "java/lang/invoke/MethodHandle" ∧ y.cls ≠ "java/lang/invoke/VarHandle") {rm : Room} {as' : Array Value} {Q' : Option Value → Heap → List Loc → Prop} (hM : own_Met l Z z bytes maxL ret rm as' h Q') (eT : T.heap = h)
    {pc W : Nat} {ls : Array Slot} {a : Addr} {st argsL rest : List Value} (E : Exa Z h a C) (hsize : ls.size = c.maxLocals) (hlen : ∀ sig, parseMethodDescriptor y.desc = some sig → argsL.length = sig.parameters.length) (has : (Value.ref a :: argsL).toArray = as') (hst : st = argsL.reverse ++ .ref a :: rest)
    (hW : (rest.map fun v => v.category).sum = W) (hd : decode c.code pc = .ok (.invokevirtual index, 3)) (hf : rm.frames + 1 ≤ R.frames) (hl : W + (maxL + 11) + rm.locals ≤ R.locals) (hc : cells + rm.cells ≤ R.cells) (hs : slots + rm.slots ≤ R.slots)
    (k : ∀ (T' : State) (v : Option Value) (L : List Loc), Stand p l e R s m args below meth c T' (locs ++ L) (cells + rm.cells) (slots + rm.slots) → Q' v T'.heap L → OwnOk p e below K (T'.setTop (mkF m (pc + 3) ls (v.toList ++ rest)))) :
    OwnOk p e below K (T.setTop (mkF m pc ls st)) := own_callVB X hx hZ hown w1 w2 hnf w5 w6 hy (own_bk hM hZ w4 w3 hf hl) eT E hsize hlen has hst hW hd hc hs k
end Own
end Jvm.RoadKit
@@BLOCK:NumsL.lean.txt@@
/- laws to paste: Road.backV (cut by pick.py; bodies as the Statement names them) -/
namespace Jvm.Pilot.@@N@@
namespace StrChars
open Jvm Sem ClassFile Op Lib Jvm.Stand Jvm.Free.XT Jvm.Free.ALB Jvm.Free.JM Jvm.Free
open Jvm.Lib.Cold (StaticIs)
/-- a char array whose places are chars -/
def Ch (a : Addr) (A : Cell) (U : State) : Prop := Arr .char a A U ∧ Typed .char A
theorem Ch.mv {a : Addr} {A : Cell} {U U' : State} (h : Ch a A U) (hal : U.vm.Alike U'.vm) (hh : U'.heap = U.heap) : Ch a A U' := ⟨h.1.mv hal hh, h.2⟩
theorem Ch.keep {a : Addr} {A : Cell} {U U' : State} (h : Ch a A U) (hal : U.vm.Alike U'.vm) (hk : U'.heap[a]? = some A) : Ch a A U' := ⟨h.1.keep hal hk, h.2⟩
/-- what place i of a char[]'s cell holds -/
def cv (A : Cell) (i : Nat) : Int32 := match A.slots[i]? with | some (.int x) => x | _ => 0
theorem Ch.get {a : Addr} {A : Cell} {U : State} (h : Ch a A U) {i : Nat} (hi : i < A.slots.size) : A.slots[i]? = some (.int (cv A i)) := by
  have e := Array.getElem?_eq_getElem hi
  have f := h.2 i _ e
  unfold cv; rw [e]
  generalize A.slots[i] = v at f
  cases v <;> simp [fits] at f ⊢
/-- the byte that i2b leaves of a char -/
def lo8 (x : Int32) : Int32 := x.toInt8.toInt32
theorem fits_lo8 (y : Int32) : fits .byte (.int (lo8 y)) = true := by
  have h1 := y.toInt8.le_toInt
  have h2 := y.toInt8.toInt_lt
  simp only [lo8, fits, Bool.and_eq_true, decide_eq_true_eq, Int32.le_iff_toInt_le, Int8.toInt_toInt32, show (-128 : Int32).toInt = -128 from by decide, show (127 : Int32).toInt = 127 from by decide]
  omega
/-- A' is A but that each place j of lo .. hi - 1 holds f j -/
def Laid (A A' : Cell) (lo hi : Nat) (f : Nat → Value) : Prop := A'.cls = A.cls ∧ A'.vm = A.vm ∧ A'.slots.size = A.slots.size ∧ ∀ i, A'.slots[i]? = if lo ≤ i ∧ i < hi then some (f i) else A.slots[i]?
theorem Laid.zero (A : Cell) (lo : Nat) (f : Nat → Value) : Laid A A lo (lo + 0) f := ⟨rfl, rfl, rfl, fun i => by rw [if_neg (by omega)]⟩
theorem Laid.step {A Ak : Cell} {lo k : Nat} {f : Nat → Value} {v : Value} (h : Laid A Ak lo k f) (hlo : lo ≤ k) (hk : k < Ak.slots.size) (hv : v = f k) : Laid A (Ak.setSlot k v) lo (k + 1) f := by
  refine ⟨h.1, h.2.1, by simpa [Cell.setSlot] using h.2.2.1, fun i => ?_⟩
  by_cases e : k = i
  · subst e; rw [Cell.slots_setSlot_self v hk, if_pos (by omega), hv]
  · rw [Cell.slots_setSlot_ne v e, h.2.2.2 i]
    by_cases q : lo ≤ i ∧ i < k
    · rw [if_pos q, if_pos (by omega)]
    · rw [if_neg q, if_neg (by omega)]
def U16 : String := "java/lang/StringUTF16"
namespace Cmp5
def yN : MethodName := ⟨"java/lang/StringUTF16", "compress", "([CI[BII)I"⟩
abbrev yB : ByteArray := jdk_52_method_21_code
theorem d0 : decode yB 0 = .ok (.iconst 0, 1) := by decide +kernel
theorem d1 : decode yB 1 = .ok (.istore 5, 2) := by decide +kernel
theorem d3 : decode yB 3 = .ok (.iload 5, 2) := by decide +kernel
theorem d5 : decode yB 5 = .ok (.iload 4, 2) := by decide +kernel
theorem d7 : decode yB 7 = .ok (.if_icmp (.ge) 37, 3) := by decide +kernel
theorem d10 : decode yB 10 = .ok (.aload_n 0, 1) := by decide +kernel
theorem d11 : decode yB 11 = .ok (.iload_n 1, 1) := by decide +kernel
theorem d12 : decode yB 12 = .ok (.caload, 1) := by decide +kernel
theorem d13 : decode yB 13 = .ok (.istore 6, 2) := by decide +kernel
theorem d15 : decode yB 15 = .ok (.iload 6, 2) := by decide +kernel
theorem d17 : decode yB 17 = .ok (.sipush 255, 3) := by decide +kernel
theorem d20 : decode yB 20 = .ok (.if_icmp (.le) 6, 3) := by decide +kernel
theorem d26 : decode yB 26 = .ok (.aload_n 2, 1) := by decide +kernel
theorem d27 : decode yB 27 = .ok (.iload_n 3, 1) := by decide +kernel
theorem d28 : decode yB 28 = .ok (.iload 6, 2) := by decide +kernel
theorem d30 : decode yB 30 = .ok (.i2b, 1) := by decide +kernel
theorem d31 : decode yB 31 = .ok (.bastore, 1) := by decide +kernel
theorem d32 : decode yB 32 = .ok (.iinc 1 1, 3) := by decide +kernel
theorem d35 : decode yB 35 = .ok (.iinc 3 1, 3) := by decide +kernel
theorem d38 : decode yB 38 = .ok (.iinc 5 1, 3) := by decide +kernel
theorem d41 : decode yB 41 = .ok (.goto (-38), 3) := by decide +kernel
theorem d44 : decode yB 44 = .ok (.iload 4, 2) := by decide +kernel
theorem d46 : decode yB 46 = .ok (.ireturn, 1) := by decide +kernel
def site : List Cond := []
def tab : Cond := tabOf yN yB 7 (some .int) site
def P (b : Addr) (A : Cell) (d : Addr) (B : Cell) (o q len : Nat) (args : Array Value) (s : State) : Prop := args = #[.ref b, .int (Int32.ofNat o), .ref d, .int (Int32.ofNat q), .int (Int32.ofNat len)] ∧ Ch b A s ∧ Arr .byte d B s ∧ b ≠ d ∧ o + len ≤ A.slots.size ∧ q + len ≤ B.slots.size ∧ ∀ i, i < len → ¬ 255 < cv A (o + i)
def E (b : Addr) (A : Cell) (d : Addr) (B : Cell) (o q len : Nat) (r : Option Value) (s u : State) : Prop := r = some (.int (Int32.ofNat len)) ∧ ∃ B', Put d B' s u ∧ Laid B B' q (q + len) (fun j => Value.int (lo8 (cv A (o + (j - q)))))
/-- no char of the range above 255: len; the places written hold each char's low byte -/
theorem law (l : Launch) (b : Addr) (A : Cell) (d : Addr) (B : Cell) (o q len : Nat) : Law l yN 5 5 0 0 yB 7 (some .int) site (P b A d B o q len) (E b A d B o q len) (copyLocs d q len) 0 0 := by
  refine Law.of_walk (plainFor_of_name (by decide +kernel)) (by decide +kernel) (by decide +kernel) (by decide) (fun _ _ h => by rw [h.1]; rfl) (fun _ U U' hal hh h => ⟨h.1, h.2.1.mv hal hh, h.2.2.1.mv hal hh, h.2.2.2⟩) (fun r U U' V V' h1 hal h2 h => ⟨h.1, h.2.elim fun B' q => ⟨B', q.1.mv h1 h2, q.2⟩⟩) ?_
  intro p e s m args below meth c s₁ X0 hexec hbytes hml hret hlk hnm hown hh0 W hP
  obtain ⟨rfl, hA, hB, hne, l1, l2, hp⟩ := hP
  have c1 : Steps p.tables e below (s₁.setTop (entryFrame m #[.ref b, .int (Int32.ofNat o), .ref d, .int (Int32.ofNat q), .int (Int32.ofNat len)] 7)) (s₁.setTop (mkF m 0 #[.val (.ref b), .val (.int (Int32.ofNat o)), .val (.ref d), .val (.int (Int32.ofNat q)), .val (.int (Int32.ofNat len)), .unset, .unset] [])) := entry rfl
  have hA0 := hA.1.mv X0.warmed.alike hh0
  have hB0 := hB.mv X0.warmed.alike hh0
  have a31 := hA.1.2.2.2
  have c2 : Steps p.tables e below (s₁.setTop (entryFrame m #[.ref b, .int (Int32.ofNat o), .ref d, .int (Int32.ofNat q), .int (Int32.ofNat len)] 7)) (s₁.setTop (mkF m 3 #[.val (.ref b), .val (.int (Int32.ofNat o)), .val (.ref d), .val (.int (Int32.ofNat q)), .val (.int (Int32.ofNat len)), .val (.int 0), .unset] [])) := c1.trans (by
    refine iconstV X0.here hexec rfl 0 (hb hbytes d0) (by decide) ?_
    refine XS.istore X0.here hexec rfl (hb hbytes d1) rfl rfl ?_
    exact Steps.refl _)
  have loop : ∀ (r i : Nat), i + r = len → ∀ (z : Slot), (z = .unset ∨ ∃ w, z = .val w ∧ w.category = 1) → ∀ (Tl : State) (Bk : Cell), Stand p l e { frames := 0, locals := 0, cells := 0, slots := 0 } s m #[.ref b, .int (Int32.ofNat o), .ref d, .int (Int32.ofNat q), .int (Int32.ofNat len)] below meth c Tl ([] ++ copyLocs d q i) 0 0 → Put d Bk s₁ Tl → Laid B Bk q (q + i) (fun j => Value.int (lo8 (cv A (o + (j - q))))) →
      Steps p.tables e below (s₁.setTop (entryFrame m #[.ref b, .int (Int32.ofNat o), .ref d, .int (Int32.ofNat q), .int (Int32.ofNat len)] 7)) (Tl.setTop (mkF m 3 #[.val (.ref b), .val (.int (Int32.ofNat (o + i))), .val (.ref d), .val (.int (Int32.ofNat (q + i))), .val (.int (Int32.ofNat len)), .val (.int (Int32.ofNat i)), z] [])) → ∃ (T' : State) (B' : Cell) (z' : Slot), Stand p l e { frames := 0, locals := 0, cells := 0, slots := 0 } s m #[.ref b, .int (Int32.ofNat o), .ref d, .int (Int32.ofNat q), .int (Int32.ofNat len)] below meth c T' ([] ++ copyLocs d q len) 0 0 ∧ Put d B' s₁ T' ∧ Laid B B' q (q + len) (fun j => Value.int (lo8 (cv A (o + (j - q))))) ∧
      Steps p.tables e below (s₁.setTop (entryFrame m #[.ref b, .int (Int32.ofNat o), .ref d, .int (Int32.ofNat q), .int (Int32.ofNat len)] 7)) (T'.setTop (mkF m 3 #[.val (.ref b), .val (.int (Int32.ofNat (o + len))), .val (.ref d), .val (.int (Int32.ofNat (q + len))), .val (.int (Int32.ofNat len)), .val (.int (Int32.ofNat len)), z'] [])) := by
    intro r
    induction r with
    | zero =>
      intro i hi z hz Tl Bk Xl pl fl cl
      have hil : i = len := by omega
      rw [hil] at Xl fl cl
      exact ⟨Tl, Bk, z, Xl, pl, fl, cl⟩
    | succ r ih =>
      intro i hi z hz Tl Bk Xl pl fl cl
      have all := X0.warmed.alike.symm.trans Xl.warmed.alike
      have hAl := hA0.keep all (pl.other hne hA0.1)
      have hBk := hB0.like all pl.1 fl.1 fl.2.1 fl.2.2.1
      have hlt : q + i < Bk.slots.size := by rw [fl.2.2.1]; omega
      have c3 : Steps p.tables e below (s₁.setTop (entryFrame m #[.ref b, .int (Int32.ofNat o), .ref d, .int (Int32.ofNat q), .int (Int32.ofNat len)] 7)) (Tl.setTop (mkF m 12 #[.val (.ref b), .val (.int (Int32.ofNat (o + i))), .val (.ref d), .val (.int (Int32.ofNat (q + i))), .val (.int (Int32.ofNat len)), .val (.int (Int32.ofNat i)), z] [.int (Int32.ofNat (o + i)), .ref b])) := cl.trans (by
        refine XS.iload Xl.here hexec rfl (hb hbytes d3) rfl ?_
        refine XS.iload Xl.here hexec rfl (hb hbytes d5) rfl ?_
        refine XS.icmpNo Xl.here hexec rfl (hb hbytes d7) rfl (ii_ge_f (lt32 (by omega) (by omega))) ?_
        refine XS.aloadN Xl.here hexec rfl (hb hbytes d10) rfl rfl ?_
        refine XS.iloadN Xl.here hexec rfl (hb hbytes d11) rfl ?_
        exact Steps.refl _)
      have c4 : Steps p.tables e below (s₁.setTop (entryFrame m #[.ref b, .int (Int32.ofNat o), .ref d, .int (Int32.ofNat q), .int (Int32.ofNat len)] 7)) (Tl.setTop (mkF m 13 #[.val (.ref b), .val (.int (Int32.ofNat (o + i))), .val (.ref d), .val (.int (Int32.ofNat (q + i))), .val (.int (Int32.ofNat len)), .val (.int (Int32.ofNat i)), z] [.int (cv A (o + i))])) := c3.trans (by
        refine Xl.aget hexec hAl rfl (hA.get (i := o + i) (by omega)) rfl rfl (hb hbytes d12) ?_
        exact Steps.refl _)
      have c5 : Steps p.tables e below (s₁.setTop (entryFrame m #[.ref b, .int (Int32.ofNat o), .ref d, .int (Int32.ofNat q), .int (Int32.ofNat len)] 7)) (Tl.setTop (mkF m 15 #[.val (.ref b), .val (.int (Int32.ofNat (o + i))), .val (.ref d), .val (.int (Int32.ofNat (q + i))), .val (.int (Int32.ofNat len)), .val (.int (Int32.ofNat i)), .val (.int (cv A (o + i)))] [])) := c4.trans (by
        refine XS.istoreS Xl.here hexec rfl (hb hbytes d13) rfl rfl hz ?_
        exact Steps.refl _)
      have c6 : Steps p.tables e below (s₁.setTop (entryFrame m #[.ref b, .int (Int32.ofNat o), .ref d, .int (Int32.ofNat q), .int (Int32.ofNat len)] 7)) (Tl.setTop (mkF m 31 #[.val (.ref b), .val (.int (Int32.ofNat (o + i))), .val (.ref d), .val (.int (Int32.ofNat (q + i))), .val (.int (Int32.ofNat len)), .val (.int (Int32.ofNat i)), .val (.int (cv A (o + i)))] [.int (lo8 (cv A (o + i))), .int (Int32.ofNat (q + i)), .ref d])) := c5.trans (by
        refine XS.iload Xl.here hexec rfl (hb hbytes d15) rfl ?_
        refine sipushV Xl.here hexec rfl 255 (hb hbytes d17) (by decide) ?_
        refine XS.icmpYes Xl.here hexec rfl (pc0 := 20) rfl (hb hbytes d20) rfl (ii_le_t (hp i (by omega))) (by decide) rfl ?_
        refine XS.aloadN Xl.here hexec rfl (hb hbytes d26) rfl rfl ?_
        refine XS.iloadN Xl.here hexec rfl (hb hbytes d27) rfl ?_
        refine XS.iload Xl.here hexec rfl (hb hbytes d28) rfl ?_
        refine i2b Xl.here hexec rfl (hb hbytes d30) rfl ?_
        exact Steps.refl _)
      obtain ⟨T7, X7, p7, st7⟩ := Xl.aput hexec hBk rfl hlt rfl (fits_lo8 (cv A (o + i))) (g := (mkF m 31 #[.val (.ref b), .val (.int (Int32.ofNat (o + i))), .val (.ref d), .val (.int (Int32.ofNat (q + i))), .val (.int (Int32.ofNat len)), .val (.int (Int32.ofNat i)), .val (.int (cv A (o + i)))] [.int (lo8 (cv A (o + i))), .int (Int32.ofNat (q + i)), .ref d])) rfl (rest := []) rfl (hb hbytes d31)
      have c8 : Steps p.tables e below (s₁.setTop (entryFrame m #[.ref b, .int (Int32.ofNat o), .ref d, .int (Int32.ofNat q), .int (Int32.ofNat len)] 7)) (T7.setTop (mkF m 32 #[.val (.ref b), .val (.int (Int32.ofNat (o + i))), .val (.ref d), .val (.int (Int32.ofNat (q + i))), .val (.int (Int32.ofNat len)), .val (.int (Int32.ofNat i)), .val (.int (cv A (o + i)))] [])) := c6.trans (st7 _ (Steps.refl _))
      have c9 : Steps p.tables e below (s₁.setTop (entryFrame m #[.ref b, .int (Int32.ofNat o), .ref d, .int (Int32.ofNat q), .int (Int32.ofNat len)] 7)) (T7.setTop (mkF m 3 #[.val (.ref b), .val (.int (Int32.ofNat (o + i) + 1)), .val (.ref d), .val (.int (Int32.ofNat (q + i) + 1)), .val (.int (Int32.ofNat len)), .val (.int (Int32.ofNat i + 1)), .val (.int (cv A (o + i)))] [])) := c8.trans (by
        refine iincV X7.here hexec rfl 1 (hb hbytes d32) (by decide) rfl rfl ?_
        refine iincV X7.here hexec rfl 1 (hb hbytes d35) (by decide) rfl rfl ?_
        refine iincV X7.here hexec rfl 1 (hb hbytes d38) (by decide) rfl rfl ?_
        refine XS.goto X7.here hexec rfl (pc0 := 41) rfl (hb hbytes d41) (by decide) rfl ?_
        exact Steps.refl _)
      have c10 : Steps p.tables e below (s₁.setTop (entryFrame m #[.ref b, .int (Int32.ofNat o), .ref d, .int (Int32.ofNat q), .int (Int32.ofNat len)] 7)) (T7.setTop (mkF m 3 #[.val (.ref b), .val (.int (Int32.ofNat (o + (i + 1)))), .val (.ref d), .val (.int (Int32.ofNat (q + (i + 1)))), .val (.int (Int32.ofNat len)), .val (.int (Int32.ofNat (i + 1))), .val (.int (cv A (o + i)))] [])) := by
        have := c9
        rw [succ32, succ32, succ32] at this
        exact this
      exact ih (i + 1) (by omega) _ (Or.inr ⟨_, rfl, rfl⟩) T7 _ (by rw [copyLocs_step, ← List.append_assoc]; exact X7) (pl.trans p7) (fl.step (by omega) hlt (by simp)) c10
  obtain ⟨T9, B9, z9, X9, p9, f9, g9⟩ := loop len 0 (by omega) .unset (Or.inl rfl) s₁ B (by simpa [copyLocs] using X0) ⟨hB0.1, fun _ _ => rfl, rfl⟩ (Laid.zero _ _ _) c2
  have c11 : Steps p.tables e below (s₁.setTop (entryFrame m #[.ref b, .int (Int32.ofNat o), .ref d, .int (Int32.ofNat q), .int (Int32.ofNat len)] 7)) (T9.setTop (mkF m 46 #[.val (.ref b), .val (.int (Int32.ofNat (o + len))), .val (.ref d), .val (.int (Int32.ofNat (q + len))), .val (.int (Int32.ofNat len)), .val (.int (Int32.ofNat len)), z9] [.int (Int32.ofNat len)])) := g9.trans (by
    refine XS.iload X9.here hexec rfl (hb hbytes d3) rfl ?_
    refine XS.iload X9.here hexec rfl (hb hbytes d5) rfl ?_
    refine XS.icmpYes X9.here hexec rfl (pc0 := 7) rfl (hb hbytes d7) rfl (ii_ge_t (nlt32 (by omega) (Nat.le_refl _))) (by decide) rfl ?_
    refine XS.iload X9.here hexec rfl (hb hbytes d44) rfl ?_
    exact Steps.refl _)
  exact ⟨T9, some (.int (Int32.ofNat len)), _, _, _, X9, by simp, rfl, rfl, (fun h => by cases h), ⟨rfl, B9, p9.from hh0, f9⟩, fun fs hl => c11.trans (X9.ireturnOut hexec hret rfl (Or.inl rfl) (hb hbytes d46) hl)⟩
end Cmp5
namespace Cmp3
def yN : MethodName := ⟨"java/lang/StringUTF16", "compress", "([CII)[B"⟩
abbrev yB : ByteArray := jdk_52_method_16_code
theorem d0 : decode yB 0 = .ok (.iload_n 2, 1) := by decide +kernel
theorem d1 : decode yB 1 = .ok (.newarray .byte, 2) := by decide +kernel
theorem d3 : decode yB 3 = .ok (.astore_n 3, 1) := by decide +kernel
theorem d4 : decode yB 4 = .ok (.aload_n 0, 1) := by decide +kernel
theorem d5 : decode yB 5 = .ok (.iload_n 1, 1) := by decide +kernel
theorem d6 : decode yB 6 = .ok (.aload_n 3, 1) := by decide +kernel
theorem d7 : decode yB 7 = .ok (.iconst 0, 1) := by decide +kernel
theorem d8 : decode yB 8 = .ok (.iload_n 2, 1) := by decide +kernel
theorem d9 : decode yB 9 = .ok (.invokestatic 115, 3) := by decide +kernel
theorem d12 : decode yB 12 = .ok (.istore 4, 2) := by decide +kernel
theorem d14 : decode yB 14 = .ok (.iload 4, 2) := by decide +kernel
theorem d16 : decode yB 16 = .ok (.iload_n 2, 1) := by decide +kernel
theorem d17 : decode yB 17 = .ok (.if_icmp (.eq) 40, 3) := by decide +kernel
theorem d57 : decode yB 57 = .ok (.aload_n 3, 1) := by decide +kernel
theorem d58 : decode yB 58 = .ok (.areturn, 1) := by decide +kernel
def site : List Cond := [.arrayClass .byte, Cmp5.tab] ++ staticW U16 115 Cmp5.yN
def tab : Cond := tabOf yN yB 6 (some (.array .byte)) site
def P (b : Addr) (A : Cell) (o len : Nat) (args : Array Value) (s : State) : Prop := args = #[.ref b, .int (Int32.ofNat o), .int (Int32.ofNat len)] ∧ Ch b A s ∧ o + len ≤ A.slots.size ∧ len ≤ 536870912 ∧ ∀ i, i < len → ¬ 255 < cv A (o + i)
def E (b : Addr) (A : Cell) (o len : Nat) (r : Option Value) (s u : State) : Prop := NewArr .byte "[B" len (fun j => .int (lo8 (cv A (o + j)))) r s u ∧ u.heap.size = s.heap.size + 1
/-- no char of the range above 255: a new byte[] of their low bytes -/
theorem law (l : Launch) (b : Addr) (A : Cell) (o len : Nat) : Law l yN 3 3 1 18 yB 6 (some (.array .byte)) site (P b A o len) (E b A o len) [] 1 len := by
  refine Law.of_walk (plainFor_of_name (by decide +kernel)) (by decide +kernel) (by decide +kernel) (by decide) (fun _ _ h => by rw [h.1]; rfl) (fun _ U U' hal hh h => ⟨h.1, h.2.1.mv hal hh, h.2.2⟩) (fun r U U' V V' h1 hal h2 h => ⟨NewArr.mv r U U' V V' h1 hal h2 h.1, by rw [h1, h2]; exact h.2⟩) ?_
  intro p e s m args below meth c s₁ X0 hexec hbytes hml hret hlk hnm hown hh0 W hP
  obtain ⟨rfl, hA, l1, l2, hp⟩ := hP
  have a31 := hA.1.2.2.2
  have c1 : Steps p.tables e below (s₁.setTop (entryFrame m #[.ref b, .int (Int32.ofNat o), .int (Int32.ofNat len)] 6)) (s₁.setTop (mkF m 0 #[.val (.ref b), .val (.int (Int32.ofNat o)), .val (.int (Int32.ofNat len)), .unset, .unset, .unset] [])) := entry rfl
  have c2 : Steps p.tables e below (s₁.setTop (entryFrame m #[.ref b, .int (Int32.ofNat o), .int (Int32.ofNat len)] 6)) (s₁.setTop (mkF m 1 #[.val (.ref b), .val (.int (Int32.ofNat o)), .val (.int (Int32.ofNat len)), .unset, .unset, .unset] [.int (Int32.ofNat len)])) := c1.trans (by
    refine XS.iloadN X0.here hexec rfl (hb hbytes d0) rfl ?_
    exact Steps.refl _)
  obtain ⟨T3, B3, X3, ba3, bs3, bv3, bh3, bf3, st3⟩ := X0.anew hexec (atype := .byte) (wk W (.arrayClass .byte)) rfl (by show len * 1 ≤ _; omega) (by omega) (g := (mkF m 1 #[.val (.ref b), .val (.int (Int32.ofNat o)), .val (.int (Int32.ofNat len)), .unset, .unset, .unset] [.int (Int32.ofNat len)])) rfl (hb hbytes d1) (rest := []) rfl (Nat.le_refl _) (by show 0 + len ≤ len; omega)
  rw [hh0] at ba3 st3
  have kp3 : XT.Kept s T3 := (XT.Kept.of_eq hh0).push bh3
  have hA3 := hA.keep X3.warmed.alike (kp3 _ _ hA.1.1)
  have hne : b ≠ s.heap.size := hA.1.ne
  have c4 : Steps p.tables e below (s₁.setTop (entryFrame m #[.ref b, .int (Int32.ofNat o), .int (Int32.ofNat len)] 6)) (T3.setTop (mkF m 3 #[.val (.ref b), .val (.int (Int32.ofNat o)), .val (.int (Int32.ofNat len)), .unset, .unset, .unset] [.ref s.heap.size])) := c2.trans (st3 _ (Steps.refl _))
  have c5 : Steps p.tables e below (s₁.setTop (entryFrame m #[.ref b, .int (Int32.ofNat o), .int (Int32.ofNat len)] 6)) (T3.setTop (mkF m 9 #[.val (.ref b), .val (.int (Int32.ofNat o)), .val (.int (Int32.ofNat len)), .val (.ref s.heap.size), .unset, .unset] [.int (Int32.ofNat len), .int 0, .ref s.heap.size, .int (Int32.ofNat o), .ref b])) := c4.trans (by
    refine XS.astoreN X3.here hexec rfl (hb hbytes d3) rfl rfl rfl ?_
    refine XS.aloadN X3.here hexec rfl (hb hbytes d4) rfl rfl ?_
    refine XS.iloadN X3.here hexec rfl (hb hbytes d5) rfl ?_
    refine XS.aloadN X3.here hexec rfl (hb hbytes d6) rfl rfl ?_
    refine iconstV X3.here hexec rfl 0 (hb hbytes d7) (by decide) ?_
    refine XS.iloadN X3.here hexec rfl (hb hbytes d8) rfl ?_
    exact Steps.refl _)
  obtain ⟨v6, T6, X6, E6, g6⟩ := X3.callS hexec (Cmp5.law l b A s.heap.size B3 o 0 len) hown (wks W (staticW U16 115 Cmp5.yN)) (wk W Cmp5.tab) (W := 0) (Nat.le_of_ble_eq_true rfl) (Nat.le_of_ble_eq_true rfl) (Nat.le_refl _) (by show 0 + len + 0 ≤ len; omega) (g := (mkF m 9 #[.val (.ref b), .val (.int (Int32.ofNat o)), .val (.int (Int32.ofNat len)), .val (.ref s.heap.size), .unset, .unset] [.int (Int32.ofNat len), .int (Int32.ofNat 0), .ref s.heap.size, .int (Int32.ofNat o), .ref b])) rfl (by rw [hml]; rfl) c5 (argsL := [.ref b, .int (Int32.ofNat o), .ref s.heap.size, .int (Int32.ofNat 0), .int (Int32.ofNat len)]) (rest := []) rfl rfl (by show 2 * 0 + 0 ≤ _; decide) (hb hbytes d9) (⟨rfl, hA3, ba3, hne, l1, by rw [bs3]; simp, hp⟩)
  obtain ⟨rfl, B6, p6, f6⟩ := E6
  have c7 : Steps p.tables e below (s₁.setTop (entryFrame m #[.ref b, .int (Int32.ofNat o), .int (Int32.ofNat len)] 6)) (T6.setTop (mkF m 12 #[.val (.ref b), .val (.int (Int32.ofNat o)), .val (.int (Int32.ofNat len)), .val (.ref s.heap.size), .unset, .unset] [.int (Int32.ofNat len)])) := g6
  have c8 : Steps p.tables e below (s₁.setTop (entryFrame m #[.ref b, .int (Int32.ofNat o), .int (Int32.ofNat len)] 6)) (T6.setTop (mkF m 58 #[.val (.ref b), .val (.int (Int32.ofNat o)), .val (.int (Int32.ofNat len)), .val (.ref s.heap.size), .val (.int (Int32.ofNat len)), .unset] [.ref s.heap.size])) := c7.trans (by
    refine XS.istore X6.here hexec rfl (hb hbytes d12) rfl rfl ?_
    refine XS.iload X6.here hexec rfl (hb hbytes d14) rfl ?_
    refine XS.iloadN X6.here hexec rfl (hb hbytes d16) rfl ?_
    refine XS.icmpYes X6.here hexec rfl (pc0 := 17) rfl (hb hbytes d17) rfl (ii_eq_t rfl) (by decide) rfl ?_
    refine XS.aloadN X6.here hexec rfl (hb hbytes d57) rfl rfl ?_
    exact Steps.refl _)
  have X8 := X6.wide (L' := []) (cells' := 1) (slots' := len) (fun x hx hlt => by
    simp only [List.nil_append, copyLocs, List.mem_map, List.mem_range] at hx
    obtain ⟨i, -, rfl⟩ := hx
    exact absurd hlt (Nat.lt_irrefl _)) (Nat.le_refl _) (by omega)
  exact ⟨T6, some (.ref s.heap.size), _, _, _, X8, rfl, rfl, rfl, (fun h => by cases h), ⟨⟨rfl, B6, ba3.like (X3.warmed.alike.symm.trans X6.warmed.alike) p6.1 f6.1 f6.2.1 f6.2.2.1, f6.2.1.trans bv3, by rw [X6.warmed.alike.findClass, f6.1]; exact bf3, by rw [f6.2.2.1, bs3]; simp, fun j hj => by rw [f6.2.2.2 j, if_pos (by omega)]; rfl, kp3.put p6 (Nat.le_refl _)⟩, by rw [p6.2.2, bh3, hh0]; simp⟩, fun fs hl => c8.trans (X8.areturnOut hexec rfl hret rfl (hb hbytes d58) hl)⟩
end Cmp3
namespace CodL
def yN : MethodName := ⟨"java/lang/StringUTF16", "coderFromArrayLen", "([BI)B"⟩
abbrev yB : ByteArray := jdk_52_method_15_code
theorem d0 : decode yB 0 = .ok (.iload_n 1, 1) := by decide +kernel
theorem d1 : decode yB 1 = .ok (.aload_n 0, 1) := by decide +kernel
theorem d2 : decode yB 2 = .ok (.arraylength, 1) := by decide +kernel
theorem d3 : decode yB 3 = .ok (.isub, 1) := by decide +kernel
theorem d4 : decode yB 4 = .ok (.bipush 31, 2) := by decide +kernel
theorem d6 : decode yB 6 = .ok (.iushr, 1) := by decide +kernel
theorem d7 : decode yB 7 = .ok (.i2b, 1) := by decide +kernel
theorem d8 : decode yB 8 = .ok (.ireturn, 1) := by decide +kernel
def site : List Cond := []
def tab : Cond := tabOf yN yB 2 (some .byte) site
def P (d : Addr) (B : Cell) (args : Array Value) (s : State) : Prop := args = #[.ref d, .int (Int32.ofNat B.slots.size)] ∧ Arr .byte d B s
def E (r : Option Value) (s u : State) : Prop := XT.PureE (some (.int 0)) r s u
/-- an array as long as the number of chars: LATIN1 -/
theorem law (l : Launch) (d : Addr) (B : Cell) : Law l yN 2 2 0 0 yB 2 (some .byte) site (P d B) E [] 0 0 := by
  refine Law.of_walk (plainFor_of_name (by decide +kernel)) (by decide +kernel) (by decide +kernel) (by decide) (fun _ _ h => by rw [h.1]; rfl) (fun _ U U' hal hh h => ⟨h.1, h.2.mv hal hh⟩) (fun r U U' V V' h1 hal h2 h => XT.PureE.mv r U U' V V' h1 hal h2 h) ?_
  intro p e s m args below meth c s₁ X0 hexec hbytes hml hret hlk hnm hown hh0 W hP
  obtain ⟨rfl, hB⟩ := hP
  have hB0 := hB.mv X0.warmed.alike hh0
  have c1 : Steps p.tables e below (s₁.setTop (entryFrame m #[.ref d, .int (Int32.ofNat B.slots.size)] 2)) (s₁.setTop (mkF m 0 #[.val (.ref d), .val (.int (Int32.ofNat B.slots.size))] [])) := entry rfl
  have c2 : Steps p.tables e below (s₁.setTop (entryFrame m #[.ref d, .int (Int32.ofNat B.slots.size)] 2)) (s₁.setTop (mkF m 2 #[.val (.ref d), .val (.int (Int32.ofNat B.slots.size))] [.ref d, .int (Int32.ofNat B.slots.size)])) := c1.trans (by
    refine XS.iloadN X0.here hexec rfl (hb hbytes d0) rfl ?_
    refine XS.aloadN X0.here hexec rfl (hb hbytes d1) rfl rfl ?_
    exact Steps.refl _)
  have c3 : Steps p.tables e below (s₁.setTop (entryFrame m #[.ref d, .int (Int32.ofNat B.slots.size)] 2)) (s₁.setTop (mkF m 8 #[.val (.ref d), .val (.int (Int32.ofNat B.slots.size))] [.int (lo8 (ushr (Int32.ofNat B.slots.size - Int32.ofNat B.slots.size) 31))])) := c2.trans (by
    refine X0.alen hexec hB0 rfl rfl (hb hbytes d2) ?_
    refine XS.isub X0.here hexec rfl (hb hbytes d3) rfl ?_
    refine bipushV X0.here hexec rfl 31 (hb hbytes d4) (by decide) ?_
    refine iushr X0.here hexec rfl (hb hbytes d6) rfl ?_
    refine i2b X0.here hexec rfl (hb hbytes d7) rfl ?_
    exact Steps.refl _)
  have e0 : lo8 (ushr (Int32.ofNat B.slots.size - Int32.ofNat B.slots.size) 31) = 0 := by rw [Int32.sub_self]; decide
  rw [e0] at c3
  exact ⟨s₁, some (.int 0), _, _, _, X0, rfl, rfl, rfl, (fun h => by cases h), ⟨rfl, hh0⟩, fun fs hl => c3.trans (X0.ireturnOut hexec hret rfl (Or.inr (Or.inr (Or.inl rfl))) (hb hbytes d8) hl)⟩
end CodL
/-- the String at a is Latin-1 over a new byte[] (the heap's one new cell): the low bytes of the len chars of A from o on; every cell but a is kept -/
def Got (a : Addr) (D : Cell) (fV fC : Field) (A : Cell) (o len : Nat) (r : Option Value) (s u : State) : Prop := r = none ∧ ∃ D' V : Cell, Blank "java/lang/String" a D' u ∧ Same D D' [fV.slot, fC.slot] ∧ D'.slots[fV.slot]? = some (.ref s.heap.size) ∧ D'.slots[fC.slot]? = some (.int 0) ∧ Arr .byte s.heap.size V u ∧ V.vm = .none ∧ u.vm.findClass "[B" = some V.cls ∧ V.slots.size = len ∧ (∀ j, j < len → V.slots[j]? = some (.int (lo8 (cv A (o + j))))) ∧ (∀ (y : Addr) (c : Cell), y ≠ a → s.heap[y]? = some c → u.heap[y]? = some c) ∧ u.heap.size = s.heap.size + 1
theorem Got.mv {a : Addr} {D A : Cell} {fV fC : Field} {o len : Nat} : ∀ r (U U' V V' : State), U'.heap = U.heap → V.vm.Alike V'.vm → V'.heap = V.heap → Got a D fV fC A o len r U V → Got a D fV fC A o len r U' V' :=
  fun r U U' V V' h1 hal h2 ⟨e0, D', X, a1, a2, a3, a4, a5, a6, a7, a8, a9, a10, a11⟩ => ⟨e0, D', X, a1.mv hal h2, a2, by rw [h1]; exact a3, a4, by rw [h1]; exact a5.mv hal h2, a6, by rw [hal.findClass]; exact a7, a8, a9, by rw [h1, h2]; exact a10, by rw [h1, h2]; exact a11⟩
namespace New4
def yN : MethodName := ⟨"java/lang/String", "<init>", "([CIILjava/lang/Void;)V"⟩
abbrev yB : ByteArray := jdk_42_method_149_code
theorem d0 : decode yB 0 = .ok (.aload_n 0, 1) := by decide +kernel
theorem d1 : decode yB 1 = .ok (.invokespecial 1, 3) := by decide +kernel
theorem d4 : decode yB 4 = .ok (.iload_n 3, 1) := by decide +kernel
theorem d5 : decode yB 5 = .ok (.ifCond (.ne) 22, 3) := by decide +kernel
theorem d27 : decode yB 27 = .ok (.getstatic 38, 3) := by decide +kernel
theorem d30 : decode yB 30 = .ok (.ifCond (.eq) 28, 3) := by decide +kernel
theorem d33 : decode yB 33 = .ok (.aload_n 1, 1) := by decide +kernel
theorem d34 : decode yB 34 = .ok (.iload_n 2, 1) := by decide +kernel
theorem d35 : decode yB 35 = .ok (.iload_n 3, 1) := by decide +kernel
theorem d36 : decode yB 36 = .ok (.invokestatic 177, 3) := by decide +kernel
theorem d39 : decode yB 39 = .ok (.astore 5, 2) := by decide +kernel
theorem d41 : decode yB 41 = .ok (.aload_n 0, 1) := by decide +kernel
theorem d42 : decode yB 42 = .ok (.aload 5, 2) := by decide +kernel
theorem d44 : decode yB 44 = .ok (.iload_n 3, 1) := by decide +kernel
theorem d45 : decode yB 45 = .ok (.invokestatic 47, 3) := by decide +kernel
theorem d48 : decode yB 48 = .ok (.putfield 15, 3) := by decide +kernel
theorem d51 : decode yB 51 = .ok (.aload_n 0, 1) := by decide +kernel
theorem d52 : decode yB 52 = .ok (.aload 5, 2) := by decide +kernel
theorem d54 : decode yB 54 = .ok (.putfield 9, 3) := by decide +kernel
theorem d57 : decode yB 57 = .ok (.return_, 1) := by decide +kernel
def site : List Cond := [.fieldLink "java/lang/String" 38 "java/lang/String" "COMPACT_STRINGS" "Z", Cmp3.tab, CodL.tab, .laysFinal "java/lang/String" "java/lang/String" "value" "[B", .fieldLink "java/lang/String" 9 "java/lang/String" "value" "[B", .laysFinal "java/lang/String" "java/lang/String" "coder" "B", .fieldLink "java/lang/String" 15 "java/lang/String" "coder" "B"] ++ objW "java/lang/String" 1 ++ staticW "java/lang/String" 177 Cmp3.yN ++ staticW "java/lang/String" 47 CodL.yN
def tab : Cond := tabOf yN yB 6 none site
def P (a : Addr) (D : Cell) (fV fC : Field) (b : Addr) (A : Cell) (z : Int32) (o len : Nat) (args : Array Value) (s : State) : Prop := args = #[.ref a, .ref b, .int (Int32.ofNat o), .int (Int32.ofNat len), .null] ∧ Blank "java/lang/String" a D s ∧ Found "java/lang/String" "value" "[B" fV s ∧ Found "java/lang/String" "coder" "B" fC s ∧ Ch b A s ∧ StaticIs s "java/lang/String" "COMPACT_STRINGS" "Z" (.int z) ∧ ¬ z = 0 ∧ 0 < len ∧ o + len ≤ A.slots.size ∧ len ≤ 536870912 ∧ ∀ i, i < len → ¬ 255 < cv A (o + i)
def E (a : Addr) (D : Cell) (fV fC : Field) (A : Cell) (o len : Nat) (r : Option Value) (s u : State) : Prop := Got a D fV fC A o len r s u
/-- len > 0, no char of the range above 255: a Latin-1 String of their low bytes -/
theorem law (l : Launch) (a : Addr) (D : Cell) (fV fC : Field) (b : Addr) (A : Cell) (z : Int32) (o len : Nat) : Law l yN 5 4 2 35 yB 6 none site (P a D fV fC b A z o len) (E a D fV fC A o len) [⟨a, fC.slot⟩, ⟨a, fV.slot⟩] 1 len := by
  refine Law.of_walk (plainFor_of_name (by decide +kernel)) (by decide +kernel) (by decide +kernel) (by decide) (fun _ _ h => by rw [h.1]; rfl) (fun _ U U' hal hh h => ⟨h.1, h.2.1.mv hal hh, h.2.2.1.al hal, h.2.2.2.1.al hal, h.2.2.2.2.1.mv hal hh, h.2.2.2.2.2.1.there hal hh, h.2.2.2.2.2.2⟩) (fun r U U' V V' h1 hal h2 h => Got.mv r U U' V V' h1 hal h2 h) ?_
  intro p e s m args below meth c s₁ X0 hexec hbytes hml hret hlk hnm hown hh0 W hP
  obtain ⟨rfl, hB, f1, f2, hA, s1, hz, l0, l1, l2, hp⟩ := hP
  have a31 := hA.1.2.2.2
  have c1 : Steps p.tables e below (s₁.setTop (entryFrame m #[.ref a, .ref b, .int (Int32.ofNat o), .int (Int32.ofNat len), .null] 6)) (s₁.setTop (mkF m 0 #[.val (.ref a), .val (.ref b), .val (.int (Int32.ofNat o)), .val (.int (Int32.ofNat len)), .val .null, .unset] [])) := entry rfl
  have c2 : Steps p.tables e below (s₁.setTop (entryFrame m #[.ref a, .ref b, .int (Int32.ofNat o), .int (Int32.ofNat len), .null] 6)) (s₁.setTop (mkF m 1 #[.val (.ref a), .val (.ref b), .val (.int (Int32.ofNat o)), .val (.int (Int32.ofNat len)), .val .null, .unset] [.ref a])) := c1.trans (by
    refine XS.aloadN X0.here hexec rfl (hb hbytes d0) rfl rfl ?_
    exact Steps.refl _)
  obtain ⟨T3, X3, q3, st3⟩ := X0.oinit hexec hown (wks W (objW "java/lang/String" 1)) (g := (mkF m 1 #[.val (.ref a), .val (.ref b), .val (.int (Int32.ofNat o)), .val (.int (Int32.ofNat len)), .val .null, .unset] [.ref a])) rfl (by rw [hml]; rfl) (rest := []) rfl (hb hbytes d1) (W := 0) (by show 2 * 0 + 0 ≤ _; decide) (Nat.le_of_ble_eq_true rfl) (Nat.le_of_ble_eq_true rfl)
  have hh3 := q3.trans hh0
  have c4 : Steps p.tables e below (s₁.setTop (entryFrame m #[.ref a, .ref b, .int (Int32.ofNat o), .int (Int32.ofNat len), .null] 6)) (T3.setTop (mkF m 27 #[.val (.ref a), .val (.ref b), .val (.int (Int32.ofNat o)), .val (.int (Int32.ofNat len)), .val .null, .unset] [])) := (c2.trans (st3 _ (Steps.refl _))).trans (by
    refine XS.iloadN X3.here hexec rfl (hb hbytes d4) rfl ?_
    refine XS.ifYes X3.here hexec rfl (pc0 := 5) rfl (hb hbytes d5) rfl (i0_ne_t (nz32 (by omega) l0)) (by decide) rfl ?_
    exact Steps.refl _)
  obtain ⟨T5, X5, q5, st5⟩ := X3.sget hexec hown (wk W (.fieldLink "java/lang/String" 38 "java/lang/String" "COMPACT_STRINGS" "Z")) s1 (fun _ _ h => by rw [hh3]; exact h) (g := (mkF m 27 #[.val (.ref a), .val (.ref b), .val (.int (Int32.ofNat o)), .val (.int (Int32.ofNat len)), .val .null, .unset] [])) rfl (hb hbytes d27)
  have hh5 := q5.trans hh3
  have c6 : Steps p.tables e below (s₁.setTop (entryFrame m #[.ref a, .ref b, .int (Int32.ofNat o), .int (Int32.ofNat len), .null] 6)) (T5.setTop (mkF m 30 #[.val (.ref a), .val (.ref b), .val (.int (Int32.ofNat o)), .val (.int (Int32.ofNat len)), .val .null, .unset] [.int z])) := c4.trans (st5 _ (Steps.refl _))
  have c7 : Steps p.tables e below (s₁.setTop (entryFrame m #[.ref a, .ref b, .int (Int32.ofNat o), .int (Int32.ofNat len), .null] 6)) (T5.setTop (mkF m 36 #[.val (.ref a), .val (.ref b), .val (.int (Int32.ofNat o)), .val (.int (Int32.ofNat len)), .val .null, .unset] [.int (Int32.ofNat len), .int (Int32.ofNat o), .ref b])) := c6.trans (by
    refine XS.ifNo X5.here hexec rfl (hb hbytes d30) rfl (i0_eq_f hz) ?_
    refine XS.aloadN X5.here hexec rfl (hb hbytes d33) rfl rfl ?_
    refine XS.iloadN X5.here hexec rfl (hb hbytes d34) rfl ?_
    refine XS.iloadN X5.here hexec rfl (hb hbytes d35) rfl ?_
    exact Steps.refl _)
  obtain ⟨v8, T8, X8, E8, g8⟩ := X5.callS hexec (Cmp3.law l b A o len) hown (wks W (staticW "java/lang/String" 177 Cmp3.yN)) (wk W Cmp3.tab) (W := 0) (Nat.le_of_ble_eq_true rfl) (Nat.le_of_ble_eq_true rfl) (Nat.le_refl _) (by show 0 + len ≤ len; omega) (g := (mkF m 36 #[.val (.ref a), .val (.ref b), .val (.int (Int32.ofNat o)), .val (.int (Int32.ofNat len)), .val .null, .unset] [.int (Int32.ofNat len), .int (Int32.ofNat o), .ref b])) rfl (by rw [hml]; rfl) c7 (argsL := [.ref b, .int (Int32.ofNat o), .int (Int32.ofNat len)]) (rest := []) rfl rfl (by show 2 * 0 + 0 ≤ _; decide) (hb hbytes d36) (⟨rfl, hA.mv X5.warmed.alike hh5, l1, l2, hp⟩)
  obtain ⟨e8, z8⟩ := E8
  obtain ⟨rfl, N, n1, n2, n3, n4, n5, n6⟩ := NewArr.mv _ T5 s _ _ hh5.symm (Vm.Alike.refl _) rfl e8
  rw [hh5] at z8
  have hB1 := hB.keep X8.warmed.alike (n6 _ _ hB.1)
  have hne : s.heap.size ≠ a := (Nat.ne_of_lt (Array.getElem?_eq_some_iff.mp hB.1).1).symm
  have c9 : Steps p.tables e below (s₁.setTop (entryFrame m #[.ref a, .ref b, .int (Int32.ofNat o), .int (Int32.ofNat len), .null] 6)) (T8.setTop (mkF m 39 #[.val (.ref a), .val (.ref b), .val (.int (Int32.ofNat o)), .val (.int (Int32.ofNat len)), .val .null, .unset] [.ref s.heap.size])) := g8
  have c10 : Steps p.tables e below (s₁.setTop (entryFrame m #[.ref a, .ref b, .int (Int32.ofNat o), .int (Int32.ofNat len), .null] 6)) (T8.setTop (mkF m 45 #[.val (.ref a), .val (.ref b), .val (.int (Int32.ofNat o)), .val (.int (Int32.ofNat len)), .val .null, .val (.ref s.heap.size)] [.int (Int32.ofNat N.slots.size), .ref s.heap.size, .ref a])) := by
    have hc : Steps p.tables e below (s₁.setTop (entryFrame m #[.ref a, .ref b, .int (Int32.ofNat o), .int (Int32.ofNat len), .null] 6)) (T8.setTop (mkF m 45 #[.val (.ref a), .val (.ref b), .val (.int (Int32.ofNat o)), .val (.int (Int32.ofNat len)), .val .null, .val (.ref s.heap.size)] [.int (Int32.ofNat len), .ref s.heap.size, .ref a])) := c9.trans (by
      refine XS.astore X8.here hexec rfl (hb hbytes d39) rfl rfl rfl ?_
      refine XS.aloadN X8.here hexec rfl (hb hbytes d41) rfl rfl ?_
      refine XS.aload X8.here hexec rfl (hb hbytes d42) rfl rfl ?_
      refine XS.iloadN X8.here hexec rfl (hb hbytes d44) rfl ?_
      exact Steps.refl _)
    rw [n4]; exact hc
  obtain ⟨v11, T11, X11, E11, g11⟩ := X8.callS hexec (CodL.law l s.heap.size N) hown (wks W (staticW "java/lang/String" 47 CodL.yN)) (wk W CodL.tab) (W := 1) (Nat.le_of_ble_eq_true rfl) (Nat.le_of_ble_eq_true rfl) (Nat.le_refl _) (by show 0 + len + 0 ≤ len; omega) (g := (mkF m 45 #[.val (.ref a), .val (.ref b), .val (.int (Int32.ofNat o)), .val (.int (Int32.ofNat len)), .val .null, .val (.ref s.heap.size)] [.int (Int32.ofNat N.slots.size), .ref s.heap.size, .ref a])) rfl (by rw [hml]; rfl) c10 (argsL := [.ref s.heap.size, .int (Int32.ofNat N.slots.size)]) (rest := [.ref a]) rfl rfl (by show 2 * 0 + (1 + 0) ≤ _; decide) (hb hbytes d45) (⟨rfl, n1⟩)
  obtain ⟨rfl, q11⟩ := E11
  have hB11 := hB1.mv (X8.warmed.alike.symm.trans X11.warmed.alike) q11
  have c12 : Steps p.tables e below (s₁.setTop (entryFrame m #[.ref a, .ref b, .int (Int32.ofNat o), .int (Int32.ofNat len), .null] 6)) (T11.setTop (mkF m 48 #[.val (.ref a), .val (.ref b), .val (.int (Int32.ofNat o)), .val (.int (Int32.ofNat len)), .val .null, .val (.ref s.heap.size)] [.int 0, .ref a])) := g11
  obtain ⟨T13, X13, p13, bl13, sl13, st13⟩ := X11.finit hexec hown (wk W (.fieldLink "java/lang/String" 15 "java/lang/String" "coder" "B")) (Or.inr ⟨_, (wk W (.laysFinal "java/lang/String" "java/lang/String" "coder" "B"))⟩) (Or.inl ⟨rfl, hnm⟩) f2 (Or.inl rfl) hB11 (t := .byte) (by decide +kernel) rfl (g := (mkF m 48 #[.val (.ref a), .val (.ref b), .val (.int (Int32.ofNat o)), .val (.int (Int32.ofNat len)), .val .null, .val (.ref s.heap.size)] [.int 0, .ref a])) rfl (rest := []) rfl (hb hbytes d48)
  have c14 : Steps p.tables e below (s₁.setTop (entryFrame m #[.ref a, .ref b, .int (Int32.ofNat o), .int (Int32.ofNat len), .null] 6)) (T13.setTop (mkF m 54 #[.val (.ref a), .val (.ref b), .val (.int (Int32.ofNat o)), .val (.int (Int32.ofNat len)), .val .null, .val (.ref s.heap.size)] [.ref s.heap.size, .ref a])) := (c12.trans (st13 _ (Steps.refl _))).trans (by
    refine XS.aloadN X13.here hexec rfl (hb hbytes d51) rfl rfl ?_
    refine XS.aload X13.here hexec rfl (hb hbytes d52) rfl rfl ?_
    exact Steps.refl _)
  obtain ⟨T15, X15, p15, bl15, sl15, st15⟩ := X13.finit hexec hown (wk W (.fieldLink "java/lang/String" 9 "java/lang/String" "value" "[B")) (Or.inr ⟨_, (wk W (.laysFinal "java/lang/String" "java/lang/String" "value" "[B"))⟩) (Or.inl ⟨rfl, hnm⟩) f1 (Or.inl rfl) bl13 (t := (.array .byte)) (by decide +kernel) rfl (g := (mkF m 54 #[.val (.ref a), .val (.ref b), .val (.int (Int32.ofNat o)), .val (.int (Int32.ofNat len)), .val .null, .val (.ref s.heap.size)] [.ref s.heap.size, .ref a])) rfl (rest := []) rfl (hb hbytes d54)
  have c16 : Steps p.tables e below (s₁.setTop (entryFrame m #[.ref a, .ref b, .int (Int32.ofNat o), .int (Int32.ofNat len), .null] 6)) (T15.setTop (mkF m 57 #[.val (.ref a), .val (.ref b), .val (.int (Int32.ofNat o)), .val (.int (Int32.ofNat len)), .val .null, .val (.ref s.heap.size)] [])) := c14.trans (st15 _ (Steps.refl _))
  have ap := apart (Or.inr ⟨_, (wk W (.laysFinal "java/lang/String" "java/lang/String" "value" "[B"))⟩) (Or.inr ⟨_, (wk W (.laysFinal "java/lang/String" "java/lang/String" "coder" "B"))⟩) f1 f2 (t₁ := .array .byte) (t₂ := .byte) (by decide +kernel) (by decide +kernel) (by decide)
  have al := X8.warmed.alike.symm.trans X15.warmed.alike
  have n7 : T11.heap[s.heap.size]? = some N := by rw [q11]; exact n1.1
  exact ⟨T15, none, _, _, _, X15, by simp, rfl, by omega, (fun _ => rfl), ⟨rfl, _, N, bl15, ((Same.refl D _).set _ (by simp)).set _ (by simp), sl15, (Cell.slots_setSlot_ne _ ap).trans sl13, n1.keep al (p15.other hne (p13.other hne n7)), n2, by rw [al.findClass]; exact n3, n4, n5, fun y c h1 h2 => p15.other h1 (p13.other h1 (by rw [q11]; exact n6 y c h2)), by rw [p15.2.2, p13.2.2, q11]; exact z8⟩, fun fs hl => c16.trans (X15.returnOut hexec hret (hb hbytes d57) hl)⟩
end New4
namespace New1
def yN : MethodName := ⟨"java/lang/String", "<init>", "([C)V"⟩
abbrev yB : ByteArray := jdk_42_method_3_code
theorem d0 : decode yB 0 = .ok (.aload_n 0, 1) := by decide +kernel
theorem d1 : decode yB 1 = .ok (.aload_n 1, 1) := by decide +kernel
theorem d2 : decode yB 2 = .ok (.iconst 0, 1) := by decide +kernel
theorem d3 : decode yB 3 = .ok (.aload_n 1, 1) := by decide +kernel
theorem d4 : decode yB 4 = .ok (.arraylength, 1) := by decide +kernel
theorem d5 : decode yB 5 = .ok (.aconst_null, 1) := by decide +kernel
theorem d6 : decode yB 6 = .ok (.invokespecial 27, 3) := by decide +kernel
theorem d9 : decode yB 9 = .ok (.return_, 1) := by decide +kernel
def site : List Cond := [New4.tab] ++ initW "java/lang/String" 27 New4.yN
def tab : Cond := tabOf yN yB 2 none site
def P (a : Addr) (D : Cell) (fV fC : Field) (b : Addr) (A : Cell) (z : Int32) (args : Array Value) (s : State) : Prop := args = #[.ref a, .ref b] ∧ Blank "java/lang/String" a D s ∧ Found "java/lang/String" "value" "[B" fV s ∧ Found "java/lang/String" "coder" "B" fC s ∧ Ch b A s ∧ StaticIs s "java/lang/String" "COMPACT_STRINGS" "Z" (.int z) ∧ ¬ z = 0 ∧ 0 < A.slots.size ∧ A.slots.size ≤ 536870912 ∧ ∀ i, i < A.slots.size → ¬ 255 < cv A i
def E (a : Addr) (D : Cell) (fV fC : Field) (A : Cell) (r : Option Value) (s u : State) : Prop := Got a D fV fC A 0 A.slots.size r s u
/-- new String(chars), not empty, no char above 255: a Latin-1 String of their low bytes -/
theorem law (l : Launch) (a : Addr) (D : Cell) (fV fC : Field) (b : Addr) (A : Cell) (z : Int32) : Law l yN 2 1 3 52 yB 2 none site (P a D fV fC b A z) (E a D fV fC A) [⟨a, fC.slot⟩, ⟨a, fV.slot⟩] 1 A.slots.size := by
  refine Law.of_walk (plainFor_of_name (by decide +kernel)) (by decide +kernel) (by decide +kernel) (by decide) (fun _ _ h => by rw [h.1]; rfl) (fun _ U U' hal hh h => ⟨h.1, h.2.1.mv hal hh, h.2.2.1.al hal, h.2.2.2.1.al hal, h.2.2.2.2.1.mv hal hh, h.2.2.2.2.2.1.there hal hh, h.2.2.2.2.2.2⟩) (fun r U U' V V' h1 hal h2 h => Got.mv r U U' V V' h1 hal h2 h) ?_
  intro p e s m args below meth c s₁ X0 hexec hbytes hml hret hlk hnm hown hh0 W hP
  obtain ⟨rfl, hB, f1, f2, hA, s1, hz, l0, l2, hp⟩ := hP
  have c1 : Steps p.tables e below (s₁.setTop (entryFrame m #[.ref a, .ref b] 2)) (s₁.setTop (mkF m 0 #[.val (.ref a), .val (.ref b)] [])) := entry rfl
  have c2 : Steps p.tables e below (s₁.setTop (entryFrame m #[.ref a, .ref b] 2)) (s₁.setTop (mkF m 6 #[.val (.ref a), .val (.ref b)] [.null, .int (Int32.ofNat A.slots.size), .int 0, .ref b, .ref a])) := c1.trans (by
    refine XS.aloadN X0.here hexec rfl (hb hbytes d0) rfl rfl ?_
    refine XS.aloadN X0.here hexec rfl (hb hbytes d1) rfl rfl ?_
    refine iconstV X0.here hexec rfl 0 (hb hbytes d2) (by decide) ?_
    refine XS.aloadN X0.here hexec rfl (hb hbytes d3) rfl rfl ?_
    refine X0.alen hexec (hA.1.mv X0.warmed.alike hh0) rfl rfl (hb hbytes d4) ?_
    refine XS.aconstNull X0.here hexec rfl (hb hbytes d5) ?_
    exact Steps.refl _)
  obtain ⟨v3, T3, X3, E3, g3⟩ := X0.callN hexec (New4.law l a D fV fC b A z 0 A.slots.size) rfl hown (wks W (initW "java/lang/String" 27 New4.yN)) (W New4.tab (by simp only [site, List.mem_cons, List.mem_append, true_or, or_true])) (W := 0) (Nat.le_of_ble_eq_true rfl) (Nat.le_of_ble_eq_true rfl) (Nat.le_refl _) (by show 0 + A.slots.size ≤ A.slots.size; omega) (g := (mkF m 6 #[.val (.ref a), .val (.ref b)] [.null, .int (Int32.ofNat A.slots.size), .int (Int32.ofNat 0), .ref b, .ref a])) rfl (by rw [hml]; rfl) c2 (argsL := [.ref b, .int (Int32.ofNat 0), .int (Int32.ofNat A.slots.size), .null]) (rest := []) rfl rfl (by show 2 * 0 + 0 ≤ _; decide) (hb hbytes d6) (⟨rfl, hB.mv X0.warmed.alike hh0, f1.al X0.warmed.alike, f2.al X0.warmed.alike, hA.mv X0.warmed.alike hh0, s1.there X0.warmed.alike hh0, hz, l0, by omega, l2, fun i hi => by rw [Nat.zero_add]; exact hp i hi⟩)
  have e0 := Got.mv _ s₁ s _ _ hh0.symm (Vm.Alike.refl _) rfl E3
  obtain rfl := e0.1
  have c4 : Steps p.tables e below (s₁.setTop (entryFrame m #[.ref a, .ref b] 2)) (T3.setTop (mkF m 9 #[.val (.ref a), .val (.ref b)] [])) := g3
  exact ⟨T3, none, _, _, _, X3, by simp, rfl, by omega, (fun _ => rfl), e0, fun fs hl => c4.trans (X3.returnOut hexec hret (hb hbytes d9) hl)⟩
theorem pays {l : Launch} {R : Room} {p : Program} {e : Env} {below : List Frame} {s : State} {sargs : Array Value} {len W : Nat} (a : Addr) (D : Cell) (fV fC : Field) (b : Addr) (A : Cell) (z : Int32) (htab : tab.before sargs s = true) (hfr : 4 ≤ R.frames) (hlo : W + 65 ≤ R.locals) :
    Back l R p e below s sargs yN len W (fun A₁ a₁ => A₁.cells + 1 ≤ R.cells ∧ A₁.slots + A.slots.size ≤ R.slots ∧ P a D fV fC b A z a₁ A₁.U) (fun A₁ _ v₁ B₁ => E a D fV fC A v₁ A₁.U B₁.U ∧ B₁.locs = A₁.locs ++ [⟨a, fC.slot⟩, ⟨a, fV.slot⟩] ∧ B₁.cells = A₁.cells + 1 ∧ B₁.slots = A₁.slots + A.slots.size) :=
  (law l a D fV fC b A z).pays htab hfr (by omega)
end New1
end StrChars
namespace StrChars.Road
open Jvm Sem ClassFile Op Lib Jvm.Stand Jvm.Free Jvm.Free.XT
open Jvm.Lib.Cold (StaticIs)
abbrev ST : String := "java/lang/String"
/-- every table word that New1's law asks, flat -/
abbrev words : List Jvm.Cond := [.code New1.yN New1.yB 2 none, .initialized ST, .methodLink ST 27 New4.yN, .instanceMethod New4.yN,
  .code New4.yN New4.yB 6 none, .fieldLink ST 38 ST "COMPACT_STRINGS" "Z", .laysFinal ST ST "value" "[B", .fieldLink ST 9 ST "value" "[B", .laysFinal ST ST "coder" "B", .fieldLink ST 15 ST "coder" "B",
  .methodLink ST 1 Lib.objectInit, .instanceMethod Lib.objectInit, .code Lib.objectInit ⟨#[0xb1]⟩ 1 none, .methodLink ST 177 Cmp3.yN, .static Cmp3.yN, .methodLink ST 47 CodL.yN, .static CodL.yN,
  .code Cmp3.yN Cmp3.yB 6 (some (.array .byte)), .initialized U16, .arrayClass .byte, .methodLink U16 115 Cmp5.yN, .static Cmp5.yN, .code Cmp5.yN Cmp5.yB 7 (some .int), .code CodL.yN CodL.yB 2 (some .byte)]
theorem tab_of {a : Array Value} {s : State} (h : ∀ w ∈ words, w.before a s = true) : New1.tab.before a s = true := by
  have h5 : Cmp5.tab.before a s = true := unparts (wk h (.code Cmp5.yN Cmp5.yB 7 (some .int))) (wks h (.initialized Cmp5.yN.cls :: Cmp5.site))
  have hc : CodL.tab.before a s = true := unparts (wk h (.code CodL.yN CodL.yB 2 (some .byte))) (wks h (.initialized CodL.yN.cls :: CodL.site))
  have q5 : ∀ w ∈ Cmp5.tab :: words, w.before a s = true := fun w hw => (List.mem_cons.mp hw).elim (fun e => e ▸ h5) (h w)
  have h3 : Cmp3.tab.before a s = true := unparts (wk q5 (.code Cmp3.yN Cmp3.yB 6 (some (.array .byte)))) (wks q5 (.initialized Cmp3.yN.cls :: Cmp3.site))
  have q3 : ∀ w ∈ Cmp3.tab :: CodL.tab :: words, w.before a s = true := fun w hw => (List.mem_cons.mp hw).elim (fun e => e ▸ h3) fun hw => (List.mem_cons.mp hw).elim (fun e => e ▸ hc) (h w)
  have h4 : New4.tab.before a s = true := unparts (wk q3 (.code New4.yN New4.yB 6 none)) (wks q3 (.initialized New4.yN.cls :: New4.site))
  have q4 : ∀ w ∈ New4.tab :: words, w.before a s = true := fun w hw => (List.mem_cons.mp hw).elim (fun e => e ▸ h4) (h w)
  exact unparts (wk q4 (.code New1.yN New1.yB 2 none)) (wks q4 (.initialized New1.yN.cls :: New1.site))
/-- the words ride from the start Z to the walk's own state -/
theorem moved {Z s : State} {a0 args : Array Value} (hZ : Z.Warmed39 s.vm) (hw : ∀ d ∈ words, d.before a0 Z = true) : ∀ d ∈ words, d.before args s = true := fun d hd => by
  have q := hw d hd
  have t : ∀ d ∈ words, d = .arrayClass .byte ∨ (d.onTables && d.keepsFace) = true := by decide +kernel
  rcases t d hd with rfl | t
  · exact RoadKit.mvA hZ q
  · exact RoadKit.mv hZ q t
/-- WHAT COMES BACK, over the tables of the start Z: h the heap at the call, h' behind it -/
def Q (Z : State) (x : Addr) (A : Cell) (h : Heap) (v : Option Value) (h' : Heap) (L : List Loc) : Prop := v = none ∧ (∀ y ∈ L, y.base = x) ∧ RoadKit.Keep h h' [x] ∧ h'.size = h.size + 1 ∧ RoadKit.Exa Z h' x ST ∧ RoadKit.Fld Z h' x ST "value" "[B" (.ref h.size) ∧ RoadKit.Fld Z h' x ST "coder" "B" (.int 0) ∧
  (∃ V : Cell, RoadKit.Arr Z h' h.size V .byte ∧ V.vm = .none ∧ Z.vm.findClass "[B" = some V.cls ∧ V.slots.size = A.slots.size ∧ ∀ j, j < A.slots.size → V.slots[j]? = some (.int (lo8 (cv A j)))) ∧
  ∀ (O n d : String) (w : Value), RoadKit.Fld Z h x O n d w → RoadKit.slotOf Z O n d ≠ RoadKit.slotOf Z ST "value" "[B" → RoadKit.slotOf Z O n d ≠ RoadKit.slotOf Z ST "coder" "B" → RoadKit.Fld Z h' x O n d w
/-- **new String(chars) AT A CALL, IN THE ROAD'S FORM**: for specialBack behind newO: x the fresh String, b the char[] with the cell A -/
theorem back {p : Program} {l : Launch} {e : Env} {R : Room} {s : State} {args : Array Value} {below : List Frame} {len W : Nat} {Z : State} {a0 : Array Value} {h : Heap} (hZ : Z.Warmed39 s.vm) (hw : ∀ d ∈ words, d.before a0 Z = true) {kI : Nat} (wi : (Jvm.Cond.instantiable ST kI).before a0 Z = true)
    {x b : Addr} {A : Cell} {z : Int32} {v0 c0 : Value} (E : RoadKit.Exa Z h x ST) (V : RoadKit.Fld Z h x ST "value" "[B" v0) (C : RoadKit.Fld Z h x ST "coder" "B" c0) (K : RoadKit.Arr Z h b A .char) (hty : Typed .char A) (S : RoadKit.Sta Z h ST "COMPACT_STRINGS" "Z" (.int z)) (hz : ¬ z = 0)
    (l0 : 0 < A.slots.size) (l2 : A.slots.size ≤ 536870912) (hp : ∀ i, i < A.slots.size → ¬ 255 < cv A i) (hfr : 4 ≤ R.frames) (hlo : W + 65 ≤ R.locals) :
    Back l R p e below s args New1.yN len W (fun P a => a = #[.ref x, .ref b] ∧ P.U.heap = h ∧ P.cells + 1 ≤ R.cells ∧ P.slots + A.slots.size ≤ R.slots)
      (fun P _ v B => ∃ L, Q Z x A h v B.U.heap L ∧ B.locs = P.locs ++ L ∧ B.cells = P.cells + 1 ∧ B.slots = P.slots + A.slots.size) := by
  intro m meth c P g ig mk a X hg hsize hdg hW hn hp'
  obtain ⟨rfl, rfl, r1, r2⟩ := hp'
  have al : Z.vm.Alike P.U.vm := hZ.alike.trans X.warmed.alike
  obtain ⟨D, cfV, kV, iV, fV, hD, gV, stV, knV, obV, asV, slV⟩ := id V
  obtain ⟨D', cfC, kC, iC, fC, hD', gC, stC, -, -, asC, slC⟩ := id C
  cases hD.symm.trans hD'
  obtain ⟨D2, kD, e1, e2, e3, e4, e5⟩ := id E
  cases hD.symm.trans e1
  obtain ⟨c2, k2, i1, i2, i3, -⟩ := Cond.instantiable_spec wi
  cases e2.symm.trans i1
  cases e3.symm.trans i2
  obtain ⟨kU, u1, u2⟩ := al.2.2 _ _ e3
  have hB : Blank ST x D P.U := ⟨hD, ⟨knV, fun q hq => by rw [hq] at obV; cases obV⟩, by rw [al.findClass]; exact e2, kU, u1, by rw [u2]; exact i3, by rw [u2]; exact e5 i3⟩
  have F1 : Found ST "value" "[B" fV P.U := ⟨SBG.found_only al ⟨cfV, kV, iV, gV⟩, stV⟩
  have F2 : Found ST "coder" "B" fC P.U := ⟨SBG.found_only al ⟨cfC, kC, iC, gC⟩, stC⟩
  have hA : Ch b A P.U := ⟨⟨K.1, State.isArrayOf_alike al K.2.1, K.2.2, by omega⟩, hty⟩
  have hS : StaticIs P.U ST "COMPACT_STRINGS" "Z" (.int z) := by
    obtain ⟨cfS, iS, kS, fS, st, cS, t1, t2, t3, t4, t5, t6, t7⟩ := S
    exact StaticIs.there (s := { Z with heap := P.U.heap }) ⟨cfS, iS, kS, fS, st, cS, t1, t2, t3, t4, t5, (fun q => by rw [q] at t6; cases t6), t7⟩ al rfl
  obtain ⟨v, B, X', ⟨⟨hv, E', V', q1, q2, q3, q4, q5, q6, q7, q8, q9, q10, q11⟩, hl, hc, hs⟩, st⟩ := New1.pays x D fV fC b A z (tab_of (moved hZ hw)) hfr hlo m meth c P g ig mk _ X hg hsize hdg hW hn ⟨r1, r2, rfl, hB, F1, F2, hA, hS, hz, l0, l2, hp⟩
  have al' : Z.vm.Alike B.U.vm := hZ.alike.trans X'.warmed.alike
  have hsz : E'.slots.size = D.slots.size := by
    obtain ⟨-, -, -, kB, w1, w2, w3⟩ := q1
    obtain ⟨kB', y1, y2⟩ := al'.2.2 _ _ e3
    rw [q2.2.1] at w1
    cases w1.symm.trans y1
    rw [w3, e5 i3, y2]
  refine ⟨v, B, X', ⟨_, ⟨hv, ?_, ⟨by omega, fun y cy hy hn' => q10 y cy (by simpa using hn') hy, fun y cy hy => ?_⟩, q11, ⟨E', _, q1.1, by rw [q2.2.1]; exact e2, by rw [q2.2.1]; exact e3, by rw [q2.1]; exact obV, fun _ => by rw [hsz]; exact e5 i3⟩,
    ⟨E', cfV, kV, iV, fV, q1.1, gV, stV, by rw [q2.1]; exact knV, by rw [q2.1]; exact obV, by rw [q2.2.1]; exact asV, q3⟩, ⟨E', cfC, kC, iC, fC, q1.1, gC, stC, by rw [q2.1]; exact knV, by rw [q2.1]; exact obV, by rw [q2.2.1]; exact asC, q4⟩,
    ⟨V', ⟨q5.1, State.isArrayOf_alike al'.symm q5.2.1, q5.2.2.1⟩, q6, by rw [← al'.findClass]; exact q7, q8, fun j hj => by have := q9 j hj; rwa [Nat.zero_add] at this⟩, fun O n d w F n1 n2 => ?_⟩, hl, hc, hs⟩, st⟩
  · intro y hy
    simp only [List.mem_cons, List.not_mem_nil, or_false] at hy
    rcases hy with rfl | rfl <;> rfl
  · by_cases q : y = x
    · subst q
      cases hD.symm.trans hy
      exact ⟨E', q1.1, q2.2.1, q2.1, hsz⟩
    · exact ⟨cy, q10 y cy q hy, rfl, rfl, rfl⟩
  · obtain ⟨D3, cf, k, i, f, g1, g2, g3, g4, g5, g6, g7⟩ := F
    cases hD.symm.trans g1
    simp only [RoadKit.slotOf, g2, gV, gC, Option.map_some, Option.getD_some] at n1 n2
    exact ⟨E', cf, k, i, f, q1.1, g2, g3, by rw [q2.1]; exact g4, by rw [q2.1]; exact g5, by rw [q2.2.1]; exact g6, by rw [q2.2.2 f.slot (by simp [n1, n2])]; exact g7⟩
end StrChars.Road
namespace StrChars.Road
open Jvm Sem ClassFile Op Lib Jvm.Stand Jvm.Free Jvm.Free.XT
/-- WHAT COMES BACK, the byte[] as a list of values -/
def QA (Z : State) (x : Addr) (zn : Int32) (cs : List Int32) (h : Heap) (v : Option Value) (h' : Heap) (L : List Loc) : Prop := v = none ∧ (∀ y ∈ L, y.base = x) ∧ RoadKit.Keep h h' [x] ∧ h'.size = h.size + 1 ∧ RoadKit.Exa Z h' x ST ∧ RoadKit.Fld Z h' x ST "value" "[B" (.ref h.size) ∧ RoadKit.Fld Z h' x ST "coder" "B" (.int 0) ∧
  (∃ kb, Z.vm.findClass "[B" = some kb ∧ RoadKit.Arv Z h' h.size kb .byte zn (cs.map fun c => .int (lo8 c)) (.int 0)) ∧
  ∀ (O n d : String) (w : Value), RoadKit.Fld Z h x O n d w → RoadKit.slotOf Z O n d ≠ RoadKit.slotOf Z ST "value" "[B" → RoadKit.slotOf Z O n d ≠ RoadKit.slotOf Z ST "coder" "B" → RoadKit.Fld Z h' x O n d w
/-- **new String(chars) AT A CALL, THE ARRAYS AS LISTS**: the char[] at b holds cs, not empty, no char above 255 -/
theorem backArv {p : Program} {l : Launch} {e : Env} {R : Room} {s : State} {args : Array Value} {below : List Frame} {len W : Nat} {Z : State} {a0 : Array Value} {h : Heap} (hZ : Z.Warmed39 s.vm) (hw : ∀ d ∈ words, d.before a0 Z = true) {kI : Nat} (wi : (Jvm.Cond.instantiable ST kI).before a0 Z = true)
    {x b : Addr} {k : ClassId} {zn z : Int32} {cs : List Int32} {dv v0 c0 : Value} (E : RoadKit.Exa Z h x ST) (V : RoadKit.Fld Z h x ST "value" "[B" v0) (C : RoadKit.Fld Z h x ST "coder" "B" c0) (K : RoadKit.Arv Z h b k .char zn (cs.map Value.int) dv) (S : RoadKit.Sta Z h ST "COMPACT_STRINGS" "Z" (.int z)) (hz : ¬ z = 0)
    (hlen : zn.toNatClampNeg = cs.length) (h0 : 0 < cs.length) (hbig : cs.length ≤ 536870912) (hall : ∀ c ∈ cs, ¬ 255 < c) (hfr : 4 ≤ R.frames) (hlo : W + 65 ≤ R.locals) :
    Back l R p e below s args New1.yN len W (fun P a => a = #[.ref x, .ref b] ∧ P.U.heap = h ∧ P.cells + 1 ≤ R.cells ∧ P.slots + cs.length ≤ R.slots)
      (fun P _ v B => ∃ L, QA Z x zn cs h v B.U.heap L ∧ B.locs = P.locs ++ L ∧ B.cells = P.cells + 1 ∧ B.slots = P.slots + cs.length) := by
  obtain ⟨A, K1, K2, K3, K4, K5, K6⟩ := K
  have e : A.slots.size = cs.length := K3.trans hlen
  have hat : ∀ (i : Nat) (hi : i < cs.length), A.slots[i]? = some (.int cs[i]) := fun i hi => by rw [K5 i (by omega)]; simp [List.getD_eq_getElem?_getD, hi]
  have hcv : ∀ (i : Nat) (hi : i < cs.length), cv A i = cs[i] := fun i hi => by unfold cv; rw [hat i hi]
  have hty : Typed .char A := fun i v hv => by
    have hi : i < A.slots.size := (Array.getElem?_eq_some_iff.mp hv).1
    have q := K5 i hi
    rw [hv] at q
    rw [Option.some.inj q]
    exact K6 i hi
  refine Back.mono (back hZ hw wi E V C K1 hty S hz (by omega) (by omega) (fun i hi => by rw [hcv i (by omega)]; exact hall _ (List.getElem_mem _)) hfr hlo) (fun P a hp => ⟨hp.1, hp.2.1, hp.2.2.1, by rw [e]; exact hp.2.2.2⟩) (fun P a v B hp hq => ?_)
  obtain ⟨L, ⟨q1, q2, q3, q4, q5, q6, q7, ⟨V', v1, v2, v3, v4, v5⟩, q9⟩, hl, hc, hs⟩ := hq
  refine ⟨L, ⟨q1, q2, q3, q4, q5, q6, q7, ⟨V'.cls, v3, V', v1, rfl, by rw [v4, e, hlen], K4, fun i hi => ?_, fun i hi => ?_⟩, q9⟩, hl, hc, by rw [hs, e]⟩
  · have hi' : i < cs.length := by omega
    rw [v5 i (by omega), hcv i hi']; simp [List.getD_eq_getElem?_getD, hi']
  · have hi' : i < cs.length := by omega
    simp only [List.getD_eq_getElem?_getD, List.getElem?_map, List.getElem?_eq_getElem hi', Option.map_some, Option.getD_some]
    exact fits_lo8 _
end StrChars.Road
namespace StrChars.Road
open Jvm Sem ClassFile Op Lib Jvm.Stand Jvm.Free Jvm.Free.XT
/-- WHAT COMES BACK, in the writer's own shape -/
def QV (Z : State) (x : Addr) (N : Int32) (bs : List Int32) (h : Heap) (n0 : Nat) (v : Option Value) (h' : Heap) (L : List Loc) : Prop := v = none ∧ RoadKit.Fr n0 L ∧ RoadKit.Keep h h' [x] ∧ RoadKit.Exa Z h' x ST ∧ RoadKit.Fld Z h' x ST "coder" "B" (.int 0) ∧
  ∃ (t : Addr) (kb : ClassId), n0 ≤ t ∧ h.size ≤ t ∧ ¬ t = x ∧ RoadKit.Fld Z h' x ST "value" "[B" (.ref t) ∧ RoadKit.Arv Z h' t kb .byte N (bs.map Value.int) (.int 0)
/-- **new String(chars) AT A CALL, FOR THE WRITER**: a char[] of n known ints, each 0 to 255 -/
theorem backV {p : Program} {l : Launch} {e : Env} {R : Room} {s : State} {args : Array Value} {below : List Frame} {len W : Nat} {Z : State} {a0 : Array Value} {h : Heap} (hZ : Z.Warmed39 s.vm) (hw : ∀ d ∈ words, d.before a0 Z = true) {kI : Nat} (wi : (Jvm.Cond.instantiable ST kI).before a0 Z = true)
    {x b : Addr} {kC : ClassId} {cs bs : List Int32} {d v0 c0 : Value} {z N : Int32} {n n0 : Nat} (hx0 : n0 ≤ x) (hh0 : n0 ≤ h.size) (E : RoadKit.Exa Z h x ST) (V : RoadKit.Fld Z h x ST "value" "[B" v0) (C : RoadKit.Fld Z h x ST "coder" "B" c0) (K : RoadKit.Arv Z h b kC .char N (cs.map Value.int) d) (S : RoadKit.Sta Z h ST "COMPACT_STRINGS" "Z" (.int z)) (hz : ¬ z = 0)
    (hn : cs.length = n) (hN : N = Int32.ofNat n) (l0 : 0 < n) (l2 : n ≤ 4000) (hp : ∀ c ∈ cs, ¬ c < 0 ∧ ¬ (255 : Int32) < c) (hb : bs = cs.map (fun c => c.toInt8.toInt32)) (hfr : 4 ≤ R.frames) (hlo : W + 65 ≤ R.locals) :
    Back l R p e below s args (⟨"java/lang/String", "<init>", "([C)V"⟩ : MethodName) len W (fun P a => a = #[.ref x, .ref b] ∧ P.U.heap = h ∧ P.cells + 1 ≤ R.cells ∧ P.slots + n ≤ R.slots)
      (fun P _ v B => ∃ L, QV Z x N bs h n0 v B.U.heap L ∧ B.locs = P.locs ++ L ∧ B.cells = P.cells + 1 ∧ B.slots = P.slots + n) := by
  subst hn hN hb
  refine Back.mono (backArv hZ hw wi E V C K S hz (n32 (by omega)) l0 (by omega) (fun c hc => (hp c hc).2) hfr hlo) (fun P a hp => hp) (fun P a v B hp hq => ?_)
  obtain ⟨L, ⟨q1, q2, q3, q4, q5, q6, q7, ⟨kb, v1, v2⟩, q9⟩, hl, hc, hs⟩ := hq
  exact ⟨L, ⟨q1, fun y hy => by rw [q2 y hy]; exact hx0, q3, q5, q7, h.size, kb, hh0, Nat.le_refl _, Nat.ne_of_gt E.lt, q6, by rw [List.map_map]; exact v2⟩, hl, hc, hs⟩
end StrChars.Road
end Jvm.Pilot.@@N@@
namespace Jvm.Pilot.@@N@@
open Jvm Jvm.ClassFile Sem Op Lib Jvm.Free Jvm.Stand Jvm.LawKit Jvm.RoadKit Bundle Jvm.Pilot.@@N@@.Jvm.D
theorem d7_0 : decode prog_78_method_1_code 0 = .ok (.aload_n 0, 1) := by decide +kernel
theorem d7_1 : decode prog_78_method_1_code 1 = .ok (.invokespecial 1, 3) := by decide +kernel
theorem d7_4 : decode prog_78_method_1_code 4 = .ok (.aload_n 0, 1) := by decide +kernel
theorem d7_5 : decode prog_78_method_1_code 5 = .ok (.aload_n 1, 1) := by decide +kernel
theorem d7_6 : decode prog_78_method_1_code 6 = .ok (.putfield 7, 3) := by decide +kernel
theorem d7_9 : decode prog_78_method_1_code 9 = .ok (.return_, 1) := by decide +kernel
theorem d8_0 : decode jdk_30_method_1_code 0 = .ok (.aload_n 0, 1) := by decide +kernel
theorem d8_1 : decode jdk_30_method_1_code 1 = .ok (.invokespecial 1, 3) := by decide +kernel
theorem d8_4 : decode jdk_30_method_1_code 4 = .ok (.return_, 1) := by decide +kernel
theorem d9_0 : decode prog_78_method_2_code 0 = .ok (.aload_n 1, 1) := by decide +kernel
theorem d9_1 : decode prog_78_method_2_code 1 = .ok (.instanceof 8, 3) := by decide +kernel
theorem d9_4 : decode prog_78_method_2_code 4 = .ok (.ifCond .eq 23, 3) := by decide +kernel
theorem d9_7 : decode prog_78_method_2_code 7 = .ok (.aload_n 1, 1) := by decide +kernel
theorem d9_8 : decode prog_78_method_2_code 8 = .ok (.checkcast 8, 3) := by decide +kernel
theorem d9_11 : decode prog_78_method_2_code 11 = .ok (.astore_n 2, 1) := by decide +kernel
theorem d9_12 : decode prog_78_method_2_code 12 = .ok (.aload_n 2, 1) := by decide +kernel
theorem d9_13 : decode prog_78_method_2_code 13 = .ok (.getfield 7, 3) := by decide +kernel
theorem d9_16 : decode prog_78_method_2_code 16 = .ok (.aload_n 0, 1) := by decide +kernel
theorem d9_17 : decode prog_78_method_2_code 17 = .ok (.getfield 7, 3) := by decide +kernel
theorem d9_20 : decode prog_78_method_2_code 20 = .ok (.if_acmp .ne 7, 3) := by decide +kernel
theorem d9_23 : decode prog_78_method_2_code 23 = .ok (.iconst 1, 1) := by decide +kernel
theorem d9_24 : decode prog_78_method_2_code 24 = .ok (.goto 4, 3) := by decide +kernel
theorem d9_27 : decode prog_78_method_2_code 27 = .ok (.iconst 0, 1) := by decide +kernel
theorem d9_28 : decode prog_78_method_2_code 28 = .ok (.ireturn, 1) := by decide +kernel
theorem pd_0 : parseMethodDescriptor "()V" = some ⟨[], none⟩ := by decide +kernel
theorem pd_1 : parseMethodDescriptor "([C)V" = some ⟨[(.array .char)], none⟩ := by decide +kernel
theorem pd_2 : parseMethodDescriptor "(Ljava/lang/Object;)V" = some ⟨[(.object "java/lang/Object")], none⟩ := by decide +kernel
theorem pd_3 : parseMethodDescriptor "(Ljava/lang/Object;)Z" = some ⟨[(.object "java/lang/Object")], some .boolean⟩ := by decide +kernel
theorem wd_0 {a0 : Array Value} {Z : State} (hw : ∀ d ∈ tables_1, d.before a0 Z = true) : (Jvm.Cond.arrayClass Jvm.ClassFile.FieldType.char).before a0 Z = true := hw _ (List.mem_of_getElem? (i := 0) rfl)
theorem wd_1 {a0 : Array Value} {Z : State} (hw : ∀ d ∈ tables_1, d.before a0 Z = true) : (Jvm.Cond.classLink "com/example/kwery/kwery/IdentityEqualsPinLaw" (2 : Nat) "java/lang/Object").before a0 Z = true := hw _ (List.mem_of_getElem? (i := 1) rfl)
theorem wd_2 {a0 : Array Value} {Z : State} (hw : ∀ d ∈ tables_1, d.before a0 Z = true) : (Jvm.Cond.arrayOver (Jvm.ClassFile.FieldType.object "java/lang/Object")).before a0 Z = true := hw _ (List.mem_of_getElem? (i := 2) rfl)
theorem wd_3 {a0 : Array Value} {Z : State} (hw : ∀ d ∈ tables_1, d.before a0 Z = true) : (Jvm.Cond.classLink "com/example/kwery/kwery/IdentityEqualsPinLaw" (7 : Nat) "java/lang/String").before a0 Z = true := hw _ (List.mem_of_getElem? (i := 3) rfl)
theorem wd_4 {a0 : Array Value} {Z : State} (hw : ∀ d ∈ tables_1, d.before a0 Z = true) : (Jvm.Cond.instantiable "java/lang/String" (4 : Nat)).before a0 Z = true := hw _ (List.mem_of_getElem? (i := 4) rfl)
theorem wd_5 {a0 : Array Value} {Z : State} (hw : ∀ d ∈ tables_1, d.before a0 Z = true) : (Jvm.Cond.initialized "java/lang/String").before a0 Z = true := hw _ (List.mem_of_getElem? (i := 5) rfl)
theorem wd_6 {a0 : Array Value} {Z : State} (hw : ∀ d ∈ tables_1, d.before a0 Z = true) : (Jvm.Cond.methodLink "com/example/kwery/kwery/IdentityEqualsPinLaw" (9 : Nat) ({ cls := "java/lang/String", name := "<init>", desc := "([C)V" } : Jvm.MethodName)).before a0 Z = true := hw _ (List.mem_of_getElem? (i := 6) rfl)
theorem wd_7 {a0 : Array Value} {Z : State} (hw : ∀ d ∈ tables_1, d.before a0 Z = true) : (Jvm.Cond.instanceMethod ({ cls := "java/lang/String", name := "<init>", desc := "([C)V" } : Jvm.MethodName)).before a0 Z = true := hw _ (List.mem_of_getElem? (i := 7) rfl)
theorem wd_8 {a0 : Array Value} {Z : State} (hw : ∀ d ∈ tables_1, d.before a0 Z = true) : (Jvm.Cond.code ({ cls := "java/lang/String", name := "<init>", desc := "([C)V" } : Jvm.MethodName) jdk_42_method_3_code (2 : Nat) (Option.none : Option Jvm.ClassFile.FieldType)).before a0 Z = true := hw _ (List.mem_of_getElem? (i := 8) rfl)
theorem wd_14 {a0 : Array Value} {Z : State} (hw : ∀ d ∈ tables_1, d.before a0 Z = true) : (Jvm.Cond.instanceMethod ({ cls := "java/lang/Object", name := "<init>", desc := "()V" } : Jvm.MethodName)).before a0 Z = true := hw _ (List.mem_of_getElem? (i := 14) rfl)
theorem wd_15 {a0 : Array Value} {Z : State} (hw : ∀ d ∈ tables_1, d.before a0 Z = true) : (Jvm.Cond.code ({ cls := "java/lang/Object", name := "<init>", desc := "()V" } : Jvm.MethodName) object_method_1_code (1 : Nat) (Option.none : Option Jvm.ClassFile.FieldType)).before a0 Z = true := hw _ (List.mem_of_getElem? (i := 15) rfl)
theorem wd_29 {a0 : Array Value} {Z : State} (hw : ∀ d ∈ tables_1, d.before a0 Z = true) : (Jvm.Cond.laysFinal "java/lang/String" "java/lang/String" "coder" "B").before a0 Z = true := hw _ (List.mem_of_getElem? (i := 29) rfl)
theorem wd_31 {a0 : Array Value} {Z : State} (hw : ∀ d ∈ tables_1, d.before a0 Z = true) : (Jvm.Cond.laysFinal "java/lang/String" "java/lang/String" "value" "[B").before a0 Z = true := hw _ (List.mem_of_getElem? (i := 31) rfl)
theorem wd_32 {a0 : Array Value} {Z : State} (hw : ∀ d ∈ tables_1, d.before a0 Z = true) : (Jvm.Cond.castable "java/lang/String" "java/lang/Object").before a0 Z = true := hw _ (List.mem_of_getElem? (i := 32) rfl)
theorem wd_33 {a0 : Array Value} {Z : State} (hw : ∀ d ∈ tables_1, d.before a0 Z = true) : (Jvm.Cond.classLink "com/example/kwery/kwery/IdentityEqualsPinLaw" (12 : Nat) "com/example/kwery/kwery/Comparisons$Identity").before a0 Z = true := hw _ (List.mem_of_getElem? (i := 33) rfl)
theorem wd_34 {a0 : Array Value} {Z : State} (hw : ∀ d ∈ tables_1, d.before a0 Z = true) : (Jvm.Cond.instantiable "com/example/kwery/kwery/Comparisons$Identity" (1 : Nat)).before a0 Z = true := hw _ (List.mem_of_getElem? (i := 34) rfl)
theorem wd_35 {a0 : Array Value} {Z : State} (hw : ∀ d ∈ tables_1, d.before a0 Z = true) : (Jvm.Cond.initialized "com/example/kwery/kwery/Comparisons$Identity").before a0 Z = true := hw _ (List.mem_of_getElem? (i := 35) rfl)
theorem wd_36 {a0 : Array Value} {Z : State} (hw : ∀ d ∈ tables_1, d.before a0 Z = true) : (Jvm.Cond.methodLink "com/example/kwery/kwery/IdentityEqualsPinLaw" (14 : Nat) ({ cls := "com/example/kwery/kwery/Comparisons$Identity", name := "<init>", desc := "(Ljava/lang/Object;)V" } : Jvm.MethodName)).before a0 Z = true := hw _ (List.mem_of_getElem? (i := 36) rfl)
theorem wd_37 {a0 : Array Value} {Z : State} (hw : ∀ d ∈ tables_1, d.before a0 Z = true) : (Jvm.Cond.instanceMethod ({ cls := "com/example/kwery/kwery/Comparisons$Identity", name := "<init>", desc := "(Ljava/lang/Object;)V" } : Jvm.MethodName)).before a0 Z = true := hw _ (List.mem_of_getElem? (i := 37) rfl)
theorem wd_38 {a0 : Array Value} {Z : State} (hw : ∀ d ∈ tables_1, d.before a0 Z = true) : (Jvm.Cond.code ({ cls := "com/example/kwery/kwery/Comparisons$Identity", name := "<init>", desc := "(Ljava/lang/Object;)V" } : Jvm.MethodName) prog_78_method_1_code (2 : Nat) (Option.none : Option Jvm.ClassFile.FieldType)).before a0 Z = true := hw _ (List.mem_of_getElem? (i := 38) rfl)
theorem wd_39 {a0 : Array Value} {Z : State} (hw : ∀ d ∈ tables_1, d.before a0 Z = true) : (Jvm.Cond.methodLink "com/example/kwery/kwery/Comparisons$Identity" (1 : Nat) ({ cls := "java/lang/Record", name := "<init>", desc := "()V" } : Jvm.MethodName)).before a0 Z = true := hw _ (List.mem_of_getElem? (i := 39) rfl)
theorem wd_40 {a0 : Array Value} {Z : State} (hw : ∀ d ∈ tables_1, d.before a0 Z = true) : (Jvm.Cond.instanceMethod ({ cls := "java/lang/Record", name := "<init>", desc := "()V" } : Jvm.MethodName)).before a0 Z = true := hw _ (List.mem_of_getElem? (i := 40) rfl)
theorem wd_42 {a0 : Array Value} {Z : State} (hw : ∀ d ∈ tables_1, d.before a0 Z = true) : (Jvm.Cond.initialized "java/lang/Record").before a0 Z = true := hw _ (List.mem_of_getElem? (i := 42) rfl)
theorem wd_43 {a0 : Array Value} {Z : State} (hw : ∀ d ∈ tables_1, d.before a0 Z = true) : (Jvm.Cond.code ({ cls := "java/lang/Record", name := "<init>", desc := "()V" } : Jvm.MethodName) jdk_30_method_1_code (1 : Nat) (Option.none : Option Jvm.ClassFile.FieldType)).before a0 Z = true := hw _ (List.mem_of_getElem? (i := 43) rfl)
theorem wd_44 {a0 : Array Value} {Z : State} (hw : ∀ d ∈ tables_1, d.before a0 Z = true) : (Jvm.Cond.methodLink "java/lang/Record" (1 : Nat) ({ cls := "java/lang/Object", name := "<init>", desc := "()V" } : Jvm.MethodName)).before a0 Z = true := hw _ (List.mem_of_getElem? (i := 44) rfl)
theorem wd_45 {a0 : Array Value} {Z : State} (hw : ∀ d ∈ tables_1, d.before a0 Z = true) : (Jvm.Cond.fieldLink "com/example/kwery/kwery/Comparisons$Identity" (7 : Nat) "com/example/kwery/kwery/Comparisons$Identity" "object" "Ljava/lang/Object;").before a0 Z = true := hw _ (List.mem_of_getElem? (i := 45) rfl)
theorem wd_46 {a0 : Array Value} {Z : State} (hw : ∀ d ∈ tables_1, d.before a0 Z = true) : (Jvm.Cond.laysFinal "com/example/kwery/kwery/Comparisons$Identity" "com/example/kwery/kwery/Comparisons$Identity" "object" "Ljava/lang/Object;").before a0 Z = true := hw _ (List.mem_of_getElem? (i := 46) rfl)
theorem wd_47 {a0 : Array Value} {Z : State} (hw : ∀ d ∈ tables_1, d.before a0 Z = true) : (Jvm.Cond.methodLink "com/example/kwery/kwery/IdentityEqualsPinLaw" (17 : Nat) ({ cls := "com/example/kwery/kwery/Comparisons$Identity", name := "equals", desc := "(Ljava/lang/Object;)Z" } : Jvm.MethodName)).before a0 Z = true := hw _ (List.mem_of_getElem? (i := 47) rfl)
theorem wd_48 {a0 : Array Value} {Z : State} (hw : ∀ d ∈ tables_1, d.before a0 Z = true) : (Jvm.Cond.declares ({ cls := "com/example/kwery/kwery/Comparisons$Identity", name := "equals", desc := "(Ljava/lang/Object;)Z" } : Jvm.MethodName)).before a0 Z = true := hw _ (List.mem_of_getElem? (i := 48) rfl)
theorem wd_49 {a0 : Array Value} {Z : State} (hw : ∀ d ∈ tables_1, d.before a0 Z = true) : (Jvm.Cond.instanceMethod ({ cls := "com/example/kwery/kwery/Comparisons$Identity", name := "equals", desc := "(Ljava/lang/Object;)Z" } : Jvm.MethodName)).before a0 Z = true := hw _ (List.mem_of_getElem? (i := 49) rfl)
theorem wd_50 {a0 : Array Value} {Z : State} (hw : ∀ d ∈ tables_1, d.before a0 Z = true) : (Jvm.Cond.selects "com/example/kwery/kwery/Comparisons$Identity" ({ cls := "com/example/kwery/kwery/Comparisons$Identity", name := "equals", desc := "(Ljava/lang/Object;)Z" } : Jvm.MethodName) ({ cls := "com/example/kwery/kwery/Comparisons$Identity", name := "equals", desc := "(Ljava/lang/Object;)Z" } : Jvm.MethodName)).before a0 Z = true := hw _ (List.mem_of_getElem? (i := 50) rfl)
theorem wd_51 {a0 : Array Value} {Z : State} (hw : ∀ d ∈ tables_1, d.before a0 Z = true) : (Jvm.Cond.code ({ cls := "com/example/kwery/kwery/Comparisons$Identity", name := "equals", desc := "(Ljava/lang/Object;)Z" } : Jvm.MethodName) prog_78_method_2_code (3 : Nat) (Option.some Jvm.ClassFile.FieldType.boolean)).before a0 Z = true := hw _ (List.mem_of_getElem? (i := 51) rfl)
theorem wd_52 {a0 : Array Value} {Z : State} (hw : ∀ d ∈ tables_1, d.before a0 Z = true) : (Jvm.Cond.classLink "com/example/kwery/kwery/Comparisons$Identity" (8 : Nat) "com/example/kwery/kwery/Comparisons$Identity").before a0 Z = true := hw _ (List.mem_of_getElem? (i := 52) rfl)
theorem wd_54 {a0 : Array Value} {Z : State} (hw : ∀ d ∈ tables_1, d.before a0 Z = true) : (Jvm.Cond.superclass "java/lang/String" "java/lang/Object").before a0 Z = true := hw _ (List.mem_of_getElem? (i := 54) rfl)
theorem wd_55 {a0 : Array Value} {Z : State} (hw : ∀ d ∈ tables_1, d.before a0 Z = true) : (Jvm.Cond.noSuperclass "java/lang/Object").before a0 Z = true := hw _ (List.mem_of_getElem? (i := 55) rfl)
theorem own_char (x : Int32) : ¬ nar .char ((x &&& (255 : Int32)).toUInt32.toUInt16.toUInt32.toInt32) < 0 ∧ ¬ (255 : Int32) < nar .char ((x &&& (255 : Int32)).toUInt32.toUInt16.toUInt32.toInt32) := by
  have t : ∀ k : Fin 256, ¬ nar .char ((Int32.ofNat k.val).toUInt32.toUInt16.toUInt32.toInt32) < 0 ∧ ¬ (255 : Int32) < nar .char ((Int32.ofNat k.val).toUInt32.toUInt16.toUInt32.toInt32) := by decide +kernel
  have h : (x &&& 255).toBitVec.toNat < 256 := by
    simp only [Int32.toBitVec_and, BitVec.toNat_and]
    exact Nat.lt_succ_of_le Nat.and_le_right
  have e : (x &&& 255) = Int32.ofNat (x &&& 255).toBitVec.toNat := by
    apply Int32.toBitVec_inj.mp
    show _ = BitVec.ofNat 32 _
    rw [BitVec.ofNat_toNat]; simp
  rw [e]
  exact t ⟨_, h⟩
theorem own_and3 (x : Int32) : x &&& (3 : Int32) = 0 ∨ x &&& (3 : Int32) = 1 ∨ x &&& (3 : Int32) = 2 ∨ x &&& (3 : Int32) = 3 := by
  have e1 : (x &&& (3 : Int32)).toInt = x.toInt % 2 ^ 2 := Jvm.Kit.i32_mask x 3 (by decide) (by decide)
  simp only [← Int32.toInt_inj]
  have g0 : (0 : Int32).toInt = 0 := rfl
  have g1 : (1 : Int32).toInt = 1 := rfl
  have g2 : (2 : Int32).toInt = 2 := rfl
  have g3 : (3 : Int32).toInt = 3 := rfl
  rw [g0, g1, g2, g3]
  omega
def own_is (s1 s2 s3 : Addr) (i : Int32) (u : Addr) : Prop := (i = 1 ∧ u = s1) ∨ (i = 2 ∧ u = s2) ∨ (i = 3 ∧ u = s3)
theorem own_at (s1 s2 s3 : Addr) {i : Int32} (hi : i = 0 ∨ i = 1 ∨ i = 2 ∨ i = 3) : (i = 0 ∧ [Value.null, .ref s1, .ref s2, .ref s3].getD i.toNatClampNeg .null = .null) ∨ ∃ u, ¬ i = 0 ∧ [Value.null, .ref s1, .ref s2, .ref s3].getD i.toNatClampNeg .null = .ref u ∧ own_is s1 s2 s3 i u := by
  rcases hi with rfl | rfl | rfl | rfl
  · exact Or.inl ⟨rfl, rfl⟩
  · exact Or.inr ⟨s1, by decide, rfl, Or.inl ⟨rfl, rfl⟩⟩
  · exact Or.inr ⟨s2, by decide, rfl, Or.inr (Or.inl ⟨rfl, rfl⟩)⟩
  · exact Or.inr ⟨s3, by decide, rfl, Or.inr (Or.inr ⟨rfl, rfl⟩)⟩
theorem own_in {i : Int32} (hi : i = 0 ∨ i = 1 ∨ i = 2 ∨ i = 3) : ¬ i < 0 ∧ i < 4 := by rcases hi with rfl | rfl | rfl | rfl <;> decide
theorem own_same {s1 s2 s3 : Addr} {i j : Int32} {u w : Addr} (hu : own_is s1 s2 s3 i u) (hw : own_is s1 s2 s3 j w) (e : i = j) : w = u := by
  subst e
  rcases hu with ⟨rfl, rfl⟩ | ⟨rfl, rfl⟩ | ⟨rfl, rfl⟩ <;> rcases hw with ⟨q, rfl⟩ | ⟨q, rfl⟩ | ⟨q, rfl⟩ <;> first | rfl | exact absurd q (by decide)
theorem own_diff {s1 s2 s3 : Addr} {i j : Int32} {u w : Addr} (h12 : s1 < s2) (h23 : s2 < s3) (hu : own_is s1 s2 s3 i u) (hw : own_is s1 s2 s3 j w) (e : ¬ i = j) : ¬ Value.ref w = Value.ref u := fun q => by
  have q' : w = u := Value.ref.inj q
  rcases hu with ⟨rfl, rfl⟩ | ⟨rfl, rfl⟩ | ⟨rfl, rfl⟩ <;> rcases hw with ⟨rfl, rfl⟩ | ⟨rfl, rfl⟩ | ⟨rfl, rfl⟩ <;> first | exact e rfl | exact absurd q' (Nat.ne_of_lt h12) | exact absurd q'.symm (Nat.ne_of_lt h12) | exact absurd q' (Nat.ne_of_lt h23) | exact absurd q'.symm (Nat.ne_of_lt h23) | exact absurd q' (Nat.ne_of_lt (Nat.lt_trans h12 h23)) | exact absurd q'.symm (Nat.ne_of_lt (Nat.lt_trans h12 h23))
theorem own_no {a0 : Array Value} {Z : State} {C O K : String} {n : Nat} (w1 : (Jvm.Cond.superclass C O).before a0 Z = true) (w2 : (Jvm.Cond.noSuperclass O).before a0 Z = true) (w3 : (Jvm.Cond.instantiable K n).before a0 Z = true) (h1 : C ≠ K) (h2 : O ≠ K) : ∃ c t, Z.vm.findClass C = some c ∧ Z.vm.findClass K = some t ∧ Z.vm.assignable c t = false := by
  obtain ⟨t, k', g0, g2, g5, g7, -, -⟩ := Cond.instantiable_spec w3
  obtain ⟨o, ko, o1, o2, o3, -, -⟩ := Cond.noSuperclass_spec w2
  obtain ⟨c, h0⟩ := found_sup w1
  obtain ⟨p, k, kp, q1, q2, q3, q4, q5, -, q7⟩ := Cond.superclass_spec h0 w1
  cases o1.symm.trans q1
  have ne1 := ids_ne h0 g0 h1
  have ne2 := ids_ne o1 g0 h2
  have g8 : k'.isInterface = false := (Bool.or_eq_false_iff.mp g7).1
  have r : ∀ fuel, Z.vm.isSubclassAux fuel o t = false := fun f => by
    cases f with
    | zero => rfl
    | succ f => simp [Vm.isSubclassAux, ne2, o2, o3]
  have r2 : ∀ fuel, Z.vm.isSubclassAux fuel c t = false := fun f => by
    cases f with
    | zero => rfl
    | succ f => simp [Vm.isSubclassAux, ne1, q2, q4, r]
  refine ⟨c, t, h0, g0, ?_⟩
  show Z.vm.assignableAux (255 + 1) c t = false
  simp [Vm.assignableAux, ne1, q2, g2, q5, g5, g8, Vm.isSubclass, r2]
def Q_rm8 (h0 : Heap) (n0 : Nat) (v : Option Value) (h : Heap) (L : List Loc) : Prop := v = none ∧ Fr n0 L ∧ h = h0
set_option maxRecDepth 65536 in
set_option maxHeartbeats 40000000 in
theorem rm8 (l : Launch) (Z : State) (a0 : Array Value) (hw : ∀ d ∈ tables_1, d.before a0 Z = true) (a1 : Addr) (h0 : Heap) (n0 : Nat) (OL : Old Z n0 h0)  :
    own_Met l Z (⟨"java/lang/Record", "<init>", "()V"⟩ : MethodName) jdk_30_method_1_code 1 none ({ frames := 1, cells := 0, slots := 0, locals := 12 } : Room) #[(.ref a1)] h0 (Q_rm8 h0 n0) := by
  refine own_body (L0 := #[.val (.ref a1)]) (plainFor_of_name (by first | (simp [plainName, overriddenIn]; done) | decide +kernel)) (fun m => by first | (simp [entryFrame, mkF, argsToLocals, Value.category]; done) | rfl) ?_
  intro p e s m below meth c s₁ hx hby hml hZ hown hnm hret hlk X0 e0
  have N0 := Fr.nil n0
  have Z0 : n0 ≤ h0.size := OL.1 ▸ OL.2.1
  show OwnOk p e below _ (s₁.setTop (mkF m 0 #[.val (.ref a1)] []))
  refine own_up (fun tx kx => XS.aloadN X0.here hx rfl (hb hby d8_0) rfl rfl kx) ?_
  show OwnOk p e below _ (s₁.setTop (mkF m 1 #[.val (.ref a1)] [(.ref a1)]))
  obtain ⟨T11, X11, e11, st11⟩ := initO X0 hx hZ hown (wd_44 hw) (wd_14 hw) (wd_15 hw) e0 (g := (mkF m 1 #[.val (.ref a1)] [(.ref a1)])) rfl (by rw [hml]; rfl) rfl (hb hby d8_1) (by decide) (W := 0) (by show 2 * 0 + _ ≤ _; exact Nat.le_of_eq rfl) (by decide)
  refine own_up st11 ?_
  show OwnOk p e below _ (T11.setTop (mkF m 4 #[.val (.ref a1)] []))
  refine own_retV X11 hx (show meth.sig.returnType = none from hret) hlk (hb hby d8_4) e11 (Nat.le_of_ble_eq_true rfl) (Nat.le_of_ble_eq_true rfl) ?_
  exact ⟨rfl, N0, rfl⟩
def Q_id (Z : State) (a : Addr) (u : Value) (h0 : Heap) (n0 : Nat) (v : Option Value) (h : Heap) (L : List Loc) : Prop := v = none ∧ Fr n0 L ∧ Keep h0 h [a] ∧ Exa Z h a "com/example/kwery/kwery/Comparisons$Identity" ∧ Fld Z h a "com/example/kwery/kwery/Comparisons$Identity" "object" "Ljava/lang/Object;" u
def Q_rm7n (Z : State) (a : Addr) (h0 : Heap) (n0 : Nat) (v : Option Value) (h : Heap) (L : List Loc) : Prop := Q_id Z a .null h0 n0 v h L
set_option maxRecDepth 65536 in
set_option maxHeartbeats 40000000 in
theorem rm7n (l : Launch) (Z : State) (a0 : Array Value) (hw : ∀ d ∈ tables_1, d.before a0 Z = true) (a : Addr) (h0 : Heap) (n0 : Nat) (OL : Old Z n0 h0) (E_a : Exa Z h0 a "com/example/kwery/kwery/Comparisons$Identity") (F_object_a : Fld Z h0 a "com/example/kwery/kwery/Comparisons$Identity" "object" "Ljava/lang/Object;" .null) (n0_a : n0 ≤ a) :
    own_Met l Z (⟨"com/example/kwery/kwery/Comparisons$Identity", "<init>", "(Ljava/lang/Object;)V"⟩ : MethodName) prog_78_method_1_code 2 none ({ frames := 2, cells := 0, slots := 0, locals := 24 } : Room) #[(.ref a), .null] h0 (Q_rm7n Z a h0 n0) := by
  refine own_body (L0 := #[.val (.ref a), .val .null]) (plainFor_of_name (by first | (simp [plainName, overriddenIn]; done) | decide +kernel)) (fun m => by first | (simp [entryFrame, mkF, argsToLocals, Value.category]; done) | rfl) ?_
  intro p e s m below meth c s₁ hx hby hml hZ hown hnm hret hlk X0 e0
  have N0 := Fr.nil n0
  have Z0 : n0 ≤ h0.size := OL.1 ▸ OL.2.1
  show OwnOk p e below _ (s₁.setTop (mkF m 0 #[.val (.ref a), .val .null] []))
  have KP0 : Keep h0 h0 [a] := Keep.refl h0 _
  refine own_up (fun tx kx => XS.aloadN X0.here hx rfl (hb hby d7_0) rfl rfl kx) ?_
  show OwnOk p e below _ (s₁.setTop (mkF m 1 #[.val (.ref a), .val .null] [(.ref a)]))
  refine own_callC X0 hx hZ (y := (⟨"java/lang/Record", "<init>", "()V"⟩ : MethodName)) rfl hown (wd_39 hw) (wd_40 hw) (wd_42 hw) (wd_43 hw) (by decide) (rm8 l Z a0 hw a h0 n0 OL) e0 (argsL := []) (rest := []) (a := a) (by rw [hml]; rfl) (lenOf pd_0 rfl) rfl rfl (W := 0) rfl (hb hby d7_1) (by decide) (by decide) (by decide) (by decide) (fun T11 v11 L11 X11 hQ11 => ?_)
  obtain ⟨rfl, Nq11, hh11⟩ := hQ11
  have N11 := Fr.app N0 Nq11
  show OwnOk p e below _ (T11.setTop (mkF m 4 #[.val (.ref a), .val .null] []))
  refine own_up (fun tx kx => XS.aloadN X11.here hx rfl (hb hby d7_4) rfl rfl kx) ?_
  show OwnOk p e below _ (T11.setTop (mkF m 5 #[.val (.ref a), .val .null] [(.ref a)]))
  refine own_up (fun tx kx => XS.aloadN X11.here hx rfl (hb hby d7_5) rfl rfl kx) ?_
  show OwnOk p e below _ (T11.setTop (mkF m 6 #[.val (.ref a), .val .null] [.null, (.ref a)]))
  obtain ⟨T12, h12, X12, e12, W12, st12⟩ := putF X11 hx hZ hown (host := "") (Or.inl (wd_45 hw)) Via.refl hh11 F_object_a E_a (Or.inr ⟨(wd_46 hw), rfl, hnm⟩) (wd_34 hw) (ty := (.object "java/lang/Object")) (by decide) rfl rfl (g := (mkF m 6 #[.val (.ref a), .val .null] [.null, (.ref a)])) rfl rfl (hb hby d7_6)
  have Fw12 := Fld.same W12 F_object_a
  have N12 := Fr.snoc X12 N11 n0_a
  have OL13 := OL.wr W12 n0_a
  have KP13 := KP0.wr W12 (Or.inl (List.mem_of_getElem? (i := 0) rfl))
  refine own_up st12 ?_
  show OwnOk p e below _ (T12.setTop (mkF m 9 #[.val (.ref a), .val .null] []))
  have E_a_14 := (E_a.wr W12)
  refine own_retV X12 hx (show meth.sig.returnType = none from hret) hlk (hb hby d7_9) e12 (Nat.le_of_ble_eq_true rfl) (Nat.le_of_ble_eq_true rfl) ?_
  exact ⟨rfl, N12, KP13, E_a_14, Fw12⟩
def Q_rm7r (Z : State) (a u : Addr) (h0 : Heap) (n0 : Nat) (v : Option Value) (h : Heap) (L : List Loc) : Prop := Q_id Z a (.ref u) h0 n0 v h L
set_option maxRecDepth 65536 in
set_option maxHeartbeats 40000000 in
theorem rm7r (l : Launch) (Z : State) (a0 : Array Value) (hw : ∀ d ∈ tables_1, d.before a0 Z = true) (a u : Addr) (h0 : Heap) (n0 : Nat) (OL : Old Z n0 h0) (E_a : Exa Z h0 a "com/example/kwery/kwery/Comparisons$Identity") (F_object_a : Fld Z h0 a "com/example/kwery/kwery/Comparisons$Identity" "object" "Ljava/lang/Object;" .null) (n0_a : n0 ≤ a) :
    own_Met l Z (⟨"com/example/kwery/kwery/Comparisons$Identity", "<init>", "(Ljava/lang/Object;)V"⟩ : MethodName) prog_78_method_1_code 2 none ({ frames := 2, cells := 0, slots := 0, locals := 24 } : Room) #[(.ref a), (.ref u)] h0 (Q_rm7r Z a u h0 n0) := by
  refine own_body (L0 := #[.val (.ref a), .val (.ref u)]) (plainFor_of_name (by first | (simp [plainName, overriddenIn]; done) | decide +kernel)) (fun m => by first | (simp [entryFrame, mkF, argsToLocals, Value.category]; done) | rfl) ?_
  intro p e s m below meth c s₁ hx hby hml hZ hown hnm hret hlk X0 e0
  have N0 := Fr.nil n0
  have Z0 : n0 ≤ h0.size := OL.1 ▸ OL.2.1
  show OwnOk p e below _ (s₁.setTop (mkF m 0 #[.val (.ref a), .val (.ref u)] []))
  have KP0 : Keep h0 h0 [a] := Keep.refl h0 _
  refine own_up (fun tx kx => XS.aloadN X0.here hx rfl (hb hby d7_0) rfl rfl kx) ?_
  show OwnOk p e below _ (s₁.setTop (mkF m 1 #[.val (.ref a), .val (.ref u)] [(.ref a)]))
  refine own_callC X0 hx hZ (y := (⟨"java/lang/Record", "<init>", "()V"⟩ : MethodName)) rfl hown (wd_39 hw) (wd_40 hw) (wd_42 hw) (wd_43 hw) (by decide) (rm8 l Z a0 hw a h0 n0 OL) e0 (argsL := []) (rest := []) (a := a) (by rw [hml]; rfl) (lenOf pd_0 rfl) rfl rfl (W := 0) rfl (hb hby d7_1) (by decide) (by decide) (by decide) (by decide) (fun T11 v11 L11 X11 hQ11 => ?_)
  obtain ⟨rfl, Nq11, hh11⟩ := hQ11
  have N11 := Fr.app N0 Nq11
  show OwnOk p e below _ (T11.setTop (mkF m 4 #[.val (.ref a), .val (.ref u)] []))
  refine own_up (fun tx kx => XS.aloadN X11.here hx rfl (hb hby d7_4) rfl rfl kx) ?_
  show OwnOk p e below _ (T11.setTop (mkF m 5 #[.val (.ref a), .val (.ref u)] [(.ref a)]))
  refine own_up (fun tx kx => XS.aloadN X11.here hx rfl (hb hby d7_5) rfl rfl kx) ?_
  show OwnOk p e below _ (T11.setTop (mkF m 6 #[.val (.ref a), .val (.ref u)] [(.ref u), (.ref a)]))
  obtain ⟨T12, h12, X12, e12, W12, st12⟩ := putF X11 hx hZ hown (host := "") (Or.inl (wd_45 hw)) Via.refl hh11 F_object_a E_a (Or.inr ⟨(wd_46 hw), rfl, hnm⟩) (wd_34 hw) (ty := (.object "java/lang/Object")) (by decide) rfl rfl (g := (mkF m 6 #[.val (.ref a), .val (.ref u)] [(.ref u), (.ref a)])) rfl rfl (hb hby d7_6)
  have Fw12 := Fld.same W12 F_object_a
  have N12 := Fr.snoc X12 N11 n0_a
  have OL13 := OL.wr W12 n0_a
  have KP13 := KP0.wr W12 (Or.inl (List.mem_of_getElem? (i := 0) rfl))
  refine own_up st12 ?_
  show OwnOk p e below _ (T12.setTop (mkF m 9 #[.val (.ref a), .val (.ref u)] []))
  have E_a_14 := (E_a.wr W12)
  refine own_retV X12 hx (show meth.sig.returnType = none from hret) hlk (hb hby d7_9) e12 (Nat.le_of_ble_eq_true rfl) (Nat.le_of_ble_eq_true rfl) ?_
  exact ⟨rfl, N12, KP13, E_a_14, Fw12⟩
def Q_rm9n (h0 : Heap) (n0 : Nat) (v : Option Value) (h : Heap) (L : List Loc) : Prop := v = some (.int 0) ∧ Fr n0 L ∧ h = h0
set_option maxRecDepth 65536 in
set_option maxHeartbeats 40000000 in
theorem rm9n (l : Launch) (Z : State) (a0 : Array Value) (hw : ∀ d ∈ tables_1, d.before a0 Z = true) (a : Addr) (h0 : Heap) (n0 : Nat) (OL : Old Z n0 h0)  :
    own_Met l Z (⟨"com/example/kwery/kwery/Comparisons$Identity", "equals", "(Ljava/lang/Object;)Z"⟩ : MethodName) prog_78_method_2_code 3 (some .boolean) ({ frames := 0, cells := 0, slots := 0, locals := 0 } : Room) #[(.ref a), .null] h0 (Q_rm9n h0 n0) := by
  refine own_body (L0 := #[.val (.ref a), .val .null, .unset]) (plainFor_of_name (by first | (simp [plainName, overriddenIn]; done) | decide +kernel)) (fun m => by first | (simp [entryFrame, mkF, argsToLocals, Value.category]; done) | rfl) ?_
  intro p e s m below meth c s₁ hx hby hml hZ hown hnm hret hlk X0 e0
  have N0 := Fr.nil n0
  have Z0 : n0 ≤ h0.size := OL.1 ▸ OL.2.1
  show OwnOk p e below _ (s₁.setTop (mkF m 0 #[.val (.ref a), .val .null, .unset] []))
  refine own_up (fun tx kx => XS.aloadN X0.here hx rfl (hb hby d9_0) rfl rfl kx) ?_
  show OwnOk p e below _ (s₁.setTop (mkF m 1 #[.val (.ref a), .val .null, .unset] [.null]))
  refine own_up (fun tx kx => X0.instanceofNull hx (g := (mkF m 1 #[.val (.ref a), .val .null, .unset] [.null])) rfl rfl (hb hby d9_1) _ kx) ?_
  show OwnOk p e below _ (s₁.setTop (mkF m 4 #[.val (.ref a), .val .null, .unset] [(.int (0 : Int32))]))
  refine own_up (fun tx kx => XS.ifYes X0.here hx rfl (pc0 := 4) (pc' := 27) rfl (hb hby d9_4) rfl ((if0 _ _).trans (teq rfl).1) (by decide) (by decide) kx) ?_
  show OwnOk p e below _ (s₁.setTop (mkF m 27 #[.val (.ref a), .val .null, .unset] []))
  refine own_up (fun tx kx => XS.iconst X0.here hx rfl (hb hby d9_27) kx) ?_
  show OwnOk p e below _ (s₁.setTop (mkF m 28 #[.val (.ref a), .val .null, .unset] [(.int (0 : Int32))]))
  refine own_retN X0 hx (t := .boolean) (show meth.sig.returnType = some .boolean from hret) (by simp) hlk (hb hby d9_28) (z' := (0 : Int32)) rfl e0 (Nat.le_of_ble_eq_true rfl) (Nat.le_of_ble_eq_true rfl) ?_
  exact ⟨rfl, N0, rfl⟩
def Q_rm9s (h0 : Heap) (n0 : Nat) (v : Option Value) (h : Heap) (L : List Loc) : Prop := v = some (.int 0) ∧ Fr n0 L ∧ h = h0
set_option maxRecDepth 65536 in
set_option maxHeartbeats 40000000 in
theorem rm9s (l : Launch) (Z : State) (a0 : Array Value) (hw : ∀ d ∈ tables_1, d.before a0 Z = true) (a b : Addr) (h0 : Heap) (n0 : Nat) (OL : Old Z n0 h0) (Eb : Exa Z h0 b "java/lang/String") :
    own_Met l Z (⟨"com/example/kwery/kwery/Comparisons$Identity", "equals", "(Ljava/lang/Object;)Z"⟩ : MethodName) prog_78_method_2_code 3 (some .boolean) ({ frames := 0, cells := 0, slots := 0, locals := 0 } : Room) #[(.ref a), (.ref b)] h0 (Q_rm9s h0 n0) := by
  refine own_body (L0 := #[.val (.ref a), .val (.ref b), .unset]) (plainFor_of_name (by first | (simp [plainName, overriddenIn]; done) | decide +kernel)) (fun m => by first | (simp [entryFrame, mkF, argsToLocals, Value.category]; done) | rfl) ?_
  intro p e s m below meth c s₁ hx hby hml hZ hown hnm hret hlk X0 e0
  have N0 := Fr.nil n0
  have Z0 : n0 ≤ h0.size := OL.1 ▸ OL.2.1
  show OwnOk p e below _ (s₁.setTop (mkF m 0 #[.val (.ref a), .val (.ref b), .unset] []))
  refine own_up (fun tx kx => XS.aloadN X0.here hx rfl (hb hby d9_0) rfl rfl kx) ?_
  show OwnOk p e below _ (s₁.setTop (mkF m 1 #[.val (.ref a), .val (.ref b), .unset] [(.ref b)]))
  obtain ⟨T11, X11, e11, st11⟩ := instNo X0 hx hZ hown (wd_52 hw) e0 Eb (own_no (wd_54 hw) (wd_55 hw) (wd_34 hw) (by decide) (by decide)) (g := (mkF m 1 #[.val (.ref a), .val (.ref b), .unset] [(.ref b)])) rfl rfl (hb hby d9_1)
  refine own_up st11 ?_
  show OwnOk p e below _ (T11.setTop (mkF m 4 #[.val (.ref a), .val (.ref b), .unset] [(.int (0 : Int32))]))
  refine own_up (fun tx kx => XS.ifYes X11.here hx rfl (pc0 := 4) (pc' := 27) rfl (hb hby d9_4) rfl ((if0 _ _).trans (teq rfl).1) (by decide) (by decide) kx) ?_
  show OwnOk p e below _ (T11.setTop (mkF m 27 #[.val (.ref a), .val (.ref b), .unset] []))
  refine own_up (fun tx kx => XS.iconst X11.here hx rfl (hb hby d9_27) kx) ?_
  show OwnOk p e below _ (T11.setTop (mkF m 28 #[.val (.ref a), .val (.ref b), .unset] [(.int (0 : Int32))]))
  refine own_retN X11 hx (t := .boolean) (show meth.sig.returnType = some .boolean from hret) (by simp) hlk (hb hby d9_28) (z' := (0 : Int32)) rfl e11 (Nat.le_of_ble_eq_true rfl) (Nat.le_of_ble_eq_true rfl) ?_
  exact ⟨rfl, N0, rfl⟩
def Q_rm9i (va vb : Value) (h0 : Heap) (n0 : Nat) (v : Option Value) (h : Heap) (L : List Loc) : Prop := v = some (.int (if vb = va then 1 else 0)) ∧ Fr n0 L ∧ h = h0
set_option maxRecDepth 65536 in
set_option maxHeartbeats 40000000 in
theorem rm9i (l : Launch) (Z : State) (a0 : Array Value) (hw : ∀ d ∈ tables_1, d.before a0 Z = true) (a b : Addr) (va vb : Value) (h0 : Heap) (n0 : Nat) (OL : Old Z n0 h0) (Eb : Exa Z h0 b "com/example/kwery/kwery/Comparisons$Identity") (Fb : Fld Z h0 b "com/example/kwery/kwery/Comparisons$Identity" "object" "Ljava/lang/Object;" vb) (Fa : Fld Z h0 a "com/example/kwery/kwery/Comparisons$Identity" "object" "Ljava/lang/Object;" va) (rb : vb.isRef = true) (ra : va.isRef = true) :
    own_Met l Z (⟨"com/example/kwery/kwery/Comparisons$Identity", "equals", "(Ljava/lang/Object;)Z"⟩ : MethodName) prog_78_method_2_code 3 (some .boolean) ({ frames := 0, cells := 0, slots := 0, locals := 0 } : Room) #[(.ref a), (.ref b)] h0 (Q_rm9i va vb h0 n0) := by
  refine own_body (L0 := #[.val (.ref a), .val (.ref b), .unset]) (plainFor_of_name (by first | (simp [plainName, overriddenIn]; done) | decide +kernel)) (fun m => by first | (simp [entryFrame, mkF, argsToLocals, Value.category]; done) | rfl) ?_
  intro p e s m below meth c s₁ hx hby hml hZ hown hnm hret hlk X0 e0
  have N0 := Fr.nil n0
  have Z0 : n0 ≤ h0.size := OL.1 ▸ OL.2.1
  show OwnOk p e below _ (s₁.setTop (mkF m 0 #[.val (.ref a), .val (.ref b), .unset] []))
  refine own_up (fun tx kx => XS.aloadN X0.here hx rfl (hb hby d9_0) rfl rfl kx) ?_
  show OwnOk p e below _ (s₁.setTop (mkF m 1 #[.val (.ref a), .val (.ref b), .unset] [(.ref b)]))
  obtain ⟨T11, X11, e11, st11⟩ := instY X0 hx hZ hown (wd_52 hw) e0 (Ins.self Eb) (g := (mkF m 1 #[.val (.ref a), .val (.ref b), .unset] [(.ref b)])) rfl rfl (hb hby d9_1)
  refine own_up st11 ?_
  show OwnOk p e below _ (T11.setTop (mkF m 4 #[.val (.ref a), .val (.ref b), .unset] [(.int (1 : Int32))]))
  refine own_up (fun tx kx => XS.ifNo X11.here hx rfl (hb hby d9_4) rfl ((if0 _ _).trans (feq (by decide)).1) kx) ?_
  show OwnOk p e below _ (T11.setTop (mkF m 7 #[.val (.ref a), .val (.ref b), .unset] []))
  refine own_up (fun tx kx => XS.aloadN X11.here hx rfl (hb hby d9_7) rfl rfl kx) ?_
  show OwnOk p e below _ (T11.setTop (mkF m 8 #[.val (.ref a), .val (.ref b), .unset] [(.ref b)]))
  obtain ⟨T12, X12, e12, st12⟩ := castY X11 hx hZ hown (wd_52 hw) e11 (Ins.self Eb) (g := (mkF m 8 #[.val (.ref a), .val (.ref b), .unset] [(.ref b)])) rfl rfl (hb hby d9_8)
  refine own_up st12 ?_
  show OwnOk p e below _ (T12.setTop (mkF m 11 #[.val (.ref a), .val (.ref b), .unset] [(.ref b)]))
  refine own_up (fun tx kx => XS.astoreN X12.here hx rfl (hb hby d9_11) rfl rfl (l' := #[.val (.ref a), .val (.ref b), .val (.ref b)]) rfl kx) ?_
  show OwnOk p e below _ (T12.setTop (mkF m 12 #[.val (.ref a), .val (.ref b), .val (.ref b)] []))
  refine own_up (fun tx kx => XS.aloadN X12.here hx rfl (hb hby d9_12) rfl rfl kx) ?_
  show OwnOk p e below _ (T12.setTop (mkF m 13 #[.val (.ref a), .val (.ref b), .val (.ref b)] [(.ref b)]))
  obtain ⟨T13, X13, e13, st13⟩ := getF X12 hx hZ hown (host := "") (Or.inl (wd_45 hw)) Via.refl e12 Fb (g := (mkF m 13 #[.val (.ref a), .val (.ref b), .val (.ref b)] [(.ref b)])) rfl rfl (hb hby d9_13)
  refine own_up st13 ?_
  show OwnOk p e below _ (T13.setTop (mkF m 16 #[.val (.ref a), .val (.ref b), .val (.ref b)] [vb]))
  refine own_up (fun tx kx => XS.aloadN X13.here hx rfl (hb hby d9_16) rfl rfl kx) ?_
  show OwnOk p e below _ (T13.setTop (mkF m 17 #[.val (.ref a), .val (.ref b), .val (.ref b)] [(.ref a), vb]))
  obtain ⟨T14, X14, e14, st14⟩ := getF X13 hx hZ hown (host := "") (Or.inl (wd_45 hw)) Via.refl e13 Fa (g := (mkF m 17 #[.val (.ref a), .val (.ref b), .val (.ref b)] [(.ref a), vb])) rfl rfl (hb hby d9_17)
  refine own_up st14 ?_
  show OwnOk p e below _ (T14.setTop (mkF m 20 #[.val (.ref a), .val (.ref b), .val (.ref b)] [va, vb]))
  by_cases hk : vb = va
  · refine own_up (fun tx kx => Jvm.RoadKit.acmp (g := (mkF m 20 #[.val (.ref a), .val (.ref b), .val (.ref b)] [va, vb])) X14 hx rfl rb ra (pc0 := 20) (pc' := 23) (same := true) rfl (hb hby d9_20) rfl (decide_eq_true (hk)) (by decide) (by decide) kx) ?_
    show OwnOk p e below _ (T14.setTop (mkF m 23 #[.val (.ref a), .val (.ref b), .val (.ref b)] []))
    refine own_up (fun tx kx => XS.iconst X14.here hx rfl (hb hby d9_23) kx) ?_
    show OwnOk p e below _ (T14.setTop (mkF m 24 #[.val (.ref a), .val (.ref b), .val (.ref b)] [(.int (1 : Int32))]))
    refine own_up (fun tx kx => XS.goto X14.here hx rfl (pc0 := 24) (pc' := 28) rfl (hb hby d9_24) (by decide) (by decide) kx) ?_
    show OwnOk p e below _ (T14.setTop (mkF m 28 #[.val (.ref a), .val (.ref b), .val (.ref b)] [(.int (1 : Int32))]))
    refine own_retN X14 hx (t := .boolean) (show meth.sig.returnType = some .boolean from hret) (by simp) hlk (hb hby d9_28) (z' := (1 : Int32)) rfl e14 (Nat.le_of_ble_eq_true rfl) (Nat.le_of_ble_eq_true rfl) ?_
    exact ⟨by rw [if_pos hk], N0, rfl⟩
  · refine own_up (fun tx kx => Jvm.RoadKit.acmp (g := (mkF m 20 #[.val (.ref a), .val (.ref b), .val (.ref b)] [va, vb])) X14 hx rfl rb ra (pc0 := 20) (pc' := 27) (same := false) rfl (hb hby d9_20) rfl (decide_eq_false (hk)) (by decide) (by decide) kx) ?_
    show OwnOk p e below _ (T14.setTop (mkF m 27 #[.val (.ref a), .val (.ref b), .val (.ref b)] []))
    refine own_up (fun tx kx => XS.iconst X14.here hx rfl (hb hby d9_27) kx) ?_
    show OwnOk p e below _ (T14.setTop (mkF m 28 #[.val (.ref a), .val (.ref b), .val (.ref b)] [(.int (0 : Int32))]))
    refine own_retN X14 hx (t := .boolean) (show meth.sig.returnType = some .boolean from hret) (by simp) hlk (hb hby d9_28) (z' := (0 : Int32)) rfl e14 (Nat.le_of_ble_eq_true rfl) (Nat.le_of_ble_eq_true rfl) ?_
    exact ⟨by rw [if_neg hk], N0, rfl⟩
def Q_rm0 (n0 : Nat) (v : Option Value) (h : Heap) (L : List Loc) : Prop := v = some (.int 1) ∧ Fr n0 L
set_option maxRecDepth 65536 in
set_option maxHeartbeats 40000000 in
theorem rm0 (l : Launch) (Z : State) (a0 : Array Value) (hw : ∀ d ∈ tables_1, d.before a0 Z = true) (p1 p2 p3 cz : Int32) (h0 : Heap) (n0 : Nat) (OL : Old Z n0 h0) (SC : Sta Z Z.heap "java/lang/String" "COMPACT_STRINGS" "Z" (.int cz)) (hcz : ¬ cz = 0) :
    own_Met l Z x code maxLocals ret room_1 #[(.int p1), (.int p2), (.int p3)] h0 (Q_rm0 n0) := by
  refine own_body (L0 := #[.val (.int p1), .val (.int p2), .val (.int p3), .unset, .unset, .unset, .unset, .unset, .unset, .unset, .unset, .unset]) (plainFor_of_name (by first | (simp [plainName, overriddenIn]; done) | decide +kernel)) (fun m => by first | (simp [entryFrame, mkF, argsToLocals, Value.category, maxLocals]; done) | rfl) ?_
  intro p e s m below meth c s₁ hx hby hml hZ hown hnm hret hlk X0 e0
  have hml : c.maxLocals = 12 := hml
  have N0 := Fr.nil n0
  have Z0 : n0 ≤ h0.size := OL.1 ▸ OL.2.1
  show OwnOk p e below _ (s₁.setTop (mkF m 0 #[.val (.int p1), .val (.int p2), .val (.int p3), .unset, .unset, .unset, .unset, .unset, .unset, .unset, .unset, .unset] []))
  have hws : ∀ d ∈ StrChars.Road.words, d.before a0 Z = true := fun d hd => hw d ((by decide +kernel : ∀ d ∈ StrChars.Road.words, d ∈ tables_1) d hd)
  refine own_up (fun tx kx => XS.iconst X0.here hx rfl (hb hby at_0) kx) ?_
  show OwnOk p e below _ (s₁.setTop (mkF m 1 #[.val (.int p1), .val (.int p2), .val (.int p3), .unset, .unset, .unset, .unset, .unset, .unset, .unset, .unset, .unset] [(.int (2 : Int32))]))
  obtain ⟨T11, h11, k11, X11, e11, E11, A11, st11⟩ := newP (aty := .char) X0 hx hZ (wd_0 hw) e0 (g := (mkF m 1 #[.val (.int p1), .val (.int p2), .val (.int p3), .unset, .unset, .unset, .unset, .unset, .unset, .unset, .unset, .unset] [(.int (2 : Int32))])) rfl (hb hby at_1) rfl (by decide) (cap := 2) (by decide) (by decide) (by decide) (by decide)
  obtain ⟨b11, g11⟩ : ∃ z, z = h0.size := ⟨_, rfl⟩
  rw [← g11] at A11 st11
  have sz_b11 : h0.size ≤ b11 := Nat.le_of_eq g11.symm
  have n0_b11 : n0 ≤ b11 := Nat.le_trans (own_n0 OL) sz_b11
  have V_b11 : Arv Z h11 b11 k11 .char (2 : Int32) [(.int (0 : Int32)), (.int (0 : Int32))] (.int (0 : Int32)) := (Arv.new A11 (by decide)).pad (pad_rep [] (.int (0 : Int32)) 2)
  have OL13 := OL.ext E11
  refine own_up st11 ?_
  show OwnOk p e below _ (T11.setTop (mkF m 3 #[.val (.int p1), .val (.int p2), .val (.int p3), .unset, .unset, .unset, .unset, .unset, .unset, .unset, .unset, .unset] [(.ref b11)]))
  refine own_up (fun tx kx => XS.dup X11.here hx rfl (hb hby at_3) rfl rfl kx) ?_
  show OwnOk p e below _ (T11.setTop (mkF m 4 #[.val (.int p1), .val (.int p2), .val (.int p3), .unset, .unset, .unset, .unset, .unset, .unset, .unset, .unset, .unset] [(.ref b11), (.ref b11)]))
  refine own_up (fun tx kx => XS.iconst X11.here hx rfl (hb hby at_4) kx) ?_
  show OwnOk p e below _ (T11.setTop (mkF m 5 #[.val (.int p1), .val (.int p2), .val (.int p3), .unset, .unset, .unset, .unset, .unset, .unset, .unset, .unset, .unset] [(.int (0 : Int32)), (.ref b11), (.ref b11)]))
  refine own_up (fun tx kx => XS.iloadN X11.here hx rfl (hb hby at_5) rfl kx) ?_
  show OwnOk p e below _ (T11.setTop (mkF m 6 #[.val (.int p1), .val (.int p2), .val (.int p3), .unset, .unset, .unset, .unset, .unset, .unset, .unset, .unset, .unset] [(.int p1), (.int (0 : Int32)), (.ref b11), (.ref b11)]))
  refine own_up (fun tx kx => XS.sipush X11.here hx rfl (hb hby at_6) kx) ?_
  show OwnOk p e below _ (T11.setTop (mkF m 9 #[.val (.int p1), .val (.int p2), .val (.int p3), .unset, .unset, .unset, .unset, .unset, .unset, .unset, .unset, .unset] [(.int (255 : Int32)), (.int p1), (.int (0 : Int32)), (.ref b11), (.ref b11)]))
  refine own_up (fun tx kx => XS.iand X11.here hx rfl (hb hby at_9) rfl kx) ?_
  show OwnOk p e below _ (T11.setTop (mkF m 10 #[.val (.int p1), .val (.int p2), .val (.int p3), .unset, .unset, .unset, .unset, .unset, .unset, .unset, .unset, .unset] [(.int (p1 &&& (255 : Int32))), (.int (0 : Int32)), (.ref b11), (.ref b11)]))
  refine own_up (fun tx kx => XS.i2c X11.here hx rfl (hb hby at_10) rfl kx) ?_
  show OwnOk p e below _ (T11.setTop (mkF m 11 #[.val (.int p1), .val (.int p2), .val (.int p3), .unset, .unset, .unset, .unset, .unset, .unset, .unset, .unset, .unset] [(.int ((p1 &&& (255 : Int32)).toUInt32.toUInt16.toUInt32.toInt32)), (.int (0 : Int32)), (.ref b11), (.ref b11)]))
  obtain ⟨cl14, Ar14, qc14, Sz14, Nn14, Hs14, Gf14⟩ := id V_b11
  have hin14 : ¬ ((0 : Int32) < 0 ∨ cl14.slots.size ≤ ((0 : Int32)).toNatClampNeg) := inb_of Sz14 ⟨by decide, by decide⟩
  obtain ⟨T15, h15, X15, e15, W15, st15⟩ := stC X11 hx hZ e11 Ar14 (j := (0 : Int32)) hin14 (g := (mkF m 11 #[.val (.int p1), .val (.int p2), .val (.int p3), .unset, .unset, .unset, .unset, .unset, .unset, .unset, .unset, .unset] [(.int ((p1 &&& (255 : Int32)).toUInt32.toUInt16.toUInt32.toInt32)), (.int (0 : Int32)), (.ref b11), (.ref b11)])) rfl rfl (hb hby at_11)
  have V_b11_15 : Arv Z h15 b11 k11 .char (2 : Int32) [(.int (nar .char ((p1 &&& (255 : Int32)).toUInt32.toUInt16.toUInt32.toInt32))), (.int (0 : Int32))] (.int (0 : Int32)) := Arv.set Ar14 qc14 Sz14 Nn14 Hs14 Gf14 (fits_nar_char _) W15 0 rfl (Nat.le_of_ble_eq_true rfl)
  have N15 := Fr.snoc X15 N0 n0_b11
  have OL16 := OL13.wr W15 n0_b11
  refine own_up st15 ?_
  show OwnOk p e below _ (T15.setTop (mkF m 12 #[.val (.int p1), .val (.int p2), .val (.int p3), .unset, .unset, .unset, .unset, .unset, .unset, .unset, .unset, .unset] [(.ref b11)]))
  refine own_up (fun tx kx => XS.dup X15.here hx rfl (hb hby at_12) rfl rfl kx) ?_
  show OwnOk p e below _ (T15.setTop (mkF m 13 #[.val (.int p1), .val (.int p2), .val (.int p3), .unset, .unset, .unset, .unset, .unset, .unset, .unset, .unset, .unset] [(.ref b11), (.ref b11)]))
  refine own_up (fun tx kx => XS.iconst X15.here hx rfl (hb hby at_13) kx) ?_
  show OwnOk p e below _ (T15.setTop (mkF m 14 #[.val (.int p1), .val (.int p2), .val (.int p3), .unset, .unset, .unset, .unset, .unset, .unset, .unset, .unset, .unset] [(.int (1 : Int32)), (.ref b11), (.ref b11)]))
  refine own_up (fun tx kx => XS.iloadN X15.here hx rfl (hb hby at_14) rfl kx) ?_
  show OwnOk p e below _ (T15.setTop (mkF m 15 #[.val (.int p1), .val (.int p2), .val (.int p3), .unset, .unset, .unset, .unset, .unset, .unset, .unset, .unset, .unset] [(.int p1), (.int (1 : Int32)), (.ref b11), (.ref b11)]))
  refine own_up (fun tx kx => XS.bipush X15.here hx rfl (hb hby at_15) kx) ?_
  show OwnOk p e below _ (T15.setTop (mkF m 17 #[.val (.int p1), .val (.int p2), .val (.int p3), .unset, .unset, .unset, .unset, .unset, .unset, .unset, .unset, .unset] [(.int (8 : Int32)), (.int p1), (.int (1 : Int32)), (.ref b11), (.ref b11)]))
  refine own_up (fun tx kx => XS.iushr X15.here hx rfl (hb hby at_17) rfl kx) ?_
  show OwnOk p e below _ (T15.setTop (mkF m 18 #[.val (.int p1), .val (.int p2), .val (.int p3), .unset, .unset, .unset, .unset, .unset, .unset, .unset, .unset, .unset] [(.int ((p1.toUInt32 >>> ((8 : Int32) &&& 31).toUInt32).toInt32)), (.int (1 : Int32)), (.ref b11), (.ref b11)]))
  refine own_up (fun tx kx => XS.sipush X15.here hx rfl (hb hby at_18) kx) ?_
  show OwnOk p e below _ (T15.setTop (mkF m 21 #[.val (.int p1), .val (.int p2), .val (.int p3), .unset, .unset, .unset, .unset, .unset, .unset, .unset, .unset, .unset] [(.int (255 : Int32)), (.int ((p1.toUInt32 >>> ((8 : Int32) &&& 31).toUInt32).toInt32)), (.int (1 : Int32)), (.ref b11), (.ref b11)]))
  refine own_up (fun tx kx => XS.iand X15.here hx rfl (hb hby at_21) rfl kx) ?_
  show OwnOk p e below _ (T15.setTop (mkF m 22 #[.val (.int p1), .val (.int p2), .val (.int p3), .unset, .unset, .unset, .unset, .unset, .unset, .unset, .unset, .unset] [(.int (((p1.toUInt32 >>> ((8 : Int32) &&& 31).toUInt32).toInt32) &&& (255 : Int32))), (.int (1 : Int32)), (.ref b11), (.ref b11)]))
  refine own_up (fun tx kx => XS.i2c X15.here hx rfl (hb hby at_22) rfl kx) ?_
  show OwnOk p e below _ (T15.setTop (mkF m 23 #[.val (.int p1), .val (.int p2), .val (.int p3), .unset, .unset, .unset, .unset, .unset, .unset, .unset, .unset, .unset] [(.int ((((p1.toUInt32 >>> ((8 : Int32) &&& 31).toUInt32).toInt32) &&& (255 : Int32)).toUInt32.toUInt16.toUInt32.toInt32)), (.int (1 : Int32)), (.ref b11), (.ref b11)]))
  obtain ⟨cl17, Ar17, qc17, Sz17, Nn17, Hs17, Gf17⟩ := id V_b11_15
  have hin17 : ¬ ((1 : Int32) < 0 ∨ cl17.slots.size ≤ ((1 : Int32)).toNatClampNeg) := inb_of Sz17 ⟨by decide, by decide⟩
  obtain ⟨T18, h18, X18, e18, W18, st18⟩ := stC X15 hx hZ e15 Ar17 (j := (1 : Int32)) hin17 (g := (mkF m 23 #[.val (.int p1), .val (.int p2), .val (.int p3), .unset, .unset, .unset, .unset, .unset, .unset, .unset, .unset, .unset] [(.int ((((p1.toUInt32 >>> ((8 : Int32) &&& 31).toUInt32).toInt32) &&& (255 : Int32)).toUInt32.toUInt16.toUInt32.toInt32)), (.int (1 : Int32)), (.ref b11), (.ref b11)])) rfl rfl (hb hby at_23)
  have V_b11_18 : Arv Z h18 b11 k11 .char (2 : Int32) [(.int (nar .char ((p1 &&& (255 : Int32)).toUInt32.toUInt16.toUInt32.toInt32))), (.int (nar .char ((((p1.toUInt32 >>> ((8 : Int32) &&& 31).toUInt32).toInt32) &&& (255 : Int32)).toUInt32.toUInt16.toUInt32.toInt32)))] (.int (0 : Int32)) := Arv.set Ar17 qc17 Sz17 Nn17 Hs17 Gf17 (fits_nar_char _) W18 1 rfl (Nat.le_of_ble_eq_true rfl)
  have N18 := Fr.snoc X18 N15 n0_b11
  have OL19 := OL16.wr W18 n0_b11
  refine own_up st18 ?_
  show OwnOk p e below _ (T18.setTop (mkF m 24 #[.val (.int p1), .val (.int p2), .val (.int p3), .unset, .unset, .unset, .unset, .unset, .unset, .unset, .unset, .unset] [(.ref b11)]))
  refine own_up (fun tx kx => XS.astoreN X18.here hx rfl (hb hby at_24) rfl rfl (l' := #[.val (.int p1), .val (.int p2), .val (.int p3), .val (.ref b11), .unset, .unset, .unset, .unset, .unset, .unset, .unset, .unset]) rfl kx) ?_
  show OwnOk p e below _ (T18.setTop (mkF m 25 #[.val (.int p1), .val (.int p2), .val (.int p3), .val (.ref b11), .unset, .unset, .unset, .unset, .unset, .unset, .unset, .unset] []))
  refine own_up (fun tx kx => XS.iconst X18.here hx rfl (hb hby at_25) kx) ?_
  show OwnOk p e below _ (T18.setTop (mkF m 26 #[.val (.int p1), .val (.int p2), .val (.int p3), .val (.ref b11), .unset, .unset, .unset, .unset, .unset, .unset, .unset, .unset] [(.int (2 : Int32))]))
  obtain ⟨T20, h20, k20, X20, e20, E20, A20, st20⟩ := newP (aty := .char) X18 hx hZ (wd_0 hw) e18 (g := (mkF m 26 #[.val (.int p1), .val (.int p2), .val (.int p3), .val (.ref b11), .unset, .unset, .unset, .unset, .unset, .unset, .unset, .unset] [(.int (2 : Int32))])) rfl (hb hby at_26) rfl (by decide) (cap := 2) (by decide) (by decide) (by decide) (by decide)
  obtain ⟨b20, g20⟩ : ∃ z, z = h18.size := ⟨_, rfl⟩
  rw [← g20] at A20 st20
  have sz_b20 : h18.size ≤ b20 := Nat.le_of_eq g20.symm
  have lt_b11_b20 : b11 < b20 := Nat.lt_of_lt_of_le V_b11_18.lt sz_b20
  have n0_b20 : n0 ≤ b20 := Nat.le_trans (own_n0 OL19) sz_b20
  have V_b20 : Arv Z h20 b20 k20 .char (2 : Int32) [(.int (0 : Int32)), (.int (0 : Int32))] (.int (0 : Int32)) := (Arv.new A20 (by decide)).pad (pad_rep [] (.int (0 : Int32)) 2)
  have OL22 := OL19.ext E20
  refine own_up st20 ?_
  show OwnOk p e below _ (T20.setTop (mkF m 28 #[.val (.int p1), .val (.int p2), .val (.int p3), .val (.ref b11), .unset, .unset, .unset, .unset, .unset, .unset, .unset, .unset] [(.ref b20)]))
  refine own_up (fun tx kx => XS.dup X20.here hx rfl (hb hby at_28) rfl rfl kx) ?_
  show OwnOk p e below _ (T20.setTop (mkF m 29 #[.val (.int p1), .val (.int p2), .val (.int p3), .val (.ref b11), .unset, .unset, .unset, .unset, .unset, .unset, .unset, .unset] [(.ref b20), (.ref b20)]))
  refine own_up (fun tx kx => XS.iconst X20.here hx rfl (hb hby at_29) kx) ?_
  show OwnOk p e below _ (T20.setTop (mkF m 30 #[.val (.int p1), .val (.int p2), .val (.int p3), .val (.ref b11), .unset, .unset, .unset, .unset, .unset, .unset, .unset, .unset] [(.int (0 : Int32)), (.ref b20), (.ref b20)]))
  refine own_up (fun tx kx => XS.iloadN X20.here hx rfl (hb hby at_30) rfl kx) ?_
  show OwnOk p e below _ (T20.setTop (mkF m 31 #[.val (.int p1), .val (.int p2), .val (.int p3), .val (.ref b11), .unset, .unset, .unset, .unset, .unset, .unset, .unset, .unset] [(.int p2), (.int (0 : Int32)), (.ref b20), (.ref b20)]))
  refine own_up (fun tx kx => XS.sipush X20.here hx rfl (hb hby at_31) kx) ?_
  show OwnOk p e below _ (T20.setTop (mkF m 34 #[.val (.int p1), .val (.int p2), .val (.int p3), .val (.ref b11), .unset, .unset, .unset, .unset, .unset, .unset, .unset, .unset] [(.int (255 : Int32)), (.int p2), (.int (0 : Int32)), (.ref b20), (.ref b20)]))
  refine own_up (fun tx kx => XS.iand X20.here hx rfl (hb hby at_34) rfl kx) ?_
  show OwnOk p e below _ (T20.setTop (mkF m 35 #[.val (.int p1), .val (.int p2), .val (.int p3), .val (.ref b11), .unset, .unset, .unset, .unset, .unset, .unset, .unset, .unset] [(.int (p2 &&& (255 : Int32))), (.int (0 : Int32)), (.ref b20), (.ref b20)]))
  refine own_up (fun tx kx => XS.i2c X20.here hx rfl (hb hby at_35) rfl kx) ?_
  show OwnOk p e below _ (T20.setTop (mkF m 36 #[.val (.int p1), .val (.int p2), .val (.int p3), .val (.ref b11), .unset, .unset, .unset, .unset, .unset, .unset, .unset, .unset] [(.int ((p2 &&& (255 : Int32)).toUInt32.toUInt16.toUInt32.toInt32)), (.int (0 : Int32)), (.ref b20), (.ref b20)]))
  obtain ⟨cl23, Ar23, qc23, Sz23, Nn23, Hs23, Gf23⟩ := id V_b20
  have hin23 : ¬ ((0 : Int32) < 0 ∨ cl23.slots.size ≤ ((0 : Int32)).toNatClampNeg) := inb_of Sz23 ⟨by decide, by decide⟩
  obtain ⟨T24, h24, X24, e24, W24, st24⟩ := stC X20 hx hZ e20 Ar23 (j := (0 : Int32)) hin23 (g := (mkF m 36 #[.val (.int p1), .val (.int p2), .val (.int p3), .val (.ref b11), .unset, .unset, .unset, .unset, .unset, .unset, .unset, .unset] [(.int ((p2 &&& (255 : Int32)).toUInt32.toUInt16.toUInt32.toInt32)), (.int (0 : Int32)), (.ref b20), (.ref b20)])) rfl rfl (hb hby at_36)
  have V_b20_24 : Arv Z h24 b20 k20 .char (2 : Int32) [(.int (nar .char ((p2 &&& (255 : Int32)).toUInt32.toUInt16.toUInt32.toInt32))), (.int (0 : Int32))] (.int (0 : Int32)) := Arv.set Ar23 qc23 Sz23 Nn23 Hs23 Gf23 (fits_nar_char _) W24 0 rfl (Nat.le_of_ble_eq_true rfl)
  have N24 := Fr.snoc X24 N18 n0_b20
  have OL25 := OL22.wr W24 n0_b20
  refine own_up st24 ?_
  show OwnOk p e below _ (T24.setTop (mkF m 37 #[.val (.int p1), .val (.int p2), .val (.int p3), .val (.ref b11), .unset, .unset, .unset, .unset, .unset, .unset, .unset, .unset] [(.ref b20)]))
  refine own_up (fun tx kx => XS.dup X24.here hx rfl (hb hby at_37) rfl rfl kx) ?_
  show OwnOk p e below _ (T24.setTop (mkF m 38 #[.val (.int p1), .val (.int p2), .val (.int p3), .val (.ref b11), .unset, .unset, .unset, .unset, .unset, .unset, .unset, .unset] [(.ref b20), (.ref b20)]))
  refine own_up (fun tx kx => XS.iconst X24.here hx rfl (hb hby at_38) kx) ?_
  show OwnOk p e below _ (T24.setTop (mkF m 39 #[.val (.int p1), .val (.int p2), .val (.int p3), .val (.ref b11), .unset, .unset, .unset, .unset, .unset, .unset, .unset, .unset] [(.int (1 : Int32)), (.ref b20), (.ref b20)]))
  refine own_up (fun tx kx => XS.iloadN X24.here hx rfl (hb hby at_39) rfl kx) ?_
  show OwnOk p e below _ (T24.setTop (mkF m 40 #[.val (.int p1), .val (.int p2), .val (.int p3), .val (.ref b11), .unset, .unset, .unset, .unset, .unset, .unset, .unset, .unset] [(.int p2), (.int (1 : Int32)), (.ref b20), (.ref b20)]))
  refine own_up (fun tx kx => XS.bipush X24.here hx rfl (hb hby at_40) kx) ?_
  show OwnOk p e below _ (T24.setTop (mkF m 42 #[.val (.int p1), .val (.int p2), .val (.int p3), .val (.ref b11), .unset, .unset, .unset, .unset, .unset, .unset, .unset, .unset] [(.int (8 : Int32)), (.int p2), (.int (1 : Int32)), (.ref b20), (.ref b20)]))
  refine own_up (fun tx kx => XS.iushr X24.here hx rfl (hb hby at_42) rfl kx) ?_
  show OwnOk p e below _ (T24.setTop (mkF m 43 #[.val (.int p1), .val (.int p2), .val (.int p3), .val (.ref b11), .unset, .unset, .unset, .unset, .unset, .unset, .unset, .unset] [(.int ((p2.toUInt32 >>> ((8 : Int32) &&& 31).toUInt32).toInt32)), (.int (1 : Int32)), (.ref b20), (.ref b20)]))
  refine own_up (fun tx kx => XS.sipush X24.here hx rfl (hb hby at_43) kx) ?_
  show OwnOk p e below _ (T24.setTop (mkF m 46 #[.val (.int p1), .val (.int p2), .val (.int p3), .val (.ref b11), .unset, .unset, .unset, .unset, .unset, .unset, .unset, .unset] [(.int (255 : Int32)), (.int ((p2.toUInt32 >>> ((8 : Int32) &&& 31).toUInt32).toInt32)), (.int (1 : Int32)), (.ref b20), (.ref b20)]))
  refine own_up (fun tx kx => XS.iand X24.here hx rfl (hb hby at_46) rfl kx) ?_
  show OwnOk p e below _ (T24.setTop (mkF m 47 #[.val (.int p1), .val (.int p2), .val (.int p3), .val (.ref b11), .unset, .unset, .unset, .unset, .unset, .unset, .unset, .unset] [(.int (((p2.toUInt32 >>> ((8 : Int32) &&& 31).toUInt32).toInt32) &&& (255 : Int32))), (.int (1 : Int32)), (.ref b20), (.ref b20)]))
  refine own_up (fun tx kx => XS.i2c X24.here hx rfl (hb hby at_47) rfl kx) ?_
  show OwnOk p e below _ (T24.setTop (mkF m 48 #[.val (.int p1), .val (.int p2), .val (.int p3), .val (.ref b11), .unset, .unset, .unset, .unset, .unset, .unset, .unset, .unset] [(.int ((((p2.toUInt32 >>> ((8 : Int32) &&& 31).toUInt32).toInt32) &&& (255 : Int32)).toUInt32.toUInt16.toUInt32.toInt32)), (.int (1 : Int32)), (.ref b20), (.ref b20)]))
  obtain ⟨cl26, Ar26, qc26, Sz26, Nn26, Hs26, Gf26⟩ := id V_b20_24
  have hin26 : ¬ ((1 : Int32) < 0 ∨ cl26.slots.size ≤ ((1 : Int32)).toNatClampNeg) := inb_of Sz26 ⟨by decide, by decide⟩
  obtain ⟨T27, h27, X27, e27, W27, st27⟩ := stC X24 hx hZ e24 Ar26 (j := (1 : Int32)) hin26 (g := (mkF m 48 #[.val (.int p1), .val (.int p2), .val (.int p3), .val (.ref b11), .unset, .unset, .unset, .unset, .unset, .unset, .unset, .unset] [(.int ((((p2.toUInt32 >>> ((8 : Int32) &&& 31).toUInt32).toInt32) &&& (255 : Int32)).toUInt32.toUInt16.toUInt32.toInt32)), (.int (1 : Int32)), (.ref b20), (.ref b20)])) rfl rfl (hb hby at_48)
  have V_b20_27 : Arv Z h27 b20 k20 .char (2 : Int32) [(.int (nar .char ((p2 &&& (255 : Int32)).toUInt32.toUInt16.toUInt32.toInt32))), (.int (nar .char ((((p2.toUInt32 >>> ((8 : Int32) &&& 31).toUInt32).toInt32) &&& (255 : Int32)).toUInt32.toUInt16.toUInt32.toInt32)))] (.int (0 : Int32)) := Arv.set Ar26 qc26 Sz26 Nn26 Hs26 Gf26 (fits_nar_char _) W27 1 rfl (Nat.le_of_ble_eq_true rfl)
  have N27 := Fr.snoc X27 N24 n0_b20
  have OL28 := OL25.wr W27 n0_b20
  refine own_up st27 ?_
  show OwnOk p e below _ (T27.setTop (mkF m 49 #[.val (.int p1), .val (.int p2), .val (.int p3), .val (.ref b11), .unset, .unset, .unset, .unset, .unset, .unset, .unset, .unset] [(.ref b20)]))
  refine own_up (fun tx kx => XS.astore X27.here hx rfl (hb hby at_49) rfl rfl (l' := #[.val (.int p1), .val (.int p2), .val (.int p3), .val (.ref b11), .val (.ref b20), .unset, .unset, .unset, .unset, .unset, .unset, .unset]) rfl kx) ?_
  show OwnOk p e below _ (T27.setTop (mkF m 51 #[.val (.int p1), .val (.int p2), .val (.int p3), .val (.ref b11), .val (.ref b20), .unset, .unset, .unset, .unset, .unset, .unset, .unset] []))
  refine own_up (fun tx kx => XS.iconst X27.here hx rfl (hb hby at_51) kx) ?_
  show OwnOk p e below _ (T27.setTop (mkF m 52 #[.val (.int p1), .val (.int p2), .val (.int p3), .val (.ref b11), .val (.ref b20), .unset, .unset, .unset, .unset, .unset, .unset, .unset] [(.int (4 : Int32))]))
  obtain ⟨T29, h29, k29, X29, e29, E29, A29, O29, st29⟩ := newR X27 hx hZ hown (wd_1 hw) (wd_2 hw) e27 (g := (mkF m 52 #[.val (.int p1), .val (.int p2), .val (.int p3), .val (.ref b11), .val (.ref b20), .unset, .unset, .unset, .unset, .unset, .unset, .unset] [(.int (4 : Int32))])) rfl (hb hby at_52) rfl (by decide) (cap := 4) (by decide) (by decide) (by decide) (by decide)
  obtain ⟨b29, g29⟩ : ∃ z, z = h27.size := ⟨_, rfl⟩
  rw [← g29] at A29 st29
  have sz_b29 : h27.size ≤ b29 := Nat.le_of_eq g29.symm
  have V_b11_31 := (((V_b11_18.ext E20).other W24 (Nat.ne_of_lt lt_b11_b20)).other W27 (Nat.ne_of_lt lt_b11_b20))
  have lt_b11_b29 : b11 < b29 := Nat.lt_of_lt_of_le V_b11_31.lt sz_b29
  have lt_b20_b29 : b20 < b29 := Nat.lt_of_lt_of_le V_b20_27.lt sz_b29
  have n0_b29 : n0 ≤ b29 := Nat.le_trans (own_n0 OL28) sz_b29
  have V_b29 : Arv Z h29 b29 k29 (.object "java/lang/Object") (4 : Int32) [.null, .null, .null, .null] .null := (Arv.new A29 (by decide)).pad (pad_rep [] .null 4)
  have OL32 := OL28.ext E29
  refine own_up st29 ?_
  show OwnOk p e below _ (T29.setTop (mkF m 55 #[.val (.int p1), .val (.int p2), .val (.int p3), .val (.ref b11), .val (.ref b20), .unset, .unset, .unset, .unset, .unset, .unset, .unset] [(.ref b29)]))
  refine own_up (fun tx kx => XS.astore X29.here hx rfl (hb hby at_55) rfl rfl (l' := #[.val (.int p1), .val (.int p2), .val (.int p3), .val (.ref b11), .val (.ref b20), .val (.ref b29), .unset, .unset, .unset, .unset, .unset, .unset]) rfl kx) ?_
  show OwnOk p e below _ (T29.setTop (mkF m 57 #[.val (.int p1), .val (.int p2), .val (.int p3), .val (.ref b11), .val (.ref b20), .val (.ref b29), .unset, .unset, .unset, .unset, .unset, .unset] []))
  refine own_up (fun tx kx => XS.aload X29.here hx rfl (hb hby at_57) rfl rfl kx) ?_
  show OwnOk p e below _ (T29.setTop (mkF m 59 #[.val (.int p1), .val (.int p2), .val (.int p3), .val (.ref b11), .val (.ref b20), .val (.ref b29), .unset, .unset, .unset, .unset, .unset, .unset] [(.ref b29)]))
  refine own_up (fun tx kx => XS.iconst X29.here hx rfl (hb hby at_59) kx) ?_
  show OwnOk p e below _ (T29.setTop (mkF m 60 #[.val (.int p1), .val (.int p2), .val (.int p3), .val (.ref b11), .val (.ref b20), .val (.ref b29), .unset, .unset, .unset, .unset, .unset, .unset] [(.int (0 : Int32)), (.ref b29)]))
  refine own_up (fun tx kx => XS.aconstNull X29.here hx rfl (hb hby at_60) kx) ?_
  show OwnOk p e below _ (T29.setTop (mkF m 61 #[.val (.int p1), .val (.int p2), .val (.int p3), .val (.ref b11), .val (.ref b20), .val (.ref b29), .unset, .unset, .unset, .unset, .unset, .unset] [.null, (.int (0 : Int32)), (.ref b29)]))
  obtain ⟨cl33, Ar33, qc33, Sz33, Nn33, Hs33, Gf33⟩ := id V_b29
  have hin33 : ¬ ((0 : Int32) < 0 ∨ cl33.slots.size ≤ ((0 : Int32)).toNatClampNeg) := inb_of Sz33 ⟨by decide, by decide⟩
  obtain ⟨T34, h34, X34, e34, W34, st34⟩ := stR X29 hx hZ e29 Ar33 (j := (0 : Int32)) hin33 rfl (Or.inl rfl) (g := (mkF m 61 #[.val (.int p1), .val (.int p2), .val (.int p3), .val (.ref b11), .val (.ref b20), .val (.ref b29), .unset, .unset, .unset, .unset, .unset, .unset] [.null, (.int (0 : Int32)), (.ref b29)])) rfl rfl (hb hby at_61)
  have V_b29_34 : Arv Z h34 b29 k29 (.object "java/lang/Object") (4 : Int32) [.null, .null, .null, .null] .null := Arv.set Ar33 qc33 Sz33 Nn33 Hs33 Gf33 rfl W34 0 rfl (Nat.le_of_ble_eq_true rfl)
  have N34 := Fr.snoc X34 N27 n0_b29
  have OL35 := OL32.wr W34 n0_b29
  refine own_up st34 ?_
  show OwnOk p e below _ (T34.setTop (mkF m 62 #[.val (.int p1), .val (.int p2), .val (.int p3), .val (.ref b11), .val (.ref b20), .val (.ref b29), .unset, .unset, .unset, .unset, .unset, .unset] []))
  refine own_up (fun tx kx => XS.aload X34.here hx rfl (hb hby at_62) rfl rfl kx) ?_
  show OwnOk p e below _ (T34.setTop (mkF m 64 #[.val (.int p1), .val (.int p2), .val (.int p3), .val (.ref b11), .val (.ref b20), .val (.ref b29), .unset, .unset, .unset, .unset, .unset, .unset] [(.ref b29)]))
  refine own_up (fun tx kx => XS.iconst X34.here hx rfl (hb hby at_64) kx) ?_
  show OwnOk p e below _ (T34.setTop (mkF m 65 #[.val (.int p1), .val (.int p2), .val (.int p3), .val (.ref b11), .val (.ref b20), .val (.ref b29), .unset, .unset, .unset, .unset, .unset, .unset] [(.int (1 : Int32)), (.ref b29)]))
  obtain ⟨T36, h36, X36, e36, E36, A36, D36, -, st36⟩ := newO X34 hx hZ hown (wd_3 hw) (wd_4 hw) (wd_5 hw) e34 (g := (mkF m 65 #[.val (.int p1), .val (.int p2), .val (.int p3), .val (.ref b11), .val (.ref b20), .val (.ref b29), .unset, .unset, .unset, .unset, .unset, .unset] [(.int (1 : Int32)), (.ref b29)])) rfl (hb hby at_65) (by decide) (by decide)
  obtain ⟨b36, g36⟩ : ∃ z, z = h34.size := ⟨_, rfl⟩
  rw [← g36] at A36 D36 st36
  have sz_b36 : h34.size ≤ b36 := Nat.le_of_eq g36.symm
  have V_b11_38 := ((V_b11_31.ext E29).other W34 (Nat.ne_of_lt lt_b11_b29))
  have lt_b11_b36 : b11 < b36 := Nat.lt_of_lt_of_le V_b11_38.lt sz_b36
  have V_b20_39 := ((V_b20_27.ext E29).other W34 (Nat.ne_of_lt lt_b20_b29))
  have lt_b20_b36 : b20 < b36 := Nat.lt_of_lt_of_le V_b20_39.lt sz_b36
  have lt_b29_b36 : b29 < b36 := Nat.lt_of_lt_of_le V_b29_34.lt sz_b36
  have n0_b36 : n0 ≤ b36 := Nat.le_trans (own_n0 OL35) sz_b36
  have F_coder_b36 : Fld Z h36 b36 "java/lang/String" "coder" "B" (.int (0 : Int32)) := D36 (Or.inr (wd_29 hw)) (ty := .byte) (by decide)
  have F_value_b36 : Fld Z h36 b36 "java/lang/String" "value" "[B" .null := D36 (Or.inr (wd_31 hw)) (ty := (.array .byte)) (by decide)
  have OL40 := OL35.ext E36
  refine own_up st36 ?_
  show OwnOk p e below _ (T36.setTop (mkF m 68 #[.val (.int p1), .val (.int p2), .val (.int p3), .val (.ref b11), .val (.ref b20), .val (.ref b29), .unset, .unset, .unset, .unset, .unset, .unset] [(.ref b36), (.int (1 : Int32)), (.ref b29)]))
  refine own_up (fun tx kx => XS.dup X36.here hx rfl (hb hby at_68) rfl rfl kx) ?_
  show OwnOk p e below _ (T36.setTop (mkF m 69 #[.val (.int p1), .val (.int p2), .val (.int p3), .val (.ref b11), .val (.ref b20), .val (.ref b29), .unset, .unset, .unset, .unset, .unset, .unset] [(.ref b36), (.ref b36), (.int (1 : Int32)), (.ref b29)]))
  refine own_up (fun tx kx => XS.aloadN X36.here hx rfl (hb hby at_69) rfl rfl kx) ?_
  show OwnOk p e below _ (T36.setTop (mkF m 70 #[.val (.int p1), .val (.int p2), .val (.int p3), .val (.ref b11), .val (.ref b20), .val (.ref b29), .unset, .unset, .unset, .unset, .unset, .unset] [(.ref b11), (.ref b36), (.ref b36), (.int (1 : Int32)), (.ref b29)]))
  have hp0 : ∀ c ∈ ([(nar .char ((p1 &&& (255 : Int32)).toUInt32.toUInt16.toUInt32.toInt32)), (nar .char ((((p1.toUInt32 >>> ((8 : Int32) &&& 31).toUInt32).toInt32) &&& (255 : Int32)).toUInt32.toUInt16.toUInt32.toInt32))] : List Int32), ¬ c < 0 ∧ ¬ (255 : Int32) < c := by
    intro c hc
    simp only [List.mem_cons, List.not_mem_nil, or_false] at hc
    rcases hc with rfl | rfl
    · exact own_char _
    · exact own_char _
  have V_b11_41 := (V_b11_38.ext E36)
  refine own_callCB X36 hx hZ (y := (⟨"java/lang/String", "<init>", "([C)V"⟩ : MethodName)) rfl hown (wd_6 hw) (wd_7 hw)  (wd_8 hw) (by decide) (kc := 1) (ks := 2) (Q' := StrChars.Road.QV Z b36 (2 : Int32) (([(nar .char ((p1 &&& (255 : Int32)).toUInt32.toUInt16.toUInt32.toInt32)), (nar .char ((((p1.toUInt32 >>> ((8 : Int32) &&& 31).toUInt32).toInt32) &&& (255 : Int32)).toUInt32.toUInt16.toUInt32.toInt32))] : List Int32).map (fun (c : Int32) => c.toInt8.toInt32)) h36 n0) (StrChars.Road.backV (R := room_1) (W := 3) hZ hws (kI := 4) (wd_4 hw) (cs := ([(nar .char ((p1 &&& (255 : Int32)).toUInt32.toUInt16.toUInt32.toInt32)), (nar .char ((((p1.toUInt32 >>> ((8 : Int32) &&& 31).toUInt32).toInt32) &&& (255 : Int32)).toUInt32.toUInt16.toUInt32.toInt32))] : List Int32)) (bs := (([(nar .char ((p1 &&& (255 : Int32)).toUInt32.toUInt16.toUInt32.toInt32)), (nar .char ((((p1.toUInt32 >>> ((8 : Int32) &&& 31).toUInt32).toInt32) &&& (255 : Int32)).toUInt32.toUInt16.toUInt32.toInt32))] : List Int32).map (fun (c : Int32) => c.toInt8.toInt32))) (n := 2) n0_b36 (own_n0 OL40) A36 F_value_b36 F_coder_b36 V_b11_41 (SC.ext OL40.2) hcz rfl rfl (by decide) (by decide) hp0 rfl (by decide) (by decide)) e36 (argsL := [(.ref b11)]) (rest := [(.ref b36), (.int (1 : Int32)), (.ref b29)]) (a := b36) (by rw [hml]; rfl) (lenOf pd_1 rfl) rfl rfl (W := 3) rfl (hb hby at_70) (by decide) (by decide) (fun T42 v42 L42 X42 hQ42 => ?_)
  obtain ⟨rfl, Nq42, Kq42, Eq42, Cq42, tq42, kq42, ua42, ub42, uc42, Fq42, Vq42⟩ := hQ42
  have N42 := Fr.app N34 Nq42
  have OL42 := OL40.keep Kq42 (allS n0_b36 all0)
  show OwnOk p e below _ (T42.setTop (mkF m 73 #[.val (.int p1), .val (.int p2), .val (.int p3), .val (.ref b11), .val (.ref b20), .val (.ref b29), .unset, .unset, .unset, .unset, .unset, .unset] [(.ref b36), (.int (1 : Int32)), (.ref b29)]))
  have V_b29_43 := ((V_b29_34.ext E36).keep Kq42 (ninS (Nat.ne_of_lt lt_b29_b36) nin0))
  obtain ⟨cl44, Ar44, qc44, Sz44, Nn44, Hs44, Gf44⟩ := id V_b29_43
  have hin44 : ¬ ((1 : Int32) < 0 ∨ cl44.slots.size ≤ ((1 : Int32)).toNatClampNeg) := inb_of Sz44 ⟨by decide, by decide⟩
  have E_b36_45 := (A36.keep Kq42)
  obtain ⟨T46, h46, X46, e46, W46, st46⟩ := stR X42 hx hZ rfl Ar44 (j := (1 : Int32)) hin44 rfl (Sto.ofV Ar44 qc44 O29 (Ins.of_exa E_b36_45 (wd_32 hw))) (g := (mkF m 73 #[.val (.int p1), .val (.int p2), .val (.int p3), .val (.ref b11), .val (.ref b20), .val (.ref b29), .unset, .unset, .unset, .unset, .unset, .unset] [(.ref b36), (.int (1 : Int32)), (.ref b29)])) rfl rfl (hb hby at_73)
  have V_b29_46 : Arv Z h46 b29 k29 (.object "java/lang/Object") (4 : Int32) [.null, (.ref b36), .null, .null] .null := Arv.set Ar44 qc44 Sz44 Nn44 Hs44 Gf44 rfl W46 1 rfl (Nat.le_of_ble_eq_true rfl)
  have N46 := Fr.snoc X46 N42 n0_b29
  have OL47 := OL42.wr W46 n0_b29
  refine own_up st46 ?_
  show OwnOk p e below _ (T46.setTop (mkF m 74 #[.val (.int p1), .val (.int p2), .val (.int p3), .val (.ref b11), .val (.ref b20), .val (.ref b29), .unset, .unset, .unset, .unset, .unset, .unset] []))
  refine own_up (fun tx kx => XS.aload X46.here hx rfl (hb hby at_74) rfl rfl kx) ?_
  show OwnOk p e below _ (T46.setTop (mkF m 76 #[.val (.int p1), .val (.int p2), .val (.int p3), .val (.ref b11), .val (.ref b20), .val (.ref b29), .unset, .unset, .unset, .unset, .unset, .unset] [(.ref b29)]))
  refine own_up (fun tx kx => XS.iconst X46.here hx rfl (hb hby at_76) kx) ?_
  show OwnOk p e below _ (T46.setTop (mkF m 77 #[.val (.int p1), .val (.int p2), .val (.int p3), .val (.ref b11), .val (.ref b20), .val (.ref b29), .unset, .unset, .unset, .unset, .unset, .unset] [(.int (2 : Int32)), (.ref b29)]))
  obtain ⟨T48, h48, X48, e48, E48, A48, D48, -, st48⟩ := newO X46 hx hZ hown (wd_3 hw) (wd_4 hw) (wd_5 hw) e46 (g := (mkF m 77 #[.val (.int p1), .val (.int p2), .val (.int p3), .val (.ref b11), .val (.ref b20), .val (.ref b29), .unset, .unset, .unset, .unset, .unset, .unset] [(.int (2 : Int32)), (.ref b29)])) rfl (hb hby at_77) (by decide) (by decide)
  obtain ⟨b48, g48⟩ : ∃ z, z = h46.size := ⟨_, rfl⟩
  rw [← g48] at A48 D48 st48
  have sz_b48 : h46.size ≤ b48 := Nat.le_of_eq g48.symm
  have V_b11_50 := ((V_b11_41.keep Kq42 (ninS (Nat.ne_of_lt lt_b11_b36) nin0)).other W46 (Nat.ne_of_lt lt_b11_b29))
  have lt_b11_b48 : b11 < b48 := Nat.lt_of_lt_of_le V_b11_50.lt sz_b48
  have V_b20_51 := (((V_b20_39.ext E36).keep Kq42 (ninS (Nat.ne_of_lt lt_b20_b36) nin0)).other W46 (Nat.ne_of_lt lt_b20_b29))
  have lt_b20_b48 : b20 < b48 := Nat.lt_of_lt_of_le V_b20_51.lt sz_b48
  have lt_b29_b48 : b29 < b48 := Nat.lt_of_lt_of_le V_b29_46.lt sz_b48
  have E_b36_52 := (E_b36_45.wr W46)
  have lt_b36_b48 : b36 < b48 := Nat.lt_of_lt_of_le E_b36_52.lt sz_b48
  have n0_b48 : n0 ≤ b48 := Nat.le_trans (own_n0 OL47) sz_b48
  have F_coder_b48 : Fld Z h48 b48 "java/lang/String" "coder" "B" (.int (0 : Int32)) := D48 (Or.inr (wd_29 hw)) (ty := .byte) (by decide)
  have F_value_b48 : Fld Z h48 b48 "java/lang/String" "value" "[B" .null := D48 (Or.inr (wd_31 hw)) (ty := (.array .byte)) (by decide)
  have OL53 := OL47.ext E48
  refine own_up st48 ?_
  show OwnOk p e below _ (T48.setTop (mkF m 80 #[.val (.int p1), .val (.int p2), .val (.int p3), .val (.ref b11), .val (.ref b20), .val (.ref b29), .unset, .unset, .unset, .unset, .unset, .unset] [(.ref b48), (.int (2 : Int32)), (.ref b29)]))
  refine own_up (fun tx kx => XS.dup X48.here hx rfl (hb hby at_80) rfl rfl kx) ?_
  show OwnOk p e below _ (T48.setTop (mkF m 81 #[.val (.int p1), .val (.int p2), .val (.int p3), .val (.ref b11), .val (.ref b20), .val (.ref b29), .unset, .unset, .unset, .unset, .unset, .unset] [(.ref b48), (.ref b48), (.int (2 : Int32)), (.ref b29)]))
  refine own_up (fun tx kx => XS.aloadN X48.here hx rfl (hb hby at_81) rfl rfl kx) ?_
  show OwnOk p e below _ (T48.setTop (mkF m 82 #[.val (.int p1), .val (.int p2), .val (.int p3), .val (.ref b11), .val (.ref b20), .val (.ref b29), .unset, .unset, .unset, .unset, .unset, .unset] [(.ref b11), (.ref b48), (.ref b48), (.int (2 : Int32)), (.ref b29)]))
  have V_b11_54 := (V_b11_50.ext E48)
  refine own_callCB X48 hx hZ (y := (⟨"java/lang/String", "<init>", "([C)V"⟩ : MethodName)) rfl hown (wd_6 hw) (wd_7 hw)  (wd_8 hw) (by decide) (kc := 1) (ks := 2) (Q' := StrChars.Road.QV Z b48 (2 : Int32) (([(nar .char ((p1 &&& (255 : Int32)).toUInt32.toUInt16.toUInt32.toInt32)), (nar .char ((((p1.toUInt32 >>> ((8 : Int32) &&& 31).toUInt32).toInt32) &&& (255 : Int32)).toUInt32.toUInt16.toUInt32.toInt32))] : List Int32).map (fun (c : Int32) => c.toInt8.toInt32)) h48 n0) (StrChars.Road.backV (R := room_1) (W := 3) hZ hws (kI := 4) (wd_4 hw) (cs := ([(nar .char ((p1 &&& (255 : Int32)).toUInt32.toUInt16.toUInt32.toInt32)), (nar .char ((((p1.toUInt32 >>> ((8 : Int32) &&& 31).toUInt32).toInt32) &&& (255 : Int32)).toUInt32.toUInt16.toUInt32.toInt32))] : List Int32)) (bs := (([(nar .char ((p1 &&& (255 : Int32)).toUInt32.toUInt16.toUInt32.toInt32)), (nar .char ((((p1.toUInt32 >>> ((8 : Int32) &&& 31).toUInt32).toInt32) &&& (255 : Int32)).toUInt32.toUInt16.toUInt32.toInt32))] : List Int32).map (fun (c : Int32) => c.toInt8.toInt32))) (n := 2) n0_b48 (own_n0 OL53) A48 F_value_b48 F_coder_b48 V_b11_54 (SC.ext OL53.2) hcz rfl rfl (by decide) (by decide) hp0 rfl (by decide) (by decide)) e48 (argsL := [(.ref b11)]) (rest := [(.ref b48), (.int (2 : Int32)), (.ref b29)]) (a := b48) (by rw [hml]; rfl) (lenOf pd_1 rfl) rfl rfl (W := 3) rfl (hb hby at_82) (by decide) (by decide) (fun T55 v55 L55 X55 hQ55 => ?_)
  obtain ⟨rfl, Nq55, Kq55, Eq55, Cq55, tq55, kq55, ua55, ub55, uc55, Fq55, Vq55⟩ := hQ55
  have N55 := Fr.app N46 Nq55
  have OL55 := OL53.keep Kq55 (allS n0_b48 all0)
  show OwnOk p e below _ (T55.setTop (mkF m 85 #[.val (.int p1), .val (.int p2), .val (.int p3), .val (.ref b11), .val (.ref b20), .val (.ref b29), .unset, .unset, .unset, .unset, .unset, .unset] [(.ref b48), (.int (2 : Int32)), (.ref b29)]))
  have V_b29_56 := ((V_b29_46.ext E48).keep Kq55 (ninS (Nat.ne_of_lt lt_b29_b48) nin0))
  obtain ⟨cl57, Ar57, qc57, Sz57, Nn57, Hs57, Gf57⟩ := id V_b29_56
  have hin57 : ¬ ((2 : Int32) < 0 ∨ cl57.slots.size ≤ ((2 : Int32)).toNatClampNeg) := inb_of Sz57 ⟨by decide, by decide⟩
  have E_b48_58 := (A48.keep Kq55)
  obtain ⟨T59, h59, X59, e59, W59, st59⟩ := stR X55 hx hZ rfl Ar57 (j := (2 : Int32)) hin57 rfl (Sto.ofV Ar57 qc57 O29 (Ins.of_exa E_b48_58 (wd_32 hw))) (g := (mkF m 85 #[.val (.int p1), .val (.int p2), .val (.int p3), .val (.ref b11), .val (.ref b20), .val (.ref b29), .unset, .unset, .unset, .unset, .unset, .unset] [(.ref b48), (.int (2 : Int32)), (.ref b29)])) rfl rfl (hb hby at_85)
  have V_b29_59 : Arv Z h59 b29 k29 (.object "java/lang/Object") (4 : Int32) [.null, (.ref b36), (.ref b48), .null] .null := Arv.set Ar57 qc57 Sz57 Nn57 Hs57 Gf57 rfl W59 2 rfl (Nat.le_of_ble_eq_true rfl)
  have N59 := Fr.snoc X59 N55 n0_b29
  have OL60 := OL55.wr W59 n0_b29
  refine own_up st59 ?_
  show OwnOk p e below _ (T59.setTop (mkF m 86 #[.val (.int p1), .val (.int p2), .val (.int p3), .val (.ref b11), .val (.ref b20), .val (.ref b29), .unset, .unset, .unset, .unset, .unset, .unset] []))
  refine own_up (fun tx kx => XS.aload X59.here hx rfl (hb hby at_86) rfl rfl kx) ?_
  show OwnOk p e below _ (T59.setTop (mkF m 88 #[.val (.int p1), .val (.int p2), .val (.int p3), .val (.ref b11), .val (.ref b20), .val (.ref b29), .unset, .unset, .unset, .unset, .unset, .unset] [(.ref b29)]))
  refine own_up (fun tx kx => XS.iconst X59.here hx rfl (hb hby at_88) kx) ?_
  show OwnOk p e below _ (T59.setTop (mkF m 89 #[.val (.int p1), .val (.int p2), .val (.int p3), .val (.ref b11), .val (.ref b20), .val (.ref b29), .unset, .unset, .unset, .unset, .unset, .unset] [(.int (3 : Int32)), (.ref b29)]))
  obtain ⟨T61, h61, X61, e61, E61, A61, D61, -, st61⟩ := newO X59 hx hZ hown (wd_3 hw) (wd_4 hw) (wd_5 hw) e59 (g := (mkF m 89 #[.val (.int p1), .val (.int p2), .val (.int p3), .val (.ref b11), .val (.ref b20), .val (.ref b29), .unset, .unset, .unset, .unset, .unset, .unset] [(.int (3 : Int32)), (.ref b29)])) rfl (hb hby at_89) (by decide) (by decide)
  obtain ⟨b61, g61⟩ : ∃ z, z = h59.size := ⟨_, rfl⟩
  rw [← g61] at A61 D61 st61
  have sz_b61 : h59.size ≤ b61 := Nat.le_of_eq g61.symm
  have V_b11_63 := ((V_b11_54.keep Kq55 (ninS (Nat.ne_of_lt lt_b11_b48) nin0)).other W59 (Nat.ne_of_lt lt_b11_b29))
  have lt_b11_b61 : b11 < b61 := Nat.lt_of_lt_of_le V_b11_63.lt sz_b61
  have V_b20_64 := (((V_b20_51.ext E48).keep Kq55 (ninS (Nat.ne_of_lt lt_b20_b48) nin0)).other W59 (Nat.ne_of_lt lt_b20_b29))
  have lt_b20_b61 : b20 < b61 := Nat.lt_of_lt_of_le V_b20_64.lt sz_b61
  have lt_b29_b61 : b29 < b61 := Nat.lt_of_lt_of_le V_b29_59.lt sz_b61
  have E_b36_65 := (((E_b36_52.ext E48).keep Kq55).wr W59)
  have lt_b36_b61 : b36 < b61 := Nat.lt_of_lt_of_le E_b36_65.lt sz_b61
  have E_b48_66 := (E_b48_58.wr W59)
  have lt_b48_b61 : b48 < b61 := Nat.lt_of_lt_of_le E_b48_66.lt sz_b61
  have n0_b61 : n0 ≤ b61 := Nat.le_trans (own_n0 OL60) sz_b61
  have F_coder_b61 : Fld Z h61 b61 "java/lang/String" "coder" "B" (.int (0 : Int32)) := D61 (Or.inr (wd_29 hw)) (ty := .byte) (by decide)
  have F_value_b61 : Fld Z h61 b61 "java/lang/String" "value" "[B" .null := D61 (Or.inr (wd_31 hw)) (ty := (.array .byte)) (by decide)
  have OL67 := OL60.ext E61
  refine own_up st61 ?_
  show OwnOk p e below _ (T61.setTop (mkF m 92 #[.val (.int p1), .val (.int p2), .val (.int p3), .val (.ref b11), .val (.ref b20), .val (.ref b29), .unset, .unset, .unset, .unset, .unset, .unset] [(.ref b61), (.int (3 : Int32)), (.ref b29)]))
  refine own_up (fun tx kx => XS.dup X61.here hx rfl (hb hby at_92) rfl rfl kx) ?_
  show OwnOk p e below _ (T61.setTop (mkF m 93 #[.val (.int p1), .val (.int p2), .val (.int p3), .val (.ref b11), .val (.ref b20), .val (.ref b29), .unset, .unset, .unset, .unset, .unset, .unset] [(.ref b61), (.ref b61), (.int (3 : Int32)), (.ref b29)]))
  refine own_up (fun tx kx => XS.aload X61.here hx rfl (hb hby at_93) rfl rfl kx) ?_
  show OwnOk p e below _ (T61.setTop (mkF m 95 #[.val (.int p1), .val (.int p2), .val (.int p3), .val (.ref b11), .val (.ref b20), .val (.ref b29), .unset, .unset, .unset, .unset, .unset, .unset] [(.ref b20), (.ref b61), (.ref b61), (.int (3 : Int32)), (.ref b29)]))
  have hp2 : ∀ c ∈ ([(nar .char ((p2 &&& (255 : Int32)).toUInt32.toUInt16.toUInt32.toInt32)), (nar .char ((((p2.toUInt32 >>> ((8 : Int32) &&& 31).toUInt32).toInt32) &&& (255 : Int32)).toUInt32.toUInt16.toUInt32.toInt32))] : List Int32), ¬ c < 0 ∧ ¬ (255 : Int32) < c := by
    intro c hc
    simp only [List.mem_cons, List.not_mem_nil, or_false] at hc
    rcases hc with rfl | rfl
    · exact own_char _
    · exact own_char _
  have V_b20_68 := (V_b20_64.ext E61)
  refine own_callCB X61 hx hZ (y := (⟨"java/lang/String", "<init>", "([C)V"⟩ : MethodName)) rfl hown (wd_6 hw) (wd_7 hw)  (wd_8 hw) (by decide) (kc := 1) (ks := 2) (Q' := StrChars.Road.QV Z b61 (2 : Int32) (([(nar .char ((p2 &&& (255 : Int32)).toUInt32.toUInt16.toUInt32.toInt32)), (nar .char ((((p2.toUInt32 >>> ((8 : Int32) &&& 31).toUInt32).toInt32) &&& (255 : Int32)).toUInt32.toUInt16.toUInt32.toInt32))] : List Int32).map (fun (c : Int32) => c.toInt8.toInt32)) h61 n0) (StrChars.Road.backV (R := room_1) (W := 3) hZ hws (kI := 4) (wd_4 hw) (cs := ([(nar .char ((p2 &&& (255 : Int32)).toUInt32.toUInt16.toUInt32.toInt32)), (nar .char ((((p2.toUInt32 >>> ((8 : Int32) &&& 31).toUInt32).toInt32) &&& (255 : Int32)).toUInt32.toUInt16.toUInt32.toInt32))] : List Int32)) (bs := (([(nar .char ((p2 &&& (255 : Int32)).toUInt32.toUInt16.toUInt32.toInt32)), (nar .char ((((p2.toUInt32 >>> ((8 : Int32) &&& 31).toUInt32).toInt32) &&& (255 : Int32)).toUInt32.toUInt16.toUInt32.toInt32))] : List Int32).map (fun (c : Int32) => c.toInt8.toInt32))) (n := 2) n0_b61 (own_n0 OL67) A61 F_value_b61 F_coder_b61 V_b20_68 (SC.ext OL67.2) hcz rfl rfl (by decide) (by decide) hp2 rfl (by decide) (by decide)) e61 (argsL := [(.ref b20)]) (rest := [(.ref b61), (.int (3 : Int32)), (.ref b29)]) (a := b61) (by rw [hml]; rfl) (lenOf pd_1 rfl) rfl rfl (W := 3) rfl (hb hby at_95) (by decide) (by decide) (fun T69 v69 L69 X69 hQ69 => ?_)
  obtain ⟨rfl, Nq69, Kq69, Eq69, Cq69, tq69, kq69, ua69, ub69, uc69, Fq69, Vq69⟩ := hQ69
  have N69 := Fr.app N59 Nq69
  have OL69 := OL67.keep Kq69 (allS n0_b61 all0)
  show OwnOk p e below _ (T69.setTop (mkF m 98 #[.val (.int p1), .val (.int p2), .val (.int p3), .val (.ref b11), .val (.ref b20), .val (.ref b29), .unset, .unset, .unset, .unset, .unset, .unset] [(.ref b61), (.int (3 : Int32)), (.ref b29)]))
  have V_b29_70 := ((V_b29_59.ext E61).keep Kq69 (ninS (Nat.ne_of_lt lt_b29_b61) nin0))
  obtain ⟨cl71, Ar71, qc71, Sz71, Nn71, Hs71, Gf71⟩ := id V_b29_70
  have hin71 : ¬ ((3 : Int32) < 0 ∨ cl71.slots.size ≤ ((3 : Int32)).toNatClampNeg) := inb_of Sz71 ⟨by decide, by decide⟩
  have E_b61_72 := (A61.keep Kq69)
  obtain ⟨T73, h73, X73, e73, W73, st73⟩ := stR X69 hx hZ rfl Ar71 (j := (3 : Int32)) hin71 rfl (Sto.ofV Ar71 qc71 O29 (Ins.of_exa E_b61_72 (wd_32 hw))) (g := (mkF m 98 #[.val (.int p1), .val (.int p2), .val (.int p3), .val (.ref b11), .val (.ref b20), .val (.ref b29), .unset, .unset, .unset, .unset, .unset, .unset] [(.ref b61), (.int (3 : Int32)), (.ref b29)])) rfl rfl (hb hby at_98)
  have V_b29_73 : Arv Z h73 b29 k29 (.object "java/lang/Object") (4 : Int32) [.null, (.ref b36), (.ref b48), (.ref b61)] .null := Arv.set Ar71 qc71 Sz71 Nn71 Hs71 Gf71 rfl W73 3 rfl (Nat.le_of_ble_eq_true rfl)
  have N73 := Fr.snoc X73 N69 n0_b29
  have OL74 := OL69.wr W73 n0_b29
  refine own_up st73 ?_
  show OwnOk p e below _ (T73.setTop (mkF m 99 #[.val (.int p1), .val (.int p2), .val (.int p3), .val (.ref b11), .val (.ref b20), .val (.ref b29), .unset, .unset, .unset, .unset, .unset, .unset] []))
  refine own_up (fun tx kx => XS.iloadN X73.here hx rfl (hb hby at_99) rfl kx) ?_
  show OwnOk p e below _ (T73.setTop (mkF m 100 #[.val (.int p1), .val (.int p2), .val (.int p3), .val (.ref b11), .val (.ref b20), .val (.ref b29), .unset, .unset, .unset, .unset, .unset, .unset] [(.int p3)]))
  refine own_up (fun tx kx => XS.iconst X73.here hx rfl (hb hby at_100) kx) ?_
  show OwnOk p e below _ (T73.setTop (mkF m 101 #[.val (.int p1), .val (.int p2), .val (.int p3), .val (.ref b11), .val (.ref b20), .val (.ref b29), .unset, .unset, .unset, .unset, .unset, .unset] [(.int (3 : Int32)), (.int p3)]))
  refine own_up (fun tx kx => XS.iand X73.here hx rfl (hb hby at_101) rfl kx) ?_
  show OwnOk p e below _ (T73.setTop (mkF m 102 #[.val (.int p1), .val (.int p2), .val (.int p3), .val (.ref b11), .val (.ref b20), .val (.ref b29), .unset, .unset, .unset, .unset, .unset, .unset] [(.int (p3 &&& (3 : Int32)))]))
  refine own_up (fun tx kx => XS.istore X73.here hx rfl (hb hby at_102) rfl (l' := #[.val (.int p1), .val (.int p2), .val (.int p3), .val (.ref b11), .val (.ref b20), .val (.ref b29), .val (.int (p3 &&& (3 : Int32))), .unset, .unset, .unset, .unset, .unset]) rfl kx) ?_
  show OwnOk p e below _ (T73.setTop (mkF m 104 #[.val (.int p1), .val (.int p2), .val (.int p3), .val (.ref b11), .val (.ref b20), .val (.ref b29), .val (.int (p3 &&& (3 : Int32))), .unset, .unset, .unset, .unset, .unset] []))
  refine own_up (fun tx kx => XS.iloadN X73.here hx rfl (hb hby at_104) rfl kx) ?_
  show OwnOk p e below _ (T73.setTop (mkF m 105 #[.val (.int p1), .val (.int p2), .val (.int p3), .val (.ref b11), .val (.ref b20), .val (.ref b29), .val (.int (p3 &&& (3 : Int32))), .unset, .unset, .unset, .unset, .unset] [(.int p3)]))
  refine own_up (fun tx kx => XS.iconst X73.here hx rfl (hb hby at_105) kx) ?_
  show OwnOk p e below _ (T73.setTop (mkF m 106 #[.val (.int p1), .val (.int p2), .val (.int p3), .val (.ref b11), .val (.ref b20), .val (.ref b29), .val (.int (p3 &&& (3 : Int32))), .unset, .unset, .unset, .unset, .unset] [(.int (2 : Int32)), (.int p3)]))
  refine own_up (fun tx kx => XS.iushr X73.here hx rfl (hb hby at_106) rfl kx) ?_
  show OwnOk p e below _ (T73.setTop (mkF m 107 #[.val (.int p1), .val (.int p2), .val (.int p3), .val (.ref b11), .val (.ref b20), .val (.ref b29), .val (.int (p3 &&& (3 : Int32))), .unset, .unset, .unset, .unset, .unset] [(.int ((p3.toUInt32 >>> ((2 : Int32) &&& 31).toUInt32).toInt32))]))
  refine own_up (fun tx kx => XS.iconst X73.here hx rfl (hb hby at_107) kx) ?_
  show OwnOk p e below _ (T73.setTop (mkF m 108 #[.val (.int p1), .val (.int p2), .val (.int p3), .val (.ref b11), .val (.ref b20), .val (.ref b29), .val (.int (p3 &&& (3 : Int32))), .unset, .unset, .unset, .unset, .unset] [(.int (3 : Int32)), (.int ((p3.toUInt32 >>> ((2 : Int32) &&& 31).toUInt32).toInt32))]))
  refine own_up (fun tx kx => XS.iand X73.here hx rfl (hb hby at_108) rfl kx) ?_
  show OwnOk p e below _ (T73.setTop (mkF m 109 #[.val (.int p1), .val (.int p2), .val (.int p3), .val (.ref b11), .val (.ref b20), .val (.ref b29), .val (.int (p3 &&& (3 : Int32))), .unset, .unset, .unset, .unset, .unset] [(.int (((p3.toUInt32 >>> ((2 : Int32) &&& 31).toUInt32).toInt32) &&& (3 : Int32)))]))
  refine own_up (fun tx kx => XS.istore X73.here hx rfl (hb hby at_109) rfl (l' := #[.val (.int p1), .val (.int p2), .val (.int p3), .val (.ref b11), .val (.ref b20), .val (.ref b29), .val (.int (p3 &&& (3 : Int32))), .val (.int (((p3.toUInt32 >>> ((2 : Int32) &&& 31).toUInt32).toInt32) &&& (3 : Int32))), .unset, .unset, .unset, .unset]) rfl kx) ?_
  show OwnOk p e below _ (T73.setTop (mkF m 111 #[.val (.int p1), .val (.int p2), .val (.int p3), .val (.ref b11), .val (.ref b20), .val (.ref b29), .val (.int (p3 &&& (3 : Int32))), .val (.int (((p3.toUInt32 >>> ((2 : Int32) &&& 31).toUInt32).toInt32) &&& (3 : Int32))), .unset, .unset, .unset, .unset] []))
  refine own_up (fun tx kx => XS.iloadN X73.here hx rfl (hb hby at_111) rfl kx) ?_
  show OwnOk p e below _ (T73.setTop (mkF m 112 #[.val (.int p1), .val (.int p2), .val (.int p3), .val (.ref b11), .val (.ref b20), .val (.ref b29), .val (.int (p3 &&& (3 : Int32))), .val (.int (((p3.toUInt32 >>> ((2 : Int32) &&& 31).toUInt32).toInt32) &&& (3 : Int32))), .unset, .unset, .unset, .unset] [(.int p3)]))
  refine own_up (fun tx kx => XS.iconst X73.here hx rfl (hb hby at_112) kx) ?_
  show OwnOk p e below _ (T73.setTop (mkF m 113 #[.val (.int p1), .val (.int p2), .val (.int p3), .val (.ref b11), .val (.ref b20), .val (.ref b29), .val (.int (p3 &&& (3 : Int32))), .val (.int (((p3.toUInt32 >>> ((2 : Int32) &&& 31).toUInt32).toInt32) &&& (3 : Int32))), .unset, .unset, .unset, .unset] [(.int (4 : Int32)), (.int p3)]))
  refine own_up (fun tx kx => XS.iushr X73.here hx rfl (hb hby at_113) rfl kx) ?_
  show OwnOk p e below _ (T73.setTop (mkF m 114 #[.val (.int p1), .val (.int p2), .val (.int p3), .val (.ref b11), .val (.ref b20), .val (.ref b29), .val (.int (p3 &&& (3 : Int32))), .val (.int (((p3.toUInt32 >>> ((2 : Int32) &&& 31).toUInt32).toInt32) &&& (3 : Int32))), .unset, .unset, .unset, .unset] [(.int ((p3.toUInt32 >>> ((4 : Int32) &&& 31).toUInt32).toInt32))]))
  refine own_up (fun tx kx => XS.iconst X73.here hx rfl (hb hby at_114) kx) ?_
  show OwnOk p e below _ (T73.setTop (mkF m 115 #[.val (.int p1), .val (.int p2), .val (.int p3), .val (.ref b11), .val (.ref b20), .val (.ref b29), .val (.int (p3 &&& (3 : Int32))), .val (.int (((p3.toUInt32 >>> ((2 : Int32) &&& 31).toUInt32).toInt32) &&& (3 : Int32))), .unset, .unset, .unset, .unset] [(.int (3 : Int32)), (.int ((p3.toUInt32 >>> ((4 : Int32) &&& 31).toUInt32).toInt32))]))
  refine own_up (fun tx kx => XS.iand X73.here hx rfl (hb hby at_115) rfl kx) ?_
  show OwnOk p e below _ (T73.setTop (mkF m 116 #[.val (.int p1), .val (.int p2), .val (.int p3), .val (.ref b11), .val (.ref b20), .val (.ref b29), .val (.int (p3 &&& (3 : Int32))), .val (.int (((p3.toUInt32 >>> ((2 : Int32) &&& 31).toUInt32).toInt32) &&& (3 : Int32))), .unset, .unset, .unset, .unset] [(.int (((p3.toUInt32 >>> ((4 : Int32) &&& 31).toUInt32).toInt32) &&& (3 : Int32)))]))
  refine own_up (fun tx kx => XS.istore X73.here hx rfl (hb hby at_116) rfl (l' := #[.val (.int p1), .val (.int p2), .val (.int p3), .val (.ref b11), .val (.ref b20), .val (.ref b29), .val (.int (p3 &&& (3 : Int32))), .val (.int (((p3.toUInt32 >>> ((2 : Int32) &&& 31).toUInt32).toInt32) &&& (3 : Int32))), .val (.int (((p3.toUInt32 >>> ((4 : Int32) &&& 31).toUInt32).toInt32) &&& (3 : Int32))), .unset, .unset, .unset]) rfl kx) ?_
  show OwnOk p e below _ (T73.setTop (mkF m 118 #[.val (.int p1), .val (.int p2), .val (.int p3), .val (.ref b11), .val (.ref b20), .val (.ref b29), .val (.int (p3 &&& (3 : Int32))), .val (.int (((p3.toUInt32 >>> ((2 : Int32) &&& 31).toUInt32).toInt32) &&& (3 : Int32))), .val (.int (((p3.toUInt32 >>> ((4 : Int32) &&& 31).toUInt32).toInt32) &&& (3 : Int32))), .unset, .unset, .unset] []))
  have hi := own_and3 p3
  have hj := own_and3 ((p3.toUInt32 >>> ((2 : Int32) &&& 31).toUInt32).toInt32)
  generalize (p3 &&& (3 : Int32)) = i at *
  generalize (((p3.toUInt32 >>> ((2 : Int32) &&& 31).toUInt32).toInt32) &&& (3 : Int32)) = j at *
  generalize (((p3.toUInt32 >>> ((4 : Int32) &&& 31).toUInt32).toInt32) &&& (3 : Int32)) = md at *
  show OwnOk p e below _ (T73.setTop (mkF m 118 #[.val (.int p1), .val (.int p2), .val (.int p3), .val (.ref b11), .val (.ref b20), .val (.ref b29), .val (.int i), .val (.int j), .val (.int md), .unset, .unset, .unset] []))
  obtain ⟨T75, h75, X75, e75, E75, A75, D75, -, st75⟩ := newO X73 hx hZ hown (wd_33 hw) (wd_34 hw) (wd_35 hw) e73 (g := (mkF m 118 #[.val (.int p1), .val (.int p2), .val (.int p3), .val (.ref b11), .val (.ref b20), .val (.ref b29), .val (.int i), .val (.int j), .val (.int md), .unset, .unset, .unset] [])) rfl (hb hby at_118) (by decide) (by decide)
  obtain ⟨b75, g75⟩ : ∃ z, z = h73.size := ⟨_, rfl⟩
  rw [← g75] at A75 D75 st75
  have sz_b75 : h73.size ≤ b75 := Nat.le_of_eq g75.symm
  have V_b11_77 := (((V_b11_63.ext E61).keep Kq69 (ninS (Nat.ne_of_lt lt_b11_b61) nin0)).other W73 (Nat.ne_of_lt lt_b11_b29))
  have lt_b11_b75 : b11 < b75 := Nat.lt_of_lt_of_le V_b11_77.lt sz_b75
  have V_b20_78 := ((V_b20_68.keep Kq69 (ninS (Nat.ne_of_lt lt_b20_b61) nin0)).other W73 (Nat.ne_of_lt lt_b20_b29))
  have lt_b20_b75 : b20 < b75 := Nat.lt_of_lt_of_le V_b20_78.lt sz_b75
  have lt_b29_b75 : b29 < b75 := Nat.lt_of_lt_of_le V_b29_73.lt sz_b75
  have E_b36_79 := (((E_b36_65.ext E61).keep Kq69).wr W73)
  have lt_b36_b75 : b36 < b75 := Nat.lt_of_lt_of_le E_b36_79.lt sz_b75
  have E_b48_80 := (((E_b48_66.ext E61).keep Kq69).wr W73)
  have lt_b48_b75 : b48 < b75 := Nat.lt_of_lt_of_le E_b48_80.lt sz_b75
  have E_b61_81 := (E_b61_72.wr W73)
  have lt_b61_b75 : b61 < b75 := Nat.lt_of_lt_of_le E_b61_81.lt sz_b75
  have n0_b75 : n0 ≤ b75 := Nat.le_trans (own_n0 OL74) sz_b75
  have F_object_b75 : Fld Z h75 b75 "com/example/kwery/kwery/Comparisons$Identity" "object" "Ljava/lang/Object;" .null := D75 (Or.inr (wd_46 hw)) (ty := (.object "java/lang/Object")) (by decide)
  have OL82 := OL74.ext E75
  refine own_up st75 ?_
  show OwnOk p e below _ (T75.setTop (mkF m 121 #[.val (.int p1), .val (.int p2), .val (.int p3), .val (.ref b11), .val (.ref b20), .val (.ref b29), .val (.int i), .val (.int j), .val (.int md), .unset, .unset, .unset] [(.ref b75)]))
  refine own_up (fun tx kx => XS.dup X75.here hx rfl (hb hby at_121) rfl rfl kx) ?_
  show OwnOk p e below _ (T75.setTop (mkF m 122 #[.val (.int p1), .val (.int p2), .val (.int p3), .val (.ref b11), .val (.ref b20), .val (.ref b29), .val (.int i), .val (.int j), .val (.int md), .unset, .unset, .unset] [(.ref b75), (.ref b75)]))
  refine own_up (fun tx kx => XS.aload X75.here hx rfl (hb hby at_122) rfl rfl kx) ?_
  show OwnOk p e below _ (T75.setTop (mkF m 124 #[.val (.int p1), .val (.int p2), .val (.int p3), .val (.ref b11), .val (.ref b20), .val (.ref b29), .val (.int i), .val (.int j), .val (.int md), .unset, .unset, .unset] [(.ref b29), (.ref b75), (.ref b75)]))
  refine own_up (fun tx kx => XS.iload X75.here hx rfl (hb hby at_124) rfl kx) ?_
  show OwnOk p e below _ (T75.setTop (mkF m 126 #[.val (.int p1), .val (.int p2), .val (.int p3), .val (.ref b11), .val (.ref b20), .val (.ref b29), .val (.int i), .val (.int j), .val (.int md), .unset, .unset, .unset] [(.int i), (.ref b29), (.ref b75), (.ref b75)]))
  rcases own_at b36 b48 b61 hi with ⟨zi, ati⟩ | ⟨ui, zi, ati, isi⟩
  · have V_b29_83 := (V_b29_73.ext E75)
    obtain ⟨cl84, Ar84, qc84, Sz84, Nn84, Hs84, Gf84⟩ := id V_b29_83
    have hin84 : ¬ (i < 0 ∨ cl84.slots.size ≤ (i).toNatClampNeg) := inb_of Sz84 (own_in hi)
    have hat84 : cl84.slots[(i).toNatClampNeg]? = some .null := Hs84.at hin84 ati
    refine own_up (fun tx kx => X75.aaload hx (j := i) (v := .null) (own_ar e75 Ar84.1) (State.isArrayOf_alike hZ.alike Ar84.2.1) rfl Ar84.2.2 hin84 hat84 (g := (mkF m 126 #[.val (.int p1), .val (.int p2), .val (.int p3), .val (.ref b11), .val (.ref b20), .val (.ref b29), .val (.int i), .val (.int j), .val (.int md), .unset, .unset, .unset] [(.int i), (.ref b29), (.ref b75), (.ref b75)])) rfl rfl (hb hby at_126) _ kx) ?_
    show OwnOk p e below _ (T75.setTop (mkF m 127 #[.val (.int p1), .val (.int p2), .val (.int p3), .val (.ref b11), .val (.ref b20), .val (.ref b29), .val (.int i), .val (.int j), .val (.int md), .unset, .unset, .unset] [.null, (.ref b75), (.ref b75)]))
    refine own_callC X75 hx hZ (y := (⟨"com/example/kwery/kwery/Comparisons$Identity", "<init>", "(Ljava/lang/Object;)V"⟩ : MethodName)) rfl hown (wd_36 hw) (wd_37 hw) (wd_35 hw) (wd_38 hw) (by decide) (rm7n l Z a0 hw b75 h75 n0 OL82 A75 F_object_b75 n0_b75) e75 (argsL := [.null]) (rest := [(.ref b75)]) (a := b75) (by rw [hml]; rfl) (lenOf pd_2 rfl) rfl rfl (W := 1) rfl (hb hby at_127) (by decide) (by decide) (by decide) (by decide) (fun T85 v85 L85 X85 hQ85 => ?_)
    obtain ⟨rfl, Nq85, Kq85, Eq85, fq85⟩ := hQ85
    have N85 := Fr.app N73 Nq85
    have OL85 := OL82.keep Kq85 (allS n0_b75 all0)
    show OwnOk p e below _ (T85.setTop (mkF m 130 #[.val (.int p1), .val (.int p2), .val (.int p3), .val (.ref b11), .val (.ref b20), .val (.ref b29), .val (.int i), .val (.int j), .val (.int md), .unset, .unset, .unset] [(.ref b75)]))
    refine own_up (fun tx kx => XS.astore X85.here hx rfl (hb hby at_130) rfl rfl (l' := #[.val (.int p1), .val (.int p2), .val (.int p3), .val (.ref b11), .val (.ref b20), .val (.ref b29), .val (.int i), .val (.int j), .val (.int md), .val (.ref b75), .unset, .unset]) rfl kx) ?_
    show OwnOk p e below _ (T85.setTop (mkF m 132 #[.val (.int p1), .val (.int p2), .val (.int p3), .val (.ref b11), .val (.ref b20), .val (.ref b29), .val (.int i), .val (.int j), .val (.int md), .val (.ref b75), .unset, .unset] []))
    refine own_up (fun tx kx => XS.iload X85.here hx rfl (hb hby at_132) rfl kx) ?_
    show OwnOk p e below _ (T85.setTop (mkF m 134 #[.val (.int p1), .val (.int p2), .val (.int p3), .val (.ref b11), .val (.ref b20), .val (.ref b29), .val (.int i), .val (.int j), .val (.int md), .val (.ref b75), .unset, .unset] [(.int md)]))
    by_cases hm0 : md = (0 : Int32)
    · refine own_up (fun tx kx => XS.ifNo X85.here hx rfl (hb hby at_134) rfl ((if0 _ _).trans (teq hm0).2) kx) ?_
      show OwnOk p e below _ (T85.setTop (mkF m 137 #[.val (.int p1), .val (.int p2), .val (.int p3), .val (.ref b11), .val (.ref b20), .val (.ref b29), .val (.int i), .val (.int j), .val (.int md), .val (.ref b75), .unset, .unset] []))
      obtain ⟨T86, h86, X86, e86, E86, A86, D86, -, st86⟩ := newO X85 hx hZ hown (wd_33 hw) (wd_34 hw) (wd_35 hw) rfl (g := (mkF m 137 #[.val (.int p1), .val (.int p2), .val (.int p3), .val (.ref b11), .val (.ref b20), .val (.ref b29), .val (.int i), .val (.int j), .val (.int md), .val (.ref b75), .unset, .unset] [])) rfl (hb hby at_137) (by decide) (by decide)
      obtain ⟨b86, g86⟩ : ∃ z, z = T85.heap.size := ⟨_, rfl⟩
      rw [← g86] at A86 D86 st86
      have sz_b86 : T85.heap.size ≤ b86 := Nat.le_of_eq g86.symm
      have V_b11_88 := ((V_b11_77.ext E75).keep Kq85 (ninS (Nat.ne_of_lt lt_b11_b75) nin0))
      have lt_b11_b86 : b11 < b86 := Nat.lt_of_lt_of_le V_b11_88.lt sz_b86
      have V_b20_89 := ((V_b20_78.ext E75).keep Kq85 (ninS (Nat.ne_of_lt lt_b20_b75) nin0))
      have lt_b20_b86 : b20 < b86 := Nat.lt_of_lt_of_le V_b20_89.lt sz_b86
      have V_b29_90 := (V_b29_83.keep Kq85 (ninS (Nat.ne_of_lt lt_b29_b75) nin0))
      have lt_b29_b86 : b29 < b86 := Nat.lt_of_lt_of_le V_b29_90.lt sz_b86
      have E_b36_91 := ((E_b36_79.ext E75).keep Kq85)
      have lt_b36_b86 : b36 < b86 := Nat.lt_of_lt_of_le E_b36_91.lt sz_b86
      have E_b48_92 := ((E_b48_80.ext E75).keep Kq85)
      have lt_b48_b86 : b48 < b86 := Nat.lt_of_lt_of_le E_b48_92.lt sz_b86
      have E_b61_93 := ((E_b61_81.ext E75).keep Kq85)
      have lt_b61_b86 : b61 < b86 := Nat.lt_of_lt_of_le E_b61_93.lt sz_b86
      have lt_b75_b86 : b75 < b86 := Nat.lt_of_lt_of_le Eq85.lt sz_b86
      have n0_b86 : n0 ≤ b86 := Nat.le_trans (own_n0 OL85) sz_b86
      have F_object_b86 : Fld Z h86 b86 "com/example/kwery/kwery/Comparisons$Identity" "object" "Ljava/lang/Object;" .null := D86 (Or.inr (wd_46 hw)) (ty := (.object "java/lang/Object")) (by decide)
      have OL94 := OL85.ext E86
      refine own_up st86 ?_
      show OwnOk p e below _ (T86.setTop (mkF m 140 #[.val (.int p1), .val (.int p2), .val (.int p3), .val (.ref b11), .val (.ref b20), .val (.ref b29), .val (.int i), .val (.int j), .val (.int md), .val (.ref b75), .unset, .unset] [(.ref b86)]))
      refine own_up (fun tx kx => XS.dup X86.here hx rfl (hb hby at_140) rfl rfl kx) ?_
      show OwnOk p e below _ (T86.setTop (mkF m 141 #[.val (.int p1), .val (.int p2), .val (.int p3), .val (.ref b11), .val (.ref b20), .val (.ref b29), .val (.int i), .val (.int j), .val (.int md), .val (.ref b75), .unset, .unset] [(.ref b86), (.ref b86)]))
      refine own_up (fun tx kx => XS.aload X86.here hx rfl (hb hby at_141) rfl rfl kx) ?_
      show OwnOk p e below _ (T86.setTop (mkF m 143 #[.val (.int p1), .val (.int p2), .val (.int p3), .val (.ref b11), .val (.ref b20), .val (.ref b29), .val (.int i), .val (.int j), .val (.int md), .val (.ref b75), .unset, .unset] [(.ref b29), (.ref b86), (.ref b86)]))
      refine own_up (fun tx kx => XS.iload X86.here hx rfl (hb hby at_143) rfl kx) ?_
      show OwnOk p e below _ (T86.setTop (mkF m 145 #[.val (.int p1), .val (.int p2), .val (.int p3), .val (.ref b11), .val (.ref b20), .val (.ref b29), .val (.int i), .val (.int j), .val (.int md), .val (.ref b75), .unset, .unset] [(.int j), (.ref b29), (.ref b86), (.ref b86)]))
      rcases own_at b36 b48 b61 hj with ⟨zj, atj⟩ | ⟨uj, zj, atj, isj⟩
      · have V_b29_95 := (V_b29_90.ext E86)
        obtain ⟨cl96, Ar96, qc96, Sz96, Nn96, Hs96, Gf96⟩ := id V_b29_95
        have hin96 : ¬ (j < 0 ∨ cl96.slots.size ≤ (j).toNatClampNeg) := inb_of Sz96 (own_in hj)
        have hat96 : cl96.slots[(j).toNatClampNeg]? = some .null := Hs96.at hin96 atj
        refine own_up (fun tx kx => X86.aaload hx (j := j) (v := .null) (own_ar e86 Ar96.1) (State.isArrayOf_alike hZ.alike Ar96.2.1) rfl Ar96.2.2 hin96 hat96 (g := (mkF m 145 #[.val (.int p1), .val (.int p2), .val (.int p3), .val (.ref b11), .val (.ref b20), .val (.ref b29), .val (.int i), .val (.int j), .val (.int md), .val (.ref b75), .unset, .unset] [(.int j), (.ref b29), (.ref b86), (.ref b86)])) rfl rfl (hb hby at_145) _ kx) ?_
        show OwnOk p e below _ (T86.setTop (mkF m 146 #[.val (.int p1), .val (.int p2), .val (.int p3), .val (.ref b11), .val (.ref b20), .val (.ref b29), .val (.int i), .val (.int j), .val (.int md), .val (.ref b75), .unset, .unset] [.null, (.ref b86), (.ref b86)]))
        refine own_callC X86 hx hZ (y := (⟨"com/example/kwery/kwery/Comparisons$Identity", "<init>", "(Ljava/lang/Object;)V"⟩ : MethodName)) rfl hown (wd_36 hw) (wd_37 hw) (wd_35 hw) (wd_38 hw) (by decide) (rm7n l Z a0 hw b86 h86 n0 OL94 A86 F_object_b86 n0_b86) e86 (argsL := [.null]) (rest := [(.ref b86)]) (a := b86) (by rw [hml]; rfl) (lenOf pd_2 rfl) rfl rfl (W := 1) rfl (hb hby at_146) (by decide) (by decide) (by decide) (by decide) (fun T97 v97 L97 X97 hQ97 => ?_)
        obtain ⟨rfl, Nq97, Kq97, Eq97, fq97⟩ := hQ97
        have N97 := Fr.app N85 Nq97
        have OL97 := OL94.keep Kq97 (allS n0_b86 all0)
        show OwnOk p e below _ (T97.setTop (mkF m 149 #[.val (.int p1), .val (.int p2), .val (.int p3), .val (.ref b11), .val (.ref b20), .val (.ref b29), .val (.int i), .val (.int j), .val (.int md), .val (.ref b75), .unset, .unset] [(.ref b86)]))
        refine own_up (fun tx kx => XS.astore X97.here hx rfl (hb hby at_149) rfl rfl (l' := #[.val (.int p1), .val (.int p2), .val (.int p3), .val (.ref b11), .val (.ref b20), .val (.ref b29), .val (.int i), .val (.int j), .val (.int md), .val (.ref b75), .val (.ref b86), .unset]) rfl kx) ?_
        show OwnOk p e below _ (T97.setTop (mkF m 151 #[.val (.int p1), .val (.int p2), .val (.int p3), .val (.ref b11), .val (.ref b20), .val (.ref b29), .val (.int i), .val (.int j), .val (.int md), .val (.ref b75), .val (.ref b86), .unset] []))
        refine own_up (fun tx kx => XS.iload X97.here hx rfl (hb hby at_151) rfl kx) ?_
        show OwnOk p e below _ (T97.setTop (mkF m 153 #[.val (.int p1), .val (.int p2), .val (.int p3), .val (.ref b11), .val (.ref b20), .val (.ref b29), .val (.int i), .val (.int j), .val (.int md), .val (.ref b75), .val (.ref b86), .unset] [(.int i)]))
        refine own_up (fun tx kx => XS.iload X97.here hx rfl (hb hby at_153) rfl kx) ?_
        show OwnOk p e below _ (T97.setTop (mkF m 155 #[.val (.int p1), .val (.int p2), .val (.int p3), .val (.ref b11), .val (.ref b20), .val (.ref b29), .val (.int i), .val (.int j), .val (.int md), .val (.ref b75), .val (.ref b86), .unset] [(.int j), (.int i)]))
        by_cases hij : i = j
        · refine own_up (fun tx kx => XS.icmpNo X97.here hx rfl (hb hby at_155) rfl (teq hij).2 kx) ?_
          show OwnOk p e below _ (T97.setTop (mkF m 158 #[.val (.int p1), .val (.int p2), .val (.int p3), .val (.ref b11), .val (.ref b20), .val (.ref b29), .val (.int i), .val (.int j), .val (.int md), .val (.ref b75), .val (.ref b86), .unset] []))
          refine own_up (fun tx kx => XS.iconst X97.here hx rfl (hb hby at_158) kx) ?_
          show OwnOk p e below _ (T97.setTop (mkF m 159 #[.val (.int p1), .val (.int p2), .val (.int p3), .val (.ref b11), .val (.ref b20), .val (.ref b29), .val (.int i), .val (.int j), .val (.int md), .val (.ref b75), .val (.ref b86), .unset] [(.int (1 : Int32))]))
          refine own_up (fun tx kx => XS.goto X97.here hx rfl (pc0 := 159) (pc' := 163) rfl (hb hby at_159) (by decide) (by decide) kx) ?_
          show OwnOk p e below _ (T97.setTop (mkF m 163 #[.val (.int p1), .val (.int p2), .val (.int p3), .val (.ref b11), .val (.ref b20), .val (.ref b29), .val (.int i), .val (.int j), .val (.int md), .val (.ref b75), .val (.ref b86), .unset] [(.int (1 : Int32))]))
          refine own_up (fun tx kx => XS.istore X97.here hx rfl (hb hby at_163) rfl (l' := #[.val (.int p1), .val (.int p2), .val (.int p3), .val (.ref b11), .val (.ref b20), .val (.ref b29), .val (.int i), .val (.int j), .val (.int md), .val (.ref b75), .val (.ref b86), .val (.int (1 : Int32))]) rfl kx) ?_
          show OwnOk p e below _ (T97.setTop (mkF m 165 #[.val (.int p1), .val (.int p2), .val (.int p3), .val (.ref b11), .val (.ref b20), .val (.ref b29), .val (.int i), .val (.int j), .val (.int md), .val (.ref b75), .val (.ref b86), .val (.int (1 : Int32))] []))
          refine own_up (fun tx kx => XS.goto X97.here hx rfl (pc0 := 165) (pc' := 209) rfl (hb hby at_165) (by decide) (by decide) kx) ?_
          show OwnOk p e below _ (T97.setTop (mkF m 209 #[.val (.int p1), .val (.int p2), .val (.int p3), .val (.ref b11), .val (.ref b20), .val (.ref b29), .val (.int i), .val (.int j), .val (.int md), .val (.ref b75), .val (.ref b86), .val (.int (1 : Int32))] []))
          refine own_up (fun tx kx => XS.aload X97.here hx rfl (hb hby at_209) rfl rfl kx) ?_
          show OwnOk p e below _ (T97.setTop (mkF m 211 #[.val (.int p1), .val (.int p2), .val (.int p3), .val (.ref b11), .val (.ref b20), .val (.ref b29), .val (.int i), .val (.int j), .val (.int md), .val (.ref b75), .val (.ref b86), .val (.int (1 : Int32))] [(.ref b75)]))
          refine own_up (fun tx kx => XS.aload X97.here hx rfl (hb hby at_211) rfl rfl kx) ?_
          show OwnOk p e below _ (T97.setTop (mkF m 213 #[.val (.int p1), .val (.int p2), .val (.int p3), .val (.ref b11), .val (.ref b20), .val (.ref b29), .val (.int i), .val (.int j), .val (.int md), .val (.ref b75), .val (.ref b86), .val (.int (1 : Int32))] [(.ref b86), (.ref b75)]))
          have F_b75_98 := ((fq85.ext E86).keep Kq97 (ninS (Nat.ne_of_lt lt_b75_b86) nin0))
          have E_b75_100 := ((Eq85.ext E86).keep Kq97)
          refine own_callV X97 hx hZ (y := (⟨"com/example/kwery/kwery/Comparisons$Identity", "equals", "(Ljava/lang/Object;)Z"⟩ : MethodName)) (z := (⟨"com/example/kwery/kwery/Comparisons$Identity", "equals", "(Ljava/lang/Object;)Z"⟩ : MethodName)) hown (wd_47 hw) (wd_48 hw) (notFace_of_selects (args := #[]) (mvT hZ (wd_50 hw))) (wd_50 hw) (wd_49 hw) (wd_35 hw) (wd_51 hw) (by decide) (rm9i l Z a0 hw b75 b86 .null .null T97.heap n0 OL97 Eq97 fq97 F_b75_98 rfl rfl) rfl (argsL := [(.ref b86)]) (rest := []) E_b75_100 (by rw [hml]; rfl) (lenOf pd_3 rfl) rfl rfl (W := 0) rfl (hb hby at_213) (by decide) (by decide) (by decide) (by decide) (fun T99 v99 L99 X99 hQ99 => ?_)
          obtain ⟨rfl, Nq99, hh99⟩ := hQ99
          have N99 := Fr.app N97 Nq99
          show OwnOk p e below _ (T99.setTop (mkF m 216 #[.val (.int p1), .val (.int p2), .val (.int p3), .val (.ref b11), .val (.ref b20), .val (.ref b29), .val (.int i), .val (.int j), .val (.int md), .val (.ref b75), .val (.ref b86), .val (.int (1 : Int32))] [(.int (if Value.null = .null then 1 else 0 : Int32))]))
          refine own_up (fun tx kx => XS.iload X99.here hx rfl (hb hby at_216) rfl kx) ?_
          show OwnOk p e below _ (T99.setTop (mkF m 218 #[.val (.int p1), .val (.int p2), .val (.int p3), .val (.ref b11), .val (.ref b20), .val (.ref b29), .val (.int i), .val (.int j), .val (.int md), .val (.ref b75), .val (.ref b86), .val (.int (1 : Int32))] [(.int (1 : Int32)), (.int (if Value.null = .null then 1 else 0 : Int32))]))
          refine own_up (fun tx kx => XS.icmpNo X99.here hx rfl (hb hby at_218) rfl (teq (if_pos rfl)).2 kx) ?_
          show OwnOk p e below _ (T99.setTop (mkF m 221 #[.val (.int p1), .val (.int p2), .val (.int p3), .val (.ref b11), .val (.ref b20), .val (.ref b29), .val (.int i), .val (.int j), .val (.int md), .val (.ref b75), .val (.ref b86), .val (.int (1 : Int32))] []))
          refine own_up (fun tx kx => XS.iconst X99.here hx rfl (hb hby at_221) kx) ?_
          show OwnOk p e below _ (T99.setTop (mkF m 222 #[.val (.int p1), .val (.int p2), .val (.int p3), .val (.ref b11), .val (.ref b20), .val (.ref b29), .val (.int i), .val (.int j), .val (.int md), .val (.ref b75), .val (.ref b86), .val (.int (1 : Int32))] [(.int (1 : Int32))]))
          refine own_up (fun tx kx => XS.goto X99.here hx rfl (pc0 := 222) (pc' := 226) rfl (hb hby at_222) (by decide) (by decide) kx) ?_
          show OwnOk p e below _ (T99.setTop (mkF m 226 #[.val (.int p1), .val (.int p2), .val (.int p3), .val (.ref b11), .val (.ref b20), .val (.ref b29), .val (.int i), .val (.int j), .val (.int md), .val (.ref b75), .val (.ref b86), .val (.int (1 : Int32))] [(.int (1 : Int32))]))
          refine own_retN X99 hx (t := .boolean) (show meth.sig.returnType = some .boolean from hret) (by simp) hlk (hb hby at_226) (z' := (1 : Int32)) rfl hh99 (Nat.le_of_ble_eq_true rfl) (Nat.le_of_ble_eq_true rfl) ?_
          exact ⟨rfl, N99⟩
        · refine own_up (fun tx kx => XS.icmpYes X97.here hx rfl (pc0 := 155) (pc' := 162) rfl (hb hby at_155) rfl (feq hij).2 (by decide) (by decide) kx) ?_
          show OwnOk p e below _ (T97.setTop (mkF m 162 #[.val (.int p1), .val (.int p2), .val (.int p3), .val (.ref b11), .val (.ref b20), .val (.ref b29), .val (.int i), .val (.int j), .val (.int md), .val (.ref b75), .val (.ref b86), .unset] []))
          exact absurd (zi.trans zj.symm) hij
      · have V_b29_101 := (V_b29_90.ext E86)
        obtain ⟨cl102, Ar102, qc102, Sz102, Nn102, Hs102, Gf102⟩ := id V_b29_101
        have hin102 : ¬ (j < 0 ∨ cl102.slots.size ≤ (j).toNatClampNeg) := inb_of Sz102 (own_in hj)
        have hat102 : cl102.slots[(j).toNatClampNeg]? = some (.ref uj) := Hs102.at hin102 atj
        refine own_up (fun tx kx => X86.aaload hx (j := j) (v := (.ref uj)) (own_ar e86 Ar102.1) (State.isArrayOf_alike hZ.alike Ar102.2.1) rfl Ar102.2.2 hin102 hat102 (g := (mkF m 145 #[.val (.int p1), .val (.int p2), .val (.int p3), .val (.ref b11), .val (.ref b20), .val (.ref b29), .val (.int i), .val (.int j), .val (.int md), .val (.ref b75), .unset, .unset] [(.int j), (.ref b29), (.ref b86), (.ref b86)])) rfl rfl (hb hby at_145) _ kx) ?_
        show OwnOk p e below _ (T86.setTop (mkF m 146 #[.val (.int p1), .val (.int p2), .val (.int p3), .val (.ref b11), .val (.ref b20), .val (.ref b29), .val (.int i), .val (.int j), .val (.int md), .val (.ref b75), .unset, .unset] [(.ref uj), (.ref b86), (.ref b86)]))
        have E_b36_103 := (E_b36_91.ext E86)
        have E_b48_104 := (E_b48_92.ext E86)
        have E_b61_105 := (E_b61_93.ext E86)
        have Euj : Exa Z h86 uj "java/lang/String" := by rcases isj with ⟨_, rfl⟩ | ⟨_, rfl⟩ | ⟨_, rfl⟩ <;> first | exact E_b36_103 | exact E_b48_104 | exact E_b61_105
        refine own_callC X86 hx hZ (y := (⟨"com/example/kwery/kwery/Comparisons$Identity", "<init>", "(Ljava/lang/Object;)V"⟩ : MethodName)) rfl hown (wd_36 hw) (wd_37 hw) (wd_35 hw) (wd_38 hw) (by decide) (rm7r l Z a0 hw b86 uj h86 n0 OL94 A86 F_object_b86 n0_b86) e86 (argsL := [(.ref uj)]) (rest := [(.ref b86)]) (a := b86) (by rw [hml]; rfl) (lenOf pd_2 rfl) rfl rfl (W := 1) rfl (hb hby at_146) (by decide) (by decide) (by decide) (by decide) (fun T106 v106 L106 X106 hQ106 => ?_)
        obtain ⟨rfl, Nq106, Kq106, Eq106, fq106⟩ := hQ106
        have N106 := Fr.app N85 Nq106
        have OL106 := OL94.keep Kq106 (allS n0_b86 all0)
        show OwnOk p e below _ (T106.setTop (mkF m 149 #[.val (.int p1), .val (.int p2), .val (.int p3), .val (.ref b11), .val (.ref b20), .val (.ref b29), .val (.int i), .val (.int j), .val (.int md), .val (.ref b75), .unset, .unset] [(.ref b86)]))
        refine own_up (fun tx kx => XS.astore X106.here hx rfl (hb hby at_149) rfl rfl (l' := #[.val (.int p1), .val (.int p2), .val (.int p3), .val (.ref b11), .val (.ref b20), .val (.ref b29), .val (.int i), .val (.int j), .val (.int md), .val (.ref b75), .val (.ref b86), .unset]) rfl kx) ?_
        show OwnOk p e below _ (T106.setTop (mkF m 151 #[.val (.int p1), .val (.int p2), .val (.int p3), .val (.ref b11), .val (.ref b20), .val (.ref b29), .val (.int i), .val (.int j), .val (.int md), .val (.ref b75), .val (.ref b86), .unset] []))
        refine own_up (fun tx kx => XS.iload X106.here hx rfl (hb hby at_151) rfl kx) ?_
        show OwnOk p e below _ (T106.setTop (mkF m 153 #[.val (.int p1), .val (.int p2), .val (.int p3), .val (.ref b11), .val (.ref b20), .val (.ref b29), .val (.int i), .val (.int j), .val (.int md), .val (.ref b75), .val (.ref b86), .unset] [(.int i)]))
        refine own_up (fun tx kx => XS.iload X106.here hx rfl (hb hby at_153) rfl kx) ?_
        show OwnOk p e below _ (T106.setTop (mkF m 155 #[.val (.int p1), .val (.int p2), .val (.int p3), .val (.ref b11), .val (.ref b20), .val (.ref b29), .val (.int i), .val (.int j), .val (.int md), .val (.ref b75), .val (.ref b86), .unset] [(.int j), (.int i)]))
        by_cases hij : i = j
        · refine own_up (fun tx kx => XS.icmpNo X106.here hx rfl (hb hby at_155) rfl (teq hij).2 kx) ?_
          show OwnOk p e below _ (T106.setTop (mkF m 158 #[.val (.int p1), .val (.int p2), .val (.int p3), .val (.ref b11), .val (.ref b20), .val (.ref b29), .val (.int i), .val (.int j), .val (.int md), .val (.ref b75), .val (.ref b86), .unset] []))
          exact absurd (hij.symm.trans zi) zj
        · refine own_up (fun tx kx => XS.icmpYes X106.here hx rfl (pc0 := 155) (pc' := 162) rfl (hb hby at_155) rfl (feq hij).2 (by decide) (by decide) kx) ?_
          show OwnOk p e below _ (T106.setTop (mkF m 162 #[.val (.int p1), .val (.int p2), .val (.int p3), .val (.ref b11), .val (.ref b20), .val (.ref b29), .val (.int i), .val (.int j), .val (.int md), .val (.ref b75), .val (.ref b86), .unset] []))
          refine own_up (fun tx kx => XS.iconst X106.here hx rfl (hb hby at_162) kx) ?_
          show OwnOk p e below _ (T106.setTop (mkF m 163 #[.val (.int p1), .val (.int p2), .val (.int p3), .val (.ref b11), .val (.ref b20), .val (.ref b29), .val (.int i), .val (.int j), .val (.int md), .val (.ref b75), .val (.ref b86), .unset] [(.int (0 : Int32))]))
          refine own_up (fun tx kx => XS.istore X106.here hx rfl (hb hby at_163) rfl (l' := #[.val (.int p1), .val (.int p2), .val (.int p3), .val (.ref b11), .val (.ref b20), .val (.ref b29), .val (.int i), .val (.int j), .val (.int md), .val (.ref b75), .val (.ref b86), .val (.int (0 : Int32))]) rfl kx) ?_
          show OwnOk p e below _ (T106.setTop (mkF m 165 #[.val (.int p1), .val (.int p2), .val (.int p3), .val (.ref b11), .val (.ref b20), .val (.ref b29), .val (.int i), .val (.int j), .val (.int md), .val (.ref b75), .val (.ref b86), .val (.int (0 : Int32))] []))
          refine own_up (fun tx kx => XS.goto X106.here hx rfl (pc0 := 165) (pc' := 209) rfl (hb hby at_165) (by decide) (by decide) kx) ?_
          show OwnOk p e below _ (T106.setTop (mkF m 209 #[.val (.int p1), .val (.int p2), .val (.int p3), .val (.ref b11), .val (.ref b20), .val (.ref b29), .val (.int i), .val (.int j), .val (.int md), .val (.ref b75), .val (.ref b86), .val (.int (0 : Int32))] []))
          refine own_up (fun tx kx => XS.aload X106.here hx rfl (hb hby at_209) rfl rfl kx) ?_
          show OwnOk p e below _ (T106.setTop (mkF m 211 #[.val (.int p1), .val (.int p2), .val (.int p3), .val (.ref b11), .val (.ref b20), .val (.ref b29), .val (.int i), .val (.int j), .val (.int md), .val (.ref b75), .val (.ref b86), .val (.int (0 : Int32))] [(.ref b75)]))
          refine own_up (fun tx kx => XS.aload X106.here hx rfl (hb hby at_211) rfl rfl kx) ?_
          show OwnOk p e below _ (T106.setTop (mkF m 213 #[.val (.int p1), .val (.int p2), .val (.int p3), .val (.ref b11), .val (.ref b20), .val (.ref b29), .val (.int i), .val (.int j), .val (.int md), .val (.ref b75), .val (.ref b86), .val (.int (0 : Int32))] [(.ref b86), (.ref b75)]))
          have F_b75_107 := ((fq85.ext E86).keep Kq106 (ninS (Nat.ne_of_lt lt_b75_b86) nin0))
          have E_b75_109 := ((Eq85.ext E86).keep Kq106)
          refine own_callV X106 hx hZ (y := (⟨"com/example/kwery/kwery/Comparisons$Identity", "equals", "(Ljava/lang/Object;)Z"⟩ : MethodName)) (z := (⟨"com/example/kwery/kwery/Comparisons$Identity", "equals", "(Ljava/lang/Object;)Z"⟩ : MethodName)) hown (wd_47 hw) (wd_48 hw) (notFace_of_selects (args := #[]) (mvT hZ (wd_50 hw))) (wd_50 hw) (wd_49 hw) (wd_35 hw) (wd_51 hw) (by decide) (rm9i l Z a0 hw b75 b86 .null (.ref uj) T106.heap n0 OL106 Eq106 fq106 F_b75_107 rfl rfl) rfl (argsL := [(.ref b86)]) (rest := []) E_b75_109 (by rw [hml]; rfl) (lenOf pd_3 rfl) rfl rfl (W := 0) rfl (hb hby at_213) (by decide) (by decide) (by decide) (by decide) (fun T108 v108 L108 X108 hQ108 => ?_)
          obtain ⟨rfl, Nq108, hh108⟩ := hQ108
          have N108 := Fr.app N106 Nq108
          show OwnOk p e below _ (T108.setTop (mkF m 216 #[.val (.int p1), .val (.int p2), .val (.int p3), .val (.ref b11), .val (.ref b20), .val (.ref b29), .val (.int i), .val (.int j), .val (.int md), .val (.ref b75), .val (.ref b86), .val (.int (0 : Int32))] [(.int (if (Value.ref uj) = .null then 1 else 0 : Int32))]))
          refine own_up (fun tx kx => XS.iload X108.here hx rfl (hb hby at_216) rfl kx) ?_
          show OwnOk p e below _ (T108.setTop (mkF m 218 #[.val (.int p1), .val (.int p2), .val (.int p3), .val (.ref b11), .val (.ref b20), .val (.ref b29), .val (.int i), .val (.int j), .val (.int md), .val (.ref b75), .val (.ref b86), .val (.int (0 : Int32))] [(.int (0 : Int32)), (.int (if (Value.ref uj) = .null then 1 else 0 : Int32))]))
          refine own_up (fun tx kx => XS.icmpNo X108.here hx rfl (hb hby at_218) rfl (teq (if_neg nofun)).2 kx) ?_
          show OwnOk p e below _ (T108.setTop (mkF m 221 #[.val (.int p1), .val (.int p2), .val (.int p3), .val (.ref b11), .val (.ref b20), .val (.ref b29), .val (.int i), .val (.int j), .val (.int md), .val (.ref b75), .val (.ref b86), .val (.int (0 : Int32))] []))
          refine own_up (fun tx kx => XS.iconst X108.here hx rfl (hb hby at_221) kx) ?_
          show OwnOk p e below _ (T108.setTop (mkF m 222 #[.val (.int p1), .val (.int p2), .val (.int p3), .val (.ref b11), .val (.ref b20), .val (.ref b29), .val (.int i), .val (.int j), .val (.int md), .val (.ref b75), .val (.ref b86), .val (.int (0 : Int32))] [(.int (1 : Int32))]))
          refine own_up (fun tx kx => XS.goto X108.here hx rfl (pc0 := 222) (pc' := 226) rfl (hb hby at_222) (by decide) (by decide) kx) ?_
          show OwnOk p e below _ (T108.setTop (mkF m 226 #[.val (.int p1), .val (.int p2), .val (.int p3), .val (.ref b11), .val (.ref b20), .val (.ref b29), .val (.int i), .val (.int j), .val (.int md), .val (.ref b75), .val (.ref b86), .val (.int (0 : Int32))] [(.int (1 : Int32))]))
          refine own_retN X108 hx (t := .boolean) (show meth.sig.returnType = some .boolean from hret) (by simp) hlk (hb hby at_226) (z' := (1 : Int32)) rfl hh108 (Nat.le_of_ble_eq_true rfl) (Nat.le_of_ble_eq_true rfl) ?_
          exact ⟨rfl, N108⟩
    · refine own_up (fun tx kx => XS.ifYes X85.here hx rfl (pc0 := 134) (pc' := 168) rfl (hb hby at_134) rfl ((if0 _ _).trans (feq hm0).2) (by decide) (by decide) kx) ?_
      show OwnOk p e below _ (T85.setTop (mkF m 168 #[.val (.int p1), .val (.int p2), .val (.int p3), .val (.ref b11), .val (.ref b20), .val (.ref b29), .val (.int i), .val (.int j), .val (.int md), .val (.ref b75), .unset, .unset] []))
      refine own_up (fun tx kx => XS.iload X85.here hx rfl (hb hby at_168) rfl kx) ?_
      show OwnOk p e below _ (T85.setTop (mkF m 170 #[.val (.int p1), .val (.int p2), .val (.int p3), .val (.ref b11), .val (.ref b20), .val (.ref b29), .val (.int i), .val (.int j), .val (.int md), .val (.ref b75), .unset, .unset] [(.int md)]))
      refine own_up (fun tx kx => XS.iconst X85.here hx rfl (hb hby at_170) kx) ?_
      show OwnOk p e below _ (T85.setTop (mkF m 171 #[.val (.int p1), .val (.int p2), .val (.int p3), .val (.ref b11), .val (.ref b20), .val (.ref b29), .val (.int i), .val (.int j), .val (.int md), .val (.ref b75), .unset, .unset] [(.int (1 : Int32)), (.int md)]))
      by_cases hm1 : md = (1 : Int32)
      · refine own_up (fun tx kx => XS.icmpNo X85.here hx rfl (hb hby at_171) rfl (teq hm1).2 kx) ?_
        show OwnOk p e below _ (T85.setTop (mkF m 174 #[.val (.int p1), .val (.int p2), .val (.int p3), .val (.ref b11), .val (.ref b20), .val (.ref b29), .val (.int i), .val (.int j), .val (.int md), .val (.ref b75), .unset, .unset] []))
        refine own_up (fun tx kx => XS.aconstNull X85.here hx rfl (hb hby at_174) kx) ?_
        show OwnOk p e below _ (T85.setTop (mkF m 175 #[.val (.int p1), .val (.int p2), .val (.int p3), .val (.ref b11), .val (.ref b20), .val (.ref b29), .val (.int i), .val (.int j), .val (.int md), .val (.ref b75), .unset, .unset] [.null]))
        refine own_up (fun tx kx => XS.astore X85.here hx rfl (hb hby at_175) rfl rfl (l' := #[.val (.int p1), .val (.int p2), .val (.int p3), .val (.ref b11), .val (.ref b20), .val (.ref b29), .val (.int i), .val (.int j), .val (.int md), .val (.ref b75), .val .null, .unset]) rfl kx) ?_
        show OwnOk p e below _ (T85.setTop (mkF m 177 #[.val (.int p1), .val (.int p2), .val (.int p3), .val (.ref b11), .val (.ref b20), .val (.ref b29), .val (.int i), .val (.int j), .val (.int md), .val (.ref b75), .val .null, .unset] []))
        refine own_up (fun tx kx => XS.iconst X85.here hx rfl (hb hby at_177) kx) ?_
        show OwnOk p e below _ (T85.setTop (mkF m 178 #[.val (.int p1), .val (.int p2), .val (.int p3), .val (.ref b11), .val (.ref b20), .val (.ref b29), .val (.int i), .val (.int j), .val (.int md), .val (.ref b75), .val .null, .unset] [(.int (0 : Int32))]))
        refine own_up (fun tx kx => XS.istore X85.here hx rfl (hb hby at_178) rfl (l' := #[.val (.int p1), .val (.int p2), .val (.int p3), .val (.ref b11), .val (.ref b20), .val (.ref b29), .val (.int i), .val (.int j), .val (.int md), .val (.ref b75), .val .null, .val (.int (0 : Int32))]) rfl kx) ?_
        show OwnOk p e below _ (T85.setTop (mkF m 180 #[.val (.int p1), .val (.int p2), .val (.int p3), .val (.ref b11), .val (.ref b20), .val (.ref b29), .val (.int i), .val (.int j), .val (.int md), .val (.ref b75), .val .null, .val (.int (0 : Int32))] []))
        refine own_up (fun tx kx => XS.goto X85.here hx rfl (pc0 := 180) (pc' := 209) rfl (hb hby at_180) (by decide) (by decide) kx) ?_
        show OwnOk p e below _ (T85.setTop (mkF m 209 #[.val (.int p1), .val (.int p2), .val (.int p3), .val (.ref b11), .val (.ref b20), .val (.ref b29), .val (.int i), .val (.int j), .val (.int md), .val (.ref b75), .val .null, .val (.int (0 : Int32))] []))
        refine own_up (fun tx kx => XS.aload X85.here hx rfl (hb hby at_209) rfl rfl kx) ?_
        show OwnOk p e below _ (T85.setTop (mkF m 211 #[.val (.int p1), .val (.int p2), .val (.int p3), .val (.ref b11), .val (.ref b20), .val (.ref b29), .val (.int i), .val (.int j), .val (.int md), .val (.ref b75), .val .null, .val (.int (0 : Int32))] [(.ref b75)]))
        refine own_up (fun tx kx => XS.aload X85.here hx rfl (hb hby at_211) rfl rfl kx) ?_
        show OwnOk p e below _ (T85.setTop (mkF m 213 #[.val (.int p1), .val (.int p2), .val (.int p3), .val (.ref b11), .val (.ref b20), .val (.ref b29), .val (.int i), .val (.int j), .val (.int md), .val (.ref b75), .val .null, .val (.int (0 : Int32))] [.null, (.ref b75)]))
        refine own_callV X85 hx hZ (y := (⟨"com/example/kwery/kwery/Comparisons$Identity", "equals", "(Ljava/lang/Object;)Z"⟩ : MethodName)) (z := (⟨"com/example/kwery/kwery/Comparisons$Identity", "equals", "(Ljava/lang/Object;)Z"⟩ : MethodName)) hown (wd_47 hw) (wd_48 hw) (notFace_of_selects (args := #[]) (mvT hZ (wd_50 hw))) (wd_50 hw) (wd_49 hw) (wd_35 hw) (wd_51 hw) (by decide) (rm9n l Z a0 hw b75 T85.heap n0 OL85) rfl (argsL := [.null]) (rest := []) Eq85 (by rw [hml]; rfl) (lenOf pd_3 rfl) rfl rfl (W := 0) rfl (hb hby at_213) (by decide) (by decide) (by decide) (by decide) (fun T110 v110 L110 X110 hQ110 => ?_)
        obtain ⟨rfl, Nq110, hh110⟩ := hQ110
        have N110 := Fr.app N85 Nq110
        show OwnOk p e below _ (T110.setTop (mkF m 216 #[.val (.int p1), .val (.int p2), .val (.int p3), .val (.ref b11), .val (.ref b20), .val (.ref b29), .val (.int i), .val (.int j), .val (.int md), .val (.ref b75), .val .null, .val (.int (0 : Int32))] [(.int (0 : Int32))]))
        refine own_up (fun tx kx => XS.iload X110.here hx rfl (hb hby at_216) rfl kx) ?_
        show OwnOk p e below _ (T110.setTop (mkF m 218 #[.val (.int p1), .val (.int p2), .val (.int p3), .val (.ref b11), .val (.ref b20), .val (.ref b29), .val (.int i), .val (.int j), .val (.int md), .val (.ref b75), .val .null, .val (.int (0 : Int32))] [(.int (0 : Int32)), (.int (0 : Int32))]))
        refine own_up (fun tx kx => XS.icmpNo X110.here hx rfl (hb hby at_218) rfl (teq rfl).2 kx) ?_
        show OwnOk p e below _ (T110.setTop (mkF m 221 #[.val (.int p1), .val (.int p2), .val (.int p3), .val (.ref b11), .val (.ref b20), .val (.ref b29), .val (.int i), .val (.int j), .val (.int md), .val (.ref b75), .val .null, .val (.int (0 : Int32))] []))
        refine own_up (fun tx kx => XS.iconst X110.here hx rfl (hb hby at_221) kx) ?_
        show OwnOk p e below _ (T110.setTop (mkF m 222 #[.val (.int p1), .val (.int p2), .val (.int p3), .val (.ref b11), .val (.ref b20), .val (.ref b29), .val (.int i), .val (.int j), .val (.int md), .val (.ref b75), .val .null, .val (.int (0 : Int32))] [(.int (1 : Int32))]))
        refine own_up (fun tx kx => XS.goto X110.here hx rfl (pc0 := 222) (pc' := 226) rfl (hb hby at_222) (by decide) (by decide) kx) ?_
        show OwnOk p e below _ (T110.setTop (mkF m 226 #[.val (.int p1), .val (.int p2), .val (.int p3), .val (.ref b11), .val (.ref b20), .val (.ref b29), .val (.int i), .val (.int j), .val (.int md), .val (.ref b75), .val .null, .val (.int (0 : Int32))] [(.int (1 : Int32))]))
        refine own_retN X110 hx (t := .boolean) (show meth.sig.returnType = some .boolean from hret) (by simp) hlk (hb hby at_226) (z' := (1 : Int32)) rfl hh110 (Nat.le_of_ble_eq_true rfl) (Nat.le_of_ble_eq_true rfl) ?_
        exact ⟨rfl, N110⟩
      · refine own_up (fun tx kx => XS.icmpYes X85.here hx rfl (pc0 := 171) (pc' := 183) rfl (hb hby at_171) rfl (feq hm1).2 (by decide) (by decide) kx) ?_
        show OwnOk p e below _ (T85.setTop (mkF m 183 #[.val (.int p1), .val (.int p2), .val (.int p3), .val (.ref b11), .val (.ref b20), .val (.ref b29), .val (.int i), .val (.int j), .val (.int md), .val (.ref b75), .unset, .unset] []))
        refine own_up (fun tx kx => XS.iload X85.here hx rfl (hb hby at_183) rfl kx) ?_
        show OwnOk p e below _ (T85.setTop (mkF m 185 #[.val (.int p1), .val (.int p2), .val (.int p3), .val (.ref b11), .val (.ref b20), .val (.ref b29), .val (.int i), .val (.int j), .val (.int md), .val (.ref b75), .unset, .unset] [(.int md)]))
        refine own_up (fun tx kx => XS.iconst X85.here hx rfl (hb hby at_185) kx) ?_
        show OwnOk p e below _ (T85.setTop (mkF m 186 #[.val (.int p1), .val (.int p2), .val (.int p3), .val (.ref b11), .val (.ref b20), .val (.ref b29), .val (.int i), .val (.int j), .val (.int md), .val (.ref b75), .unset, .unset] [(.int (2 : Int32)), (.int md)]))
        by_cases hm2 : md = (2 : Int32)
        · refine own_up (fun tx kx => XS.icmpNo X85.here hx rfl (hb hby at_186) rfl (teq hm2).2 kx) ?_
          show OwnOk p e below _ (T85.setTop (mkF m 189 #[.val (.int p1), .val (.int p2), .val (.int p3), .val (.ref b11), .val (.ref b20), .val (.ref b29), .val (.int i), .val (.int j), .val (.int md), .val (.ref b75), .unset, .unset] []))
          refine own_up (fun tx kx => XS.aload X85.here hx rfl (hb hby at_189) rfl rfl kx) ?_
          show OwnOk p e below _ (T85.setTop (mkF m 191 #[.val (.int p1), .val (.int p2), .val (.int p3), .val (.ref b11), .val (.ref b20), .val (.ref b29), .val (.int i), .val (.int j), .val (.int md), .val (.ref b75), .unset, .unset] [(.ref b29)]))
          refine own_up (fun tx kx => XS.iload X85.here hx rfl (hb hby at_191) rfl kx) ?_
          show OwnOk p e below _ (T85.setTop (mkF m 193 #[.val (.int p1), .val (.int p2), .val (.int p3), .val (.ref b11), .val (.ref b20), .val (.ref b29), .val (.int i), .val (.int j), .val (.int md), .val (.ref b75), .unset, .unset] [(.int j), (.ref b29)]))
          rcases own_at b36 b48 b61 hj with ⟨zj, atj⟩ | ⟨uj, zj, atj, isj⟩
          · have V_b29_111 := (V_b29_83.keep Kq85 (ninS (Nat.ne_of_lt lt_b29_b75) nin0))
            obtain ⟨cl112, Ar112, qc112, Sz112, Nn112, Hs112, Gf112⟩ := id V_b29_111
            have hin112 : ¬ (j < 0 ∨ cl112.slots.size ≤ (j).toNatClampNeg) := inb_of Sz112 (own_in hj)
            have hat112 : cl112.slots[(j).toNatClampNeg]? = some .null := Hs112.at hin112 atj
            refine own_up (fun tx kx => X85.aaload hx (j := j) (v := .null) (own_ar rfl Ar112.1) (State.isArrayOf_alike hZ.alike Ar112.2.1) rfl Ar112.2.2 hin112 hat112 (g := (mkF m 193 #[.val (.int p1), .val (.int p2), .val (.int p3), .val (.ref b11), .val (.ref b20), .val (.ref b29), .val (.int i), .val (.int j), .val (.int md), .val (.ref b75), .unset, .unset] [(.int j), (.ref b29)])) rfl rfl (hb hby at_193) _ kx) ?_
            show OwnOk p e below _ (T85.setTop (mkF m 194 #[.val (.int p1), .val (.int p2), .val (.int p3), .val (.ref b11), .val (.ref b20), .val (.ref b29), .val (.int i), .val (.int j), .val (.int md), .val (.ref b75), .unset, .unset] [.null]))
            refine own_up (fun tx kx => XS.astore X85.here hx rfl (hb hby at_194) rfl rfl (l' := #[.val (.int p1), .val (.int p2), .val (.int p3), .val (.ref b11), .val (.ref b20), .val (.ref b29), .val (.int i), .val (.int j), .val (.int md), .val (.ref b75), .val .null, .unset]) rfl kx) ?_
            show OwnOk p e below _ (T85.setTop (mkF m 196 #[.val (.int p1), .val (.int p2), .val (.int p3), .val (.ref b11), .val (.ref b20), .val (.ref b29), .val (.int i), .val (.int j), .val (.int md), .val (.ref b75), .val .null, .unset] []))
            refine own_up (fun tx kx => XS.iconst X85.here hx rfl (hb hby at_196) kx) ?_
            show OwnOk p e below _ (T85.setTop (mkF m 197 #[.val (.int p1), .val (.int p2), .val (.int p3), .val (.ref b11), .val (.ref b20), .val (.ref b29), .val (.int i), .val (.int j), .val (.int md), .val (.ref b75), .val .null, .unset] [(.int (0 : Int32))]))
            refine own_up (fun tx kx => XS.istore X85.here hx rfl (hb hby at_197) rfl (l' := #[.val (.int p1), .val (.int p2), .val (.int p3), .val (.ref b11), .val (.ref b20), .val (.ref b29), .val (.int i), .val (.int j), .val (.int md), .val (.ref b75), .val .null, .val (.int (0 : Int32))]) rfl kx) ?_
            show OwnOk p e below _ (T85.setTop (mkF m 199 #[.val (.int p1), .val (.int p2), .val (.int p3), .val (.ref b11), .val (.ref b20), .val (.ref b29), .val (.int i), .val (.int j), .val (.int md), .val (.ref b75), .val .null, .val (.int (0 : Int32))] []))
            refine own_up (fun tx kx => XS.goto X85.here hx rfl (pc0 := 199) (pc' := 209) rfl (hb hby at_199) (by decide) (by decide) kx) ?_
            show OwnOk p e below _ (T85.setTop (mkF m 209 #[.val (.int p1), .val (.int p2), .val (.int p3), .val (.ref b11), .val (.ref b20), .val (.ref b29), .val (.int i), .val (.int j), .val (.int md), .val (.ref b75), .val .null, .val (.int (0 : Int32))] []))
            refine own_up (fun tx kx => XS.aload X85.here hx rfl (hb hby at_209) rfl rfl kx) ?_
            show OwnOk p e below _ (T85.setTop (mkF m 211 #[.val (.int p1), .val (.int p2), .val (.int p3), .val (.ref b11), .val (.ref b20), .val (.ref b29), .val (.int i), .val (.int j), .val (.int md), .val (.ref b75), .val .null, .val (.int (0 : Int32))] [(.ref b75)]))
            refine own_up (fun tx kx => XS.aload X85.here hx rfl (hb hby at_211) rfl rfl kx) ?_
            show OwnOk p e below _ (T85.setTop (mkF m 213 #[.val (.int p1), .val (.int p2), .val (.int p3), .val (.ref b11), .val (.ref b20), .val (.ref b29), .val (.int i), .val (.int j), .val (.int md), .val (.ref b75), .val .null, .val (.int (0 : Int32))] [.null, (.ref b75)]))
            refine own_callV X85 hx hZ (y := (⟨"com/example/kwery/kwery/Comparisons$Identity", "equals", "(Ljava/lang/Object;)Z"⟩ : MethodName)) (z := (⟨"com/example/kwery/kwery/Comparisons$Identity", "equals", "(Ljava/lang/Object;)Z"⟩ : MethodName)) hown (wd_47 hw) (wd_48 hw) (notFace_of_selects (args := #[]) (mvT hZ (wd_50 hw))) (wd_50 hw) (wd_49 hw) (wd_35 hw) (wd_51 hw) (by decide) (rm9n l Z a0 hw b75 T85.heap n0 OL85) rfl (argsL := [.null]) (rest := []) Eq85 (by rw [hml]; rfl) (lenOf pd_3 rfl) rfl rfl (W := 0) rfl (hb hby at_213) (by decide) (by decide) (by decide) (by decide) (fun T113 v113 L113 X113 hQ113 => ?_)
            obtain ⟨rfl, Nq113, hh113⟩ := hQ113
            have N113 := Fr.app N85 Nq113
            show OwnOk p e below _ (T113.setTop (mkF m 216 #[.val (.int p1), .val (.int p2), .val (.int p3), .val (.ref b11), .val (.ref b20), .val (.ref b29), .val (.int i), .val (.int j), .val (.int md), .val (.ref b75), .val .null, .val (.int (0 : Int32))] [(.int (0 : Int32))]))
            refine own_up (fun tx kx => XS.iload X113.here hx rfl (hb hby at_216) rfl kx) ?_
            show OwnOk p e below _ (T113.setTop (mkF m 218 #[.val (.int p1), .val (.int p2), .val (.int p3), .val (.ref b11), .val (.ref b20), .val (.ref b29), .val (.int i), .val (.int j), .val (.int md), .val (.ref b75), .val .null, .val (.int (0 : Int32))] [(.int (0 : Int32)), (.int (0 : Int32))]))
            refine own_up (fun tx kx => XS.icmpNo X113.here hx rfl (hb hby at_218) rfl (teq rfl).2 kx) ?_
            show OwnOk p e below _ (T113.setTop (mkF m 221 #[.val (.int p1), .val (.int p2), .val (.int p3), .val (.ref b11), .val (.ref b20), .val (.ref b29), .val (.int i), .val (.int j), .val (.int md), .val (.ref b75), .val .null, .val (.int (0 : Int32))] []))
            refine own_up (fun tx kx => XS.iconst X113.here hx rfl (hb hby at_221) kx) ?_
            show OwnOk p e below _ (T113.setTop (mkF m 222 #[.val (.int p1), .val (.int p2), .val (.int p3), .val (.ref b11), .val (.ref b20), .val (.ref b29), .val (.int i), .val (.int j), .val (.int md), .val (.ref b75), .val .null, .val (.int (0 : Int32))] [(.int (1 : Int32))]))
            refine own_up (fun tx kx => XS.goto X113.here hx rfl (pc0 := 222) (pc' := 226) rfl (hb hby at_222) (by decide) (by decide) kx) ?_
            show OwnOk p e below _ (T113.setTop (mkF m 226 #[.val (.int p1), .val (.int p2), .val (.int p3), .val (.ref b11), .val (.ref b20), .val (.ref b29), .val (.int i), .val (.int j), .val (.int md), .val (.ref b75), .val .null, .val (.int (0 : Int32))] [(.int (1 : Int32))]))
            refine own_retN X113 hx (t := .boolean) (show meth.sig.returnType = some .boolean from hret) (by simp) hlk (hb hby at_226) (z' := (1 : Int32)) rfl hh113 (Nat.le_of_ble_eq_true rfl) (Nat.le_of_ble_eq_true rfl) ?_
            exact ⟨rfl, N113⟩
          · have V_b29_114 := (V_b29_83.keep Kq85 (ninS (Nat.ne_of_lt lt_b29_b75) nin0))
            obtain ⟨cl115, Ar115, qc115, Sz115, Nn115, Hs115, Gf115⟩ := id V_b29_114
            have hin115 : ¬ (j < 0 ∨ cl115.slots.size ≤ (j).toNatClampNeg) := inb_of Sz115 (own_in hj)
            have hat115 : cl115.slots[(j).toNatClampNeg]? = some (.ref uj) := Hs115.at hin115 atj
            refine own_up (fun tx kx => X85.aaload hx (j := j) (v := (.ref uj)) (own_ar rfl Ar115.1) (State.isArrayOf_alike hZ.alike Ar115.2.1) rfl Ar115.2.2 hin115 hat115 (g := (mkF m 193 #[.val (.int p1), .val (.int p2), .val (.int p3), .val (.ref b11), .val (.ref b20), .val (.ref b29), .val (.int i), .val (.int j), .val (.int md), .val (.ref b75), .unset, .unset] [(.int j), (.ref b29)])) rfl rfl (hb hby at_193) _ kx) ?_
            show OwnOk p e below _ (T85.setTop (mkF m 194 #[.val (.int p1), .val (.int p2), .val (.int p3), .val (.ref b11), .val (.ref b20), .val (.ref b29), .val (.int i), .val (.int j), .val (.int md), .val (.ref b75), .unset, .unset] [(.ref uj)]))
            have E_b36_116 := ((E_b36_79.ext E75).keep Kq85)
            have E_b48_117 := ((E_b48_80.ext E75).keep Kq85)
            have E_b61_118 := ((E_b61_81.ext E75).keep Kq85)
            have Euj : Exa Z T85.heap uj "java/lang/String" := by rcases isj with ⟨_, rfl⟩ | ⟨_, rfl⟩ | ⟨_, rfl⟩ <;> first | exact E_b36_116 | exact E_b48_117 | exact E_b61_118
            refine own_up (fun tx kx => XS.astore X85.here hx rfl (hb hby at_194) rfl rfl (l' := #[.val (.int p1), .val (.int p2), .val (.int p3), .val (.ref b11), .val (.ref b20), .val (.ref b29), .val (.int i), .val (.int j), .val (.int md), .val (.ref b75), .val (.ref uj), .unset]) rfl kx) ?_
            show OwnOk p e below _ (T85.setTop (mkF m 196 #[.val (.int p1), .val (.int p2), .val (.int p3), .val (.ref b11), .val (.ref b20), .val (.ref b29), .val (.int i), .val (.int j), .val (.int md), .val (.ref b75), .val (.ref uj), .unset] []))
            refine own_up (fun tx kx => XS.iconst X85.here hx rfl (hb hby at_196) kx) ?_
            show OwnOk p e below _ (T85.setTop (mkF m 197 #[.val (.int p1), .val (.int p2), .val (.int p3), .val (.ref b11), .val (.ref b20), .val (.ref b29), .val (.int i), .val (.int j), .val (.int md), .val (.ref b75), .val (.ref uj), .unset] [(.int (0 : Int32))]))
            refine own_up (fun tx kx => XS.istore X85.here hx rfl (hb hby at_197) rfl (l' := #[.val (.int p1), .val (.int p2), .val (.int p3), .val (.ref b11), .val (.ref b20), .val (.ref b29), .val (.int i), .val (.int j), .val (.int md), .val (.ref b75), .val (.ref uj), .val (.int (0 : Int32))]) rfl kx) ?_
            show OwnOk p e below _ (T85.setTop (mkF m 199 #[.val (.int p1), .val (.int p2), .val (.int p3), .val (.ref b11), .val (.ref b20), .val (.ref b29), .val (.int i), .val (.int j), .val (.int md), .val (.ref b75), .val (.ref uj), .val (.int (0 : Int32))] []))
            refine own_up (fun tx kx => XS.goto X85.here hx rfl (pc0 := 199) (pc' := 209) rfl (hb hby at_199) (by decide) (by decide) kx) ?_
            show OwnOk p e below _ (T85.setTop (mkF m 209 #[.val (.int p1), .val (.int p2), .val (.int p3), .val (.ref b11), .val (.ref b20), .val (.ref b29), .val (.int i), .val (.int j), .val (.int md), .val (.ref b75), .val (.ref uj), .val (.int (0 : Int32))] []))
            refine own_up (fun tx kx => XS.aload X85.here hx rfl (hb hby at_209) rfl rfl kx) ?_
            show OwnOk p e below _ (T85.setTop (mkF m 211 #[.val (.int p1), .val (.int p2), .val (.int p3), .val (.ref b11), .val (.ref b20), .val (.ref b29), .val (.int i), .val (.int j), .val (.int md), .val (.ref b75), .val (.ref uj), .val (.int (0 : Int32))] [(.ref b75)]))
            refine own_up (fun tx kx => XS.aload X85.here hx rfl (hb hby at_211) rfl rfl kx) ?_
            show OwnOk p e below _ (T85.setTop (mkF m 213 #[.val (.int p1), .val (.int p2), .val (.int p3), .val (.ref b11), .val (.ref b20), .val (.ref b29), .val (.int i), .val (.int j), .val (.int md), .val (.ref b75), .val (.ref uj), .val (.int (0 : Int32))] [(.ref uj), (.ref b75)]))
            refine own_callV X85 hx hZ (y := (⟨"com/example/kwery/kwery/Comparisons$Identity", "equals", "(Ljava/lang/Object;)Z"⟩ : MethodName)) (z := (⟨"com/example/kwery/kwery/Comparisons$Identity", "equals", "(Ljava/lang/Object;)Z"⟩ : MethodName)) hown (wd_47 hw) (wd_48 hw) (notFace_of_selects (args := #[]) (mvT hZ (wd_50 hw))) (wd_50 hw) (wd_49 hw) (wd_35 hw) (wd_51 hw) (by decide) (rm9s l Z a0 hw b75 uj T85.heap n0 OL85 Euj) rfl (argsL := [(.ref uj)]) (rest := []) Eq85 (by rw [hml]; rfl) (lenOf pd_3 rfl) rfl rfl (W := 0) rfl (hb hby at_213) (by decide) (by decide) (by decide) (by decide) (fun T119 v119 L119 X119 hQ119 => ?_)
            obtain ⟨rfl, Nq119, hh119⟩ := hQ119
            have N119 := Fr.app N85 Nq119
            show OwnOk p e below _ (T119.setTop (mkF m 216 #[.val (.int p1), .val (.int p2), .val (.int p3), .val (.ref b11), .val (.ref b20), .val (.ref b29), .val (.int i), .val (.int j), .val (.int md), .val (.ref b75), .val (.ref uj), .val (.int (0 : Int32))] [(.int (0 : Int32))]))
            refine own_up (fun tx kx => XS.iload X119.here hx rfl (hb hby at_216) rfl kx) ?_
            show OwnOk p e below _ (T119.setTop (mkF m 218 #[.val (.int p1), .val (.int p2), .val (.int p3), .val (.ref b11), .val (.ref b20), .val (.ref b29), .val (.int i), .val (.int j), .val (.int md), .val (.ref b75), .val (.ref uj), .val (.int (0 : Int32))] [(.int (0 : Int32)), (.int (0 : Int32))]))
            refine own_up (fun tx kx => XS.icmpNo X119.here hx rfl (hb hby at_218) rfl (teq rfl).2 kx) ?_
            show OwnOk p e below _ (T119.setTop (mkF m 221 #[.val (.int p1), .val (.int p2), .val (.int p3), .val (.ref b11), .val (.ref b20), .val (.ref b29), .val (.int i), .val (.int j), .val (.int md), .val (.ref b75), .val (.ref uj), .val (.int (0 : Int32))] []))
            refine own_up (fun tx kx => XS.iconst X119.here hx rfl (hb hby at_221) kx) ?_
            show OwnOk p e below _ (T119.setTop (mkF m 222 #[.val (.int p1), .val (.int p2), .val (.int p3), .val (.ref b11), .val (.ref b20), .val (.ref b29), .val (.int i), .val (.int j), .val (.int md), .val (.ref b75), .val (.ref uj), .val (.int (0 : Int32))] [(.int (1 : Int32))]))
            refine own_up (fun tx kx => XS.goto X119.here hx rfl (pc0 := 222) (pc' := 226) rfl (hb hby at_222) (by decide) (by decide) kx) ?_
            show OwnOk p e below _ (T119.setTop (mkF m 226 #[.val (.int p1), .val (.int p2), .val (.int p3), .val (.ref b11), .val (.ref b20), .val (.ref b29), .val (.int i), .val (.int j), .val (.int md), .val (.ref b75), .val (.ref uj), .val (.int (0 : Int32))] [(.int (1 : Int32))]))
            refine own_retN X119 hx (t := .boolean) (show meth.sig.returnType = some .boolean from hret) (by simp) hlk (hb hby at_226) (z' := (1 : Int32)) rfl hh119 (Nat.le_of_ble_eq_true rfl) (Nat.le_of_ble_eq_true rfl) ?_
            exact ⟨rfl, N119⟩
        · refine own_up (fun tx kx => XS.icmpYes X85.here hx rfl (pc0 := 186) (pc' := 202) rfl (hb hby at_186) rfl (feq hm2).2 (by decide) (by decide) kx) ?_
          show OwnOk p e below _ (T85.setTop (mkF m 202 #[.val (.int p1), .val (.int p2), .val (.int p3), .val (.ref b11), .val (.ref b20), .val (.ref b29), .val (.int i), .val (.int j), .val (.int md), .val (.ref b75), .unset, .unset] []))
          refine own_up (fun tx kx => XS.aload X85.here hx rfl (hb hby at_202) rfl rfl kx) ?_
          show OwnOk p e below _ (T85.setTop (mkF m 204 #[.val (.int p1), .val (.int p2), .val (.int p3), .val (.ref b11), .val (.ref b20), .val (.ref b29), .val (.int i), .val (.int j), .val (.int md), .val (.ref b75), .unset, .unset] [(.ref b75)]))
          refine own_up (fun tx kx => XS.astore X85.here hx rfl (hb hby at_204) rfl rfl (l' := #[.val (.int p1), .val (.int p2), .val (.int p3), .val (.ref b11), .val (.ref b20), .val (.ref b29), .val (.int i), .val (.int j), .val (.int md), .val (.ref b75), .val (.ref b75), .unset]) rfl kx) ?_
          show OwnOk p e below _ (T85.setTop (mkF m 206 #[.val (.int p1), .val (.int p2), .val (.int p3), .val (.ref b11), .val (.ref b20), .val (.ref b29), .val (.int i), .val (.int j), .val (.int md), .val (.ref b75), .val (.ref b75), .unset] []))
          refine own_up (fun tx kx => XS.iconst X85.here hx rfl (hb hby at_206) kx) ?_
          show OwnOk p e below _ (T85.setTop (mkF m 207 #[.val (.int p1), .val (.int p2), .val (.int p3), .val (.ref b11), .val (.ref b20), .val (.ref b29), .val (.int i), .val (.int j), .val (.int md), .val (.ref b75), .val (.ref b75), .unset] [(.int (1 : Int32))]))
          refine own_up (fun tx kx => XS.istore X85.here hx rfl (hb hby at_207) rfl (l' := #[.val (.int p1), .val (.int p2), .val (.int p3), .val (.ref b11), .val (.ref b20), .val (.ref b29), .val (.int i), .val (.int j), .val (.int md), .val (.ref b75), .val (.ref b75), .val (.int (1 : Int32))]) rfl kx) ?_
          show OwnOk p e below _ (T85.setTop (mkF m 209 #[.val (.int p1), .val (.int p2), .val (.int p3), .val (.ref b11), .val (.ref b20), .val (.ref b29), .val (.int i), .val (.int j), .val (.int md), .val (.ref b75), .val (.ref b75), .val (.int (1 : Int32))] []))
          refine own_up (fun tx kx => XS.aload X85.here hx rfl (hb hby at_209) rfl rfl kx) ?_
          show OwnOk p e below _ (T85.setTop (mkF m 211 #[.val (.int p1), .val (.int p2), .val (.int p3), .val (.ref b11), .val (.ref b20), .val (.ref b29), .val (.int i), .val (.int j), .val (.int md), .val (.ref b75), .val (.ref b75), .val (.int (1 : Int32))] [(.ref b75)]))
          refine own_up (fun tx kx => XS.aload X85.here hx rfl (hb hby at_211) rfl rfl kx) ?_
          show OwnOk p e below _ (T85.setTop (mkF m 213 #[.val (.int p1), .val (.int p2), .val (.int p3), .val (.ref b11), .val (.ref b20), .val (.ref b29), .val (.int i), .val (.int j), .val (.int md), .val (.ref b75), .val (.ref b75), .val (.int (1 : Int32))] [(.ref b75), (.ref b75)]))
          refine own_callV X85 hx hZ (y := (⟨"com/example/kwery/kwery/Comparisons$Identity", "equals", "(Ljava/lang/Object;)Z"⟩ : MethodName)) (z := (⟨"com/example/kwery/kwery/Comparisons$Identity", "equals", "(Ljava/lang/Object;)Z"⟩ : MethodName)) hown (wd_47 hw) (wd_48 hw) (notFace_of_selects (args := #[]) (mvT hZ (wd_50 hw))) (wd_50 hw) (wd_49 hw) (wd_35 hw) (wd_51 hw) (by decide) (rm9i l Z a0 hw b75 b75 .null .null T85.heap n0 OL85 Eq85 fq85 fq85 rfl rfl) rfl (argsL := [(.ref b75)]) (rest := []) Eq85 (by rw [hml]; rfl) (lenOf pd_3 rfl) rfl rfl (W := 0) rfl (hb hby at_213) (by decide) (by decide) (by decide) (by decide) (fun T120 v120 L120 X120 hQ120 => ?_)
          obtain ⟨rfl, Nq120, hh120⟩ := hQ120
          have N120 := Fr.app N85 Nq120
          show OwnOk p e below _ (T120.setTop (mkF m 216 #[.val (.int p1), .val (.int p2), .val (.int p3), .val (.ref b11), .val (.ref b20), .val (.ref b29), .val (.int i), .val (.int j), .val (.int md), .val (.ref b75), .val (.ref b75), .val (.int (1 : Int32))] [(.int (if Value.null = .null then 1 else 0 : Int32))]))
          refine own_up (fun tx kx => XS.iload X120.here hx rfl (hb hby at_216) rfl kx) ?_
          show OwnOk p e below _ (T120.setTop (mkF m 218 #[.val (.int p1), .val (.int p2), .val (.int p3), .val (.ref b11), .val (.ref b20), .val (.ref b29), .val (.int i), .val (.int j), .val (.int md), .val (.ref b75), .val (.ref b75), .val (.int (1 : Int32))] [(.int (1 : Int32)), (.int (if Value.null = .null then 1 else 0 : Int32))]))
          refine own_up (fun tx kx => XS.icmpNo X120.here hx rfl (hb hby at_218) rfl (teq (if_pos rfl)).2 kx) ?_
          show OwnOk p e below _ (T120.setTop (mkF m 221 #[.val (.int p1), .val (.int p2), .val (.int p3), .val (.ref b11), .val (.ref b20), .val (.ref b29), .val (.int i), .val (.int j), .val (.int md), .val (.ref b75), .val (.ref b75), .val (.int (1 : Int32))] []))
          refine own_up (fun tx kx => XS.iconst X120.here hx rfl (hb hby at_221) kx) ?_
          show OwnOk p e below _ (T120.setTop (mkF m 222 #[.val (.int p1), .val (.int p2), .val (.int p3), .val (.ref b11), .val (.ref b20), .val (.ref b29), .val (.int i), .val (.int j), .val (.int md), .val (.ref b75), .val (.ref b75), .val (.int (1 : Int32))] [(.int (1 : Int32))]))
          refine own_up (fun tx kx => XS.goto X120.here hx rfl (pc0 := 222) (pc' := 226) rfl (hb hby at_222) (by decide) (by decide) kx) ?_
          show OwnOk p e below _ (T120.setTop (mkF m 226 #[.val (.int p1), .val (.int p2), .val (.int p3), .val (.ref b11), .val (.ref b20), .val (.ref b29), .val (.int i), .val (.int j), .val (.int md), .val (.ref b75), .val (.ref b75), .val (.int (1 : Int32))] [(.int (1 : Int32))]))
          refine own_retN X120 hx (t := .boolean) (show meth.sig.returnType = some .boolean from hret) (by simp) hlk (hb hby at_226) (z' := (1 : Int32)) rfl hh120 (Nat.le_of_ble_eq_true rfl) (Nat.le_of_ble_eq_true rfl) ?_
          exact ⟨rfl, N120⟩
  · have V_b29_121 := (V_b29_73.ext E75)
    obtain ⟨cl122, Ar122, qc122, Sz122, Nn122, Hs122, Gf122⟩ := id V_b29_121
    have hin122 : ¬ (i < 0 ∨ cl122.slots.size ≤ (i).toNatClampNeg) := inb_of Sz122 (own_in hi)
    have hat122 : cl122.slots[(i).toNatClampNeg]? = some (.ref ui) := Hs122.at hin122 ati
    refine own_up (fun tx kx => X75.aaload hx (j := i) (v := (.ref ui)) (own_ar e75 Ar122.1) (State.isArrayOf_alike hZ.alike Ar122.2.1) rfl Ar122.2.2 hin122 hat122 (g := (mkF m 126 #[.val (.int p1), .val (.int p2), .val (.int p3), .val (.ref b11), .val (.ref b20), .val (.ref b29), .val (.int i), .val (.int j), .val (.int md), .unset, .unset, .unset] [(.int i), (.ref b29), (.ref b75), (.ref b75)])) rfl rfl (hb hby at_126) _ kx) ?_
    show OwnOk p e below _ (T75.setTop (mkF m 127 #[.val (.int p1), .val (.int p2), .val (.int p3), .val (.ref b11), .val (.ref b20), .val (.ref b29), .val (.int i), .val (.int j), .val (.int md), .unset, .unset, .unset] [(.ref ui), (.ref b75), (.ref b75)]))
    have E_b36_123 := (E_b36_79.ext E75)
    have E_b48_124 := (E_b48_80.ext E75)
    have E_b61_125 := (E_b61_81.ext E75)
    have Eui : Exa Z h75 ui "java/lang/String" := by rcases isi with ⟨_, rfl⟩ | ⟨_, rfl⟩ | ⟨_, rfl⟩ <;> first | exact E_b36_123 | exact E_b48_124 | exact E_b61_125
    refine own_callC X75 hx hZ (y := (⟨"com/example/kwery/kwery/Comparisons$Identity", "<init>", "(Ljava/lang/Object;)V"⟩ : MethodName)) rfl hown (wd_36 hw) (wd_37 hw) (wd_35 hw) (wd_38 hw) (by decide) (rm7r l Z a0 hw b75 ui h75 n0 OL82 A75 F_object_b75 n0_b75) e75 (argsL := [(.ref ui)]) (rest := [(.ref b75)]) (a := b75) (by rw [hml]; rfl) (lenOf pd_2 rfl) rfl rfl (W := 1) rfl (hb hby at_127) (by decide) (by decide) (by decide) (by decide) (fun T126 v126 L126 X126 hQ126 => ?_)
    obtain ⟨rfl, Nq126, Kq126, Eq126, fq126⟩ := hQ126
    have N126 := Fr.app N73 Nq126
    have OL126 := OL82.keep Kq126 (allS n0_b75 all0)
    show OwnOk p e below _ (T126.setTop (mkF m 130 #[.val (.int p1), .val (.int p2), .val (.int p3), .val (.ref b11), .val (.ref b20), .val (.ref b29), .val (.int i), .val (.int j), .val (.int md), .unset, .unset, .unset] [(.ref b75)]))
    refine own_up (fun tx kx => XS.astore X126.here hx rfl (hb hby at_130) rfl rfl (l' := #[.val (.int p1), .val (.int p2), .val (.int p3), .val (.ref b11), .val (.ref b20), .val (.ref b29), .val (.int i), .val (.int j), .val (.int md), .val (.ref b75), .unset, .unset]) rfl kx) ?_
    show OwnOk p e below _ (T126.setTop (mkF m 132 #[.val (.int p1), .val (.int p2), .val (.int p3), .val (.ref b11), .val (.ref b20), .val (.ref b29), .val (.int i), .val (.int j), .val (.int md), .val (.ref b75), .unset, .unset] []))
    refine own_up (fun tx kx => XS.iload X126.here hx rfl (hb hby at_132) rfl kx) ?_
    show OwnOk p e below _ (T126.setTop (mkF m 134 #[.val (.int p1), .val (.int p2), .val (.int p3), .val (.ref b11), .val (.ref b20), .val (.ref b29), .val (.int i), .val (.int j), .val (.int md), .val (.ref b75), .unset, .unset] [(.int md)]))
    by_cases hm0 : md = (0 : Int32)
    · refine own_up (fun tx kx => XS.ifNo X126.here hx rfl (hb hby at_134) rfl ((if0 _ _).trans (teq hm0).2) kx) ?_
      show OwnOk p e below _ (T126.setTop (mkF m 137 #[.val (.int p1), .val (.int p2), .val (.int p3), .val (.ref b11), .val (.ref b20), .val (.ref b29), .val (.int i), .val (.int j), .val (.int md), .val (.ref b75), .unset, .unset] []))
      obtain ⟨T127, h127, X127, e127, E127, A127, D127, -, st127⟩ := newO X126 hx hZ hown (wd_33 hw) (wd_34 hw) (wd_35 hw) rfl (g := (mkF m 137 #[.val (.int p1), .val (.int p2), .val (.int p3), .val (.ref b11), .val (.ref b20), .val (.ref b29), .val (.int i), .val (.int j), .val (.int md), .val (.ref b75), .unset, .unset] [])) rfl (hb hby at_137) (by decide) (by decide)
      obtain ⟨b127, g127⟩ : ∃ z, z = T126.heap.size := ⟨_, rfl⟩
      rw [← g127] at A127 D127 st127
      have sz_b127 : T126.heap.size ≤ b127 := Nat.le_of_eq g127.symm
      have V_b11_129 := ((V_b11_77.ext E75).keep Kq126 (ninS (Nat.ne_of_lt lt_b11_b75) nin0))
      have lt_b11_b127 : b11 < b127 := Nat.lt_of_lt_of_le V_b11_129.lt sz_b127
      have V_b20_130 := ((V_b20_78.ext E75).keep Kq126 (ninS (Nat.ne_of_lt lt_b20_b75) nin0))
      have lt_b20_b127 : b20 < b127 := Nat.lt_of_lt_of_le V_b20_130.lt sz_b127
      have V_b29_131 := (V_b29_121.keep Kq126 (ninS (Nat.ne_of_lt lt_b29_b75) nin0))
      have lt_b29_b127 : b29 < b127 := Nat.lt_of_lt_of_le V_b29_131.lt sz_b127
      have E_b36_132 := (E_b36_123.keep Kq126)
      have lt_b36_b127 : b36 < b127 := Nat.lt_of_lt_of_le E_b36_132.lt sz_b127
      have E_b48_133 := (E_b48_124.keep Kq126)
      have lt_b48_b127 : b48 < b127 := Nat.lt_of_lt_of_le E_b48_133.lt sz_b127
      have E_b61_134 := (E_b61_125.keep Kq126)
      have lt_b61_b127 : b61 < b127 := Nat.lt_of_lt_of_le E_b61_134.lt sz_b127
      have lt_b75_b127 : b75 < b127 := Nat.lt_of_lt_of_le Eq126.lt sz_b127
      have n0_b127 : n0 ≤ b127 := Nat.le_trans (own_n0 OL126) sz_b127
      have F_object_b127 : Fld Z h127 b127 "com/example/kwery/kwery/Comparisons$Identity" "object" "Ljava/lang/Object;" .null := D127 (Or.inr (wd_46 hw)) (ty := (.object "java/lang/Object")) (by decide)
      have OL135 := OL126.ext E127
      refine own_up st127 ?_
      show OwnOk p e below _ (T127.setTop (mkF m 140 #[.val (.int p1), .val (.int p2), .val (.int p3), .val (.ref b11), .val (.ref b20), .val (.ref b29), .val (.int i), .val (.int j), .val (.int md), .val (.ref b75), .unset, .unset] [(.ref b127)]))
      refine own_up (fun tx kx => XS.dup X127.here hx rfl (hb hby at_140) rfl rfl kx) ?_
      show OwnOk p e below _ (T127.setTop (mkF m 141 #[.val (.int p1), .val (.int p2), .val (.int p3), .val (.ref b11), .val (.ref b20), .val (.ref b29), .val (.int i), .val (.int j), .val (.int md), .val (.ref b75), .unset, .unset] [(.ref b127), (.ref b127)]))
      refine own_up (fun tx kx => XS.aload X127.here hx rfl (hb hby at_141) rfl rfl kx) ?_
      show OwnOk p e below _ (T127.setTop (mkF m 143 #[.val (.int p1), .val (.int p2), .val (.int p3), .val (.ref b11), .val (.ref b20), .val (.ref b29), .val (.int i), .val (.int j), .val (.int md), .val (.ref b75), .unset, .unset] [(.ref b29), (.ref b127), (.ref b127)]))
      refine own_up (fun tx kx => XS.iload X127.here hx rfl (hb hby at_143) rfl kx) ?_
      show OwnOk p e below _ (T127.setTop (mkF m 145 #[.val (.int p1), .val (.int p2), .val (.int p3), .val (.ref b11), .val (.ref b20), .val (.ref b29), .val (.int i), .val (.int j), .val (.int md), .val (.ref b75), .unset, .unset] [(.int j), (.ref b29), (.ref b127), (.ref b127)]))
      rcases own_at b36 b48 b61 hj with ⟨zj, atj⟩ | ⟨uj, zj, atj, isj⟩
      · have V_b29_136 := (V_b29_131.ext E127)
        obtain ⟨cl137, Ar137, qc137, Sz137, Nn137, Hs137, Gf137⟩ := id V_b29_136
        have hin137 : ¬ (j < 0 ∨ cl137.slots.size ≤ (j).toNatClampNeg) := inb_of Sz137 (own_in hj)
        have hat137 : cl137.slots[(j).toNatClampNeg]? = some .null := Hs137.at hin137 atj
        refine own_up (fun tx kx => X127.aaload hx (j := j) (v := .null) (own_ar e127 Ar137.1) (State.isArrayOf_alike hZ.alike Ar137.2.1) rfl Ar137.2.2 hin137 hat137 (g := (mkF m 145 #[.val (.int p1), .val (.int p2), .val (.int p3), .val (.ref b11), .val (.ref b20), .val (.ref b29), .val (.int i), .val (.int j), .val (.int md), .val (.ref b75), .unset, .unset] [(.int j), (.ref b29), (.ref b127), (.ref b127)])) rfl rfl (hb hby at_145) _ kx) ?_
        show OwnOk p e below _ (T127.setTop (mkF m 146 #[.val (.int p1), .val (.int p2), .val (.int p3), .val (.ref b11), .val (.ref b20), .val (.ref b29), .val (.int i), .val (.int j), .val (.int md), .val (.ref b75), .unset, .unset] [.null, (.ref b127), (.ref b127)]))
        refine own_callC X127 hx hZ (y := (⟨"com/example/kwery/kwery/Comparisons$Identity", "<init>", "(Ljava/lang/Object;)V"⟩ : MethodName)) rfl hown (wd_36 hw) (wd_37 hw) (wd_35 hw) (wd_38 hw) (by decide) (rm7n l Z a0 hw b127 h127 n0 OL135 A127 F_object_b127 n0_b127) e127 (argsL := [.null]) (rest := [(.ref b127)]) (a := b127) (by rw [hml]; rfl) (lenOf pd_2 rfl) rfl rfl (W := 1) rfl (hb hby at_146) (by decide) (by decide) (by decide) (by decide) (fun T138 v138 L138 X138 hQ138 => ?_)
        obtain ⟨rfl, Nq138, Kq138, Eq138, fq138⟩ := hQ138
        have N138 := Fr.app N126 Nq138
        have OL138 := OL135.keep Kq138 (allS n0_b127 all0)
        show OwnOk p e below _ (T138.setTop (mkF m 149 #[.val (.int p1), .val (.int p2), .val (.int p3), .val (.ref b11), .val (.ref b20), .val (.ref b29), .val (.int i), .val (.int j), .val (.int md), .val (.ref b75), .unset, .unset] [(.ref b127)]))
        refine own_up (fun tx kx => XS.astore X138.here hx rfl (hb hby at_149) rfl rfl (l' := #[.val (.int p1), .val (.int p2), .val (.int p3), .val (.ref b11), .val (.ref b20), .val (.ref b29), .val (.int i), .val (.int j), .val (.int md), .val (.ref b75), .val (.ref b127), .unset]) rfl kx) ?_
        show OwnOk p e below _ (T138.setTop (mkF m 151 #[.val (.int p1), .val (.int p2), .val (.int p3), .val (.ref b11), .val (.ref b20), .val (.ref b29), .val (.int i), .val (.int j), .val (.int md), .val (.ref b75), .val (.ref b127), .unset] []))
        refine own_up (fun tx kx => XS.iload X138.here hx rfl (hb hby at_151) rfl kx) ?_
        show OwnOk p e below _ (T138.setTop (mkF m 153 #[.val (.int p1), .val (.int p2), .val (.int p3), .val (.ref b11), .val (.ref b20), .val (.ref b29), .val (.int i), .val (.int j), .val (.int md), .val (.ref b75), .val (.ref b127), .unset] [(.int i)]))
        refine own_up (fun tx kx => XS.iload X138.here hx rfl (hb hby at_153) rfl kx) ?_
        show OwnOk p e below _ (T138.setTop (mkF m 155 #[.val (.int p1), .val (.int p2), .val (.int p3), .val (.ref b11), .val (.ref b20), .val (.ref b29), .val (.int i), .val (.int j), .val (.int md), .val (.ref b75), .val (.ref b127), .unset] [(.int j), (.int i)]))
        by_cases hij : i = j
        · refine own_up (fun tx kx => XS.icmpNo X138.here hx rfl (hb hby at_155) rfl (teq hij).2 kx) ?_
          show OwnOk p e below _ (T138.setTop (mkF m 158 #[.val (.int p1), .val (.int p2), .val (.int p3), .val (.ref b11), .val (.ref b20), .val (.ref b29), .val (.int i), .val (.int j), .val (.int md), .val (.ref b75), .val (.ref b127), .unset] []))
          exact absurd (hij.trans zj) zi
        · refine own_up (fun tx kx => XS.icmpYes X138.here hx rfl (pc0 := 155) (pc' := 162) rfl (hb hby at_155) rfl (feq hij).2 (by decide) (by decide) kx) ?_
          show OwnOk p e below _ (T138.setTop (mkF m 162 #[.val (.int p1), .val (.int p2), .val (.int p3), .val (.ref b11), .val (.ref b20), .val (.ref b29), .val (.int i), .val (.int j), .val (.int md), .val (.ref b75), .val (.ref b127), .unset] []))
          refine own_up (fun tx kx => XS.iconst X138.here hx rfl (hb hby at_162) kx) ?_
          show OwnOk p e below _ (T138.setTop (mkF m 163 #[.val (.int p1), .val (.int p2), .val (.int p3), .val (.ref b11), .val (.ref b20), .val (.ref b29), .val (.int i), .val (.int j), .val (.int md), .val (.ref b75), .val (.ref b127), .unset] [(.int (0 : Int32))]))
          refine own_up (fun tx kx => XS.istore X138.here hx rfl (hb hby at_163) rfl (l' := #[.val (.int p1), .val (.int p2), .val (.int p3), .val (.ref b11), .val (.ref b20), .val (.ref b29), .val (.int i), .val (.int j), .val (.int md), .val (.ref b75), .val (.ref b127), .val (.int (0 : Int32))]) rfl kx) ?_
          show OwnOk p e below _ (T138.setTop (mkF m 165 #[.val (.int p1), .val (.int p2), .val (.int p3), .val (.ref b11), .val (.ref b20), .val (.ref b29), .val (.int i), .val (.int j), .val (.int md), .val (.ref b75), .val (.ref b127), .val (.int (0 : Int32))] []))
          refine own_up (fun tx kx => XS.goto X138.here hx rfl (pc0 := 165) (pc' := 209) rfl (hb hby at_165) (by decide) (by decide) kx) ?_
          show OwnOk p e below _ (T138.setTop (mkF m 209 #[.val (.int p1), .val (.int p2), .val (.int p3), .val (.ref b11), .val (.ref b20), .val (.ref b29), .val (.int i), .val (.int j), .val (.int md), .val (.ref b75), .val (.ref b127), .val (.int (0 : Int32))] []))
          refine own_up (fun tx kx => XS.aload X138.here hx rfl (hb hby at_209) rfl rfl kx) ?_
          show OwnOk p e below _ (T138.setTop (mkF m 211 #[.val (.int p1), .val (.int p2), .val (.int p3), .val (.ref b11), .val (.ref b20), .val (.ref b29), .val (.int i), .val (.int j), .val (.int md), .val (.ref b75), .val (.ref b127), .val (.int (0 : Int32))] [(.ref b75)]))
          refine own_up (fun tx kx => XS.aload X138.here hx rfl (hb hby at_211) rfl rfl kx) ?_
          show OwnOk p e below _ (T138.setTop (mkF m 213 #[.val (.int p1), .val (.int p2), .val (.int p3), .val (.ref b11), .val (.ref b20), .val (.ref b29), .val (.int i), .val (.int j), .val (.int md), .val (.ref b75), .val (.ref b127), .val (.int (0 : Int32))] [(.ref b127), (.ref b75)]))
          have F_b75_139 := ((fq126.ext E127).keep Kq138 (ninS (Nat.ne_of_lt lt_b75_b127) nin0))
          have E_b75_141 := ((Eq126.ext E127).keep Kq138)
          refine own_callV X138 hx hZ (y := (⟨"com/example/kwery/kwery/Comparisons$Identity", "equals", "(Ljava/lang/Object;)Z"⟩ : MethodName)) (z := (⟨"com/example/kwery/kwery/Comparisons$Identity", "equals", "(Ljava/lang/Object;)Z"⟩ : MethodName)) hown (wd_47 hw) (wd_48 hw) (notFace_of_selects (args := #[]) (mvT hZ (wd_50 hw))) (wd_50 hw) (wd_49 hw) (wd_35 hw) (wd_51 hw) (by decide) (rm9i l Z a0 hw b75 b127 (.ref ui) .null T138.heap n0 OL138 Eq138 fq138 F_b75_139 rfl rfl) rfl (argsL := [(.ref b127)]) (rest := []) E_b75_141 (by rw [hml]; rfl) (lenOf pd_3 rfl) rfl rfl (W := 0) rfl (hb hby at_213) (by decide) (by decide) (by decide) (by decide) (fun T140 v140 L140 X140 hQ140 => ?_)
          obtain ⟨rfl, Nq140, hh140⟩ := hQ140
          have N140 := Fr.app N138 Nq140
          show OwnOk p e below _ (T140.setTop (mkF m 216 #[.val (.int p1), .val (.int p2), .val (.int p3), .val (.ref b11), .val (.ref b20), .val (.ref b29), .val (.int i), .val (.int j), .val (.int md), .val (.ref b75), .val (.ref b127), .val (.int (0 : Int32))] [(.int (if Value.null = (.ref ui) then 1 else 0 : Int32))]))
          refine own_up (fun tx kx => XS.iload X140.here hx rfl (hb hby at_216) rfl kx) ?_
          show OwnOk p e below _ (T140.setTop (mkF m 218 #[.val (.int p1), .val (.int p2), .val (.int p3), .val (.ref b11), .val (.ref b20), .val (.ref b29), .val (.int i), .val (.int j), .val (.int md), .val (.ref b75), .val (.ref b127), .val (.int (0 : Int32))] [(.int (0 : Int32)), (.int (if Value.null = (.ref ui) then 1 else 0 : Int32))]))
          refine own_up (fun tx kx => XS.icmpNo X140.here hx rfl (hb hby at_218) rfl (teq (if_neg nofun)).2 kx) ?_
          show OwnOk p e below _ (T140.setTop (mkF m 221 #[.val (.int p1), .val (.int p2), .val (.int p3), .val (.ref b11), .val (.ref b20), .val (.ref b29), .val (.int i), .val (.int j), .val (.int md), .val (.ref b75), .val (.ref b127), .val (.int (0 : Int32))] []))
          refine own_up (fun tx kx => XS.iconst X140.here hx rfl (hb hby at_221) kx) ?_
          show OwnOk p e below _ (T140.setTop (mkF m 222 #[.val (.int p1), .val (.int p2), .val (.int p3), .val (.ref b11), .val (.ref b20), .val (.ref b29), .val (.int i), .val (.int j), .val (.int md), .val (.ref b75), .val (.ref b127), .val (.int (0 : Int32))] [(.int (1 : Int32))]))
          refine own_up (fun tx kx => XS.goto X140.here hx rfl (pc0 := 222) (pc' := 226) rfl (hb hby at_222) (by decide) (by decide) kx) ?_
          show OwnOk p e below _ (T140.setTop (mkF m 226 #[.val (.int p1), .val (.int p2), .val (.int p3), .val (.ref b11), .val (.ref b20), .val (.ref b29), .val (.int i), .val (.int j), .val (.int md), .val (.ref b75), .val (.ref b127), .val (.int (0 : Int32))] [(.int (1 : Int32))]))
          refine own_retN X140 hx (t := .boolean) (show meth.sig.returnType = some .boolean from hret) (by simp) hlk (hb hby at_226) (z' := (1 : Int32)) rfl hh140 (Nat.le_of_ble_eq_true rfl) (Nat.le_of_ble_eq_true rfl) ?_
          exact ⟨rfl, N140⟩
      · have V_b29_142 := (V_b29_131.ext E127)
        obtain ⟨cl143, Ar143, qc143, Sz143, Nn143, Hs143, Gf143⟩ := id V_b29_142
        have hin143 : ¬ (j < 0 ∨ cl143.slots.size ≤ (j).toNatClampNeg) := inb_of Sz143 (own_in hj)
        have hat143 : cl143.slots[(j).toNatClampNeg]? = some (.ref uj) := Hs143.at hin143 atj
        refine own_up (fun tx kx => X127.aaload hx (j := j) (v := (.ref uj)) (own_ar e127 Ar143.1) (State.isArrayOf_alike hZ.alike Ar143.2.1) rfl Ar143.2.2 hin143 hat143 (g := (mkF m 145 #[.val (.int p1), .val (.int p2), .val (.int p3), .val (.ref b11), .val (.ref b20), .val (.ref b29), .val (.int i), .val (.int j), .val (.int md), .val (.ref b75), .unset, .unset] [(.int j), (.ref b29), (.ref b127), (.ref b127)])) rfl rfl (hb hby at_145) _ kx) ?_
        show OwnOk p e below _ (T127.setTop (mkF m 146 #[.val (.int p1), .val (.int p2), .val (.int p3), .val (.ref b11), .val (.ref b20), .val (.ref b29), .val (.int i), .val (.int j), .val (.int md), .val (.ref b75), .unset, .unset] [(.ref uj), (.ref b127), (.ref b127)]))
        have E_b36_144 := (E_b36_132.ext E127)
        have E_b48_145 := (E_b48_133.ext E127)
        have E_b61_146 := (E_b61_134.ext E127)
        have Euj : Exa Z h127 uj "java/lang/String" := by rcases isj with ⟨_, rfl⟩ | ⟨_, rfl⟩ | ⟨_, rfl⟩ <;> first | exact E_b36_144 | exact E_b48_145 | exact E_b61_146
        refine own_callC X127 hx hZ (y := (⟨"com/example/kwery/kwery/Comparisons$Identity", "<init>", "(Ljava/lang/Object;)V"⟩ : MethodName)) rfl hown (wd_36 hw) (wd_37 hw) (wd_35 hw) (wd_38 hw) (by decide) (rm7r l Z a0 hw b127 uj h127 n0 OL135 A127 F_object_b127 n0_b127) e127 (argsL := [(.ref uj)]) (rest := [(.ref b127)]) (a := b127) (by rw [hml]; rfl) (lenOf pd_2 rfl) rfl rfl (W := 1) rfl (hb hby at_146) (by decide) (by decide) (by decide) (by decide) (fun T147 v147 L147 X147 hQ147 => ?_)
        obtain ⟨rfl, Nq147, Kq147, Eq147, fq147⟩ := hQ147
        have N147 := Fr.app N126 Nq147
        have OL147 := OL135.keep Kq147 (allS n0_b127 all0)
        show OwnOk p e below _ (T147.setTop (mkF m 149 #[.val (.int p1), .val (.int p2), .val (.int p3), .val (.ref b11), .val (.ref b20), .val (.ref b29), .val (.int i), .val (.int j), .val (.int md), .val (.ref b75), .unset, .unset] [(.ref b127)]))
        refine own_up (fun tx kx => XS.astore X147.here hx rfl (hb hby at_149) rfl rfl (l' := #[.val (.int p1), .val (.int p2), .val (.int p3), .val (.ref b11), .val (.ref b20), .val (.ref b29), .val (.int i), .val (.int j), .val (.int md), .val (.ref b75), .val (.ref b127), .unset]) rfl kx) ?_
        show OwnOk p e below _ (T147.setTop (mkF m 151 #[.val (.int p1), .val (.int p2), .val (.int p3), .val (.ref b11), .val (.ref b20), .val (.ref b29), .val (.int i), .val (.int j), .val (.int md), .val (.ref b75), .val (.ref b127), .unset] []))
        refine own_up (fun tx kx => XS.iload X147.here hx rfl (hb hby at_151) rfl kx) ?_
        show OwnOk p e below _ (T147.setTop (mkF m 153 #[.val (.int p1), .val (.int p2), .val (.int p3), .val (.ref b11), .val (.ref b20), .val (.ref b29), .val (.int i), .val (.int j), .val (.int md), .val (.ref b75), .val (.ref b127), .unset] [(.int i)]))
        refine own_up (fun tx kx => XS.iload X147.here hx rfl (hb hby at_153) rfl kx) ?_
        show OwnOk p e below _ (T147.setTop (mkF m 155 #[.val (.int p1), .val (.int p2), .val (.int p3), .val (.ref b11), .val (.ref b20), .val (.ref b29), .val (.int i), .val (.int j), .val (.int md), .val (.ref b75), .val (.ref b127), .unset] [(.int j), (.int i)]))
        by_cases hij : i = j
        · refine own_up (fun tx kx => XS.icmpNo X147.here hx rfl (hb hby at_155) rfl (teq hij).2 kx) ?_
          show OwnOk p e below _ (T147.setTop (mkF m 158 #[.val (.int p1), .val (.int p2), .val (.int p3), .val (.ref b11), .val (.ref b20), .val (.ref b29), .val (.int i), .val (.int j), .val (.int md), .val (.ref b75), .val (.ref b127), .unset] []))
          refine own_up (fun tx kx => XS.iconst X147.here hx rfl (hb hby at_158) kx) ?_
          show OwnOk p e below _ (T147.setTop (mkF m 159 #[.val (.int p1), .val (.int p2), .val (.int p3), .val (.ref b11), .val (.ref b20), .val (.ref b29), .val (.int i), .val (.int j), .val (.int md), .val (.ref b75), .val (.ref b127), .unset] [(.int (1 : Int32))]))
          refine own_up (fun tx kx => XS.goto X147.here hx rfl (pc0 := 159) (pc' := 163) rfl (hb hby at_159) (by decide) (by decide) kx) ?_
          show OwnOk p e below _ (T147.setTop (mkF m 163 #[.val (.int p1), .val (.int p2), .val (.int p3), .val (.ref b11), .val (.ref b20), .val (.ref b29), .val (.int i), .val (.int j), .val (.int md), .val (.ref b75), .val (.ref b127), .unset] [(.int (1 : Int32))]))
          refine own_up (fun tx kx => XS.istore X147.here hx rfl (hb hby at_163) rfl (l' := #[.val (.int p1), .val (.int p2), .val (.int p3), .val (.ref b11), .val (.ref b20), .val (.ref b29), .val (.int i), .val (.int j), .val (.int md), .val (.ref b75), .val (.ref b127), .val (.int (1 : Int32))]) rfl kx) ?_
          show OwnOk p e below _ (T147.setTop (mkF m 165 #[.val (.int p1), .val (.int p2), .val (.int p3), .val (.ref b11), .val (.ref b20), .val (.ref b29), .val (.int i), .val (.int j), .val (.int md), .val (.ref b75), .val (.ref b127), .val (.int (1 : Int32))] []))
          refine own_up (fun tx kx => XS.goto X147.here hx rfl (pc0 := 165) (pc' := 209) rfl (hb hby at_165) (by decide) (by decide) kx) ?_
          show OwnOk p e below _ (T147.setTop (mkF m 209 #[.val (.int p1), .val (.int p2), .val (.int p3), .val (.ref b11), .val (.ref b20), .val (.ref b29), .val (.int i), .val (.int j), .val (.int md), .val (.ref b75), .val (.ref b127), .val (.int (1 : Int32))] []))
          refine own_up (fun tx kx => XS.aload X147.here hx rfl (hb hby at_209) rfl rfl kx) ?_
          show OwnOk p e below _ (T147.setTop (mkF m 211 #[.val (.int p1), .val (.int p2), .val (.int p3), .val (.ref b11), .val (.ref b20), .val (.ref b29), .val (.int i), .val (.int j), .val (.int md), .val (.ref b75), .val (.ref b127), .val (.int (1 : Int32))] [(.ref b75)]))
          refine own_up (fun tx kx => XS.aload X147.here hx rfl (hb hby at_211) rfl rfl kx) ?_
          show OwnOk p e below _ (T147.setTop (mkF m 213 #[.val (.int p1), .val (.int p2), .val (.int p3), .val (.ref b11), .val (.ref b20), .val (.ref b29), .val (.int i), .val (.int j), .val (.int md), .val (.ref b75), .val (.ref b127), .val (.int (1 : Int32))] [(.ref b127), (.ref b75)]))
          have F_b75_148 := ((fq126.ext E127).keep Kq147 (ninS (Nat.ne_of_lt lt_b75_b127) nin0))
          have E_b75_150 := ((Eq126.ext E127).keep Kq147)
          refine own_callV X147 hx hZ (y := (⟨"com/example/kwery/kwery/Comparisons$Identity", "equals", "(Ljava/lang/Object;)Z"⟩ : MethodName)) (z := (⟨"com/example/kwery/kwery/Comparisons$Identity", "equals", "(Ljava/lang/Object;)Z"⟩ : MethodName)) hown (wd_47 hw) (wd_48 hw) (notFace_of_selects (args := #[]) (mvT hZ (wd_50 hw))) (wd_50 hw) (wd_49 hw) (wd_35 hw) (wd_51 hw) (by decide) (rm9i l Z a0 hw b75 b127 (.ref ui) (.ref uj) T147.heap n0 OL147 Eq147 fq147 F_b75_148 rfl rfl) rfl (argsL := [(.ref b127)]) (rest := []) E_b75_150 (by rw [hml]; rfl) (lenOf pd_3 rfl) rfl rfl (W := 0) rfl (hb hby at_213) (by decide) (by decide) (by decide) (by decide) (fun T149 v149 L149 X149 hQ149 => ?_)
          obtain ⟨rfl, Nq149, hh149⟩ := hQ149
          have N149 := Fr.app N147 Nq149
          show OwnOk p e below _ (T149.setTop (mkF m 216 #[.val (.int p1), .val (.int p2), .val (.int p3), .val (.ref b11), .val (.ref b20), .val (.ref b29), .val (.int i), .val (.int j), .val (.int md), .val (.ref b75), .val (.ref b127), .val (.int (1 : Int32))] [(.int (if (Value.ref uj) = (.ref ui) then 1 else 0 : Int32))]))
          refine own_up (fun tx kx => XS.iload X149.here hx rfl (hb hby at_216) rfl kx) ?_
          show OwnOk p e below _ (T149.setTop (mkF m 218 #[.val (.int p1), .val (.int p2), .val (.int p3), .val (.ref b11), .val (.ref b20), .val (.ref b29), .val (.int i), .val (.int j), .val (.int md), .val (.ref b75), .val (.ref b127), .val (.int (1 : Int32))] [(.int (1 : Int32)), (.int (if (Value.ref uj) = (.ref ui) then 1 else 0 : Int32))]))
          refine own_up (fun tx kx => XS.icmpNo X149.here hx rfl (hb hby at_218) rfl (teq (if_pos (congrArg Value.ref (own_same isi isj hij)))).2 kx) ?_
          show OwnOk p e below _ (T149.setTop (mkF m 221 #[.val (.int p1), .val (.int p2), .val (.int p3), .val (.ref b11), .val (.ref b20), .val (.ref b29), .val (.int i), .val (.int j), .val (.int md), .val (.ref b75), .val (.ref b127), .val (.int (1 : Int32))] []))
          refine own_up (fun tx kx => XS.iconst X149.here hx rfl (hb hby at_221) kx) ?_
          show OwnOk p e below _ (T149.setTop (mkF m 222 #[.val (.int p1), .val (.int p2), .val (.int p3), .val (.ref b11), .val (.ref b20), .val (.ref b29), .val (.int i), .val (.int j), .val (.int md), .val (.ref b75), .val (.ref b127), .val (.int (1 : Int32))] [(.int (1 : Int32))]))
          refine own_up (fun tx kx => XS.goto X149.here hx rfl (pc0 := 222) (pc' := 226) rfl (hb hby at_222) (by decide) (by decide) kx) ?_
          show OwnOk p e below _ (T149.setTop (mkF m 226 #[.val (.int p1), .val (.int p2), .val (.int p3), .val (.ref b11), .val (.ref b20), .val (.ref b29), .val (.int i), .val (.int j), .val (.int md), .val (.ref b75), .val (.ref b127), .val (.int (1 : Int32))] [(.int (1 : Int32))]))
          refine own_retN X149 hx (t := .boolean) (show meth.sig.returnType = some .boolean from hret) (by simp) hlk (hb hby at_226) (z' := (1 : Int32)) rfl hh149 (Nat.le_of_ble_eq_true rfl) (Nat.le_of_ble_eq_true rfl) ?_
          exact ⟨rfl, N149⟩
        · refine own_up (fun tx kx => XS.icmpYes X147.here hx rfl (pc0 := 155) (pc' := 162) rfl (hb hby at_155) rfl (feq hij).2 (by decide) (by decide) kx) ?_
          show OwnOk p e below _ (T147.setTop (mkF m 162 #[.val (.int p1), .val (.int p2), .val (.int p3), .val (.ref b11), .val (.ref b20), .val (.ref b29), .val (.int i), .val (.int j), .val (.int md), .val (.ref b75), .val (.ref b127), .unset] []))
          refine own_up (fun tx kx => XS.iconst X147.here hx rfl (hb hby at_162) kx) ?_
          show OwnOk p e below _ (T147.setTop (mkF m 163 #[.val (.int p1), .val (.int p2), .val (.int p3), .val (.ref b11), .val (.ref b20), .val (.ref b29), .val (.int i), .val (.int j), .val (.int md), .val (.ref b75), .val (.ref b127), .unset] [(.int (0 : Int32))]))
          refine own_up (fun tx kx => XS.istore X147.here hx rfl (hb hby at_163) rfl (l' := #[.val (.int p1), .val (.int p2), .val (.int p3), .val (.ref b11), .val (.ref b20), .val (.ref b29), .val (.int i), .val (.int j), .val (.int md), .val (.ref b75), .val (.ref b127), .val (.int (0 : Int32))]) rfl kx) ?_
          show OwnOk p e below _ (T147.setTop (mkF m 165 #[.val (.int p1), .val (.int p2), .val (.int p3), .val (.ref b11), .val (.ref b20), .val (.ref b29), .val (.int i), .val (.int j), .val (.int md), .val (.ref b75), .val (.ref b127), .val (.int (0 : Int32))] []))
          refine own_up (fun tx kx => XS.goto X147.here hx rfl (pc0 := 165) (pc' := 209) rfl (hb hby at_165) (by decide) (by decide) kx) ?_
          show OwnOk p e below _ (T147.setTop (mkF m 209 #[.val (.int p1), .val (.int p2), .val (.int p3), .val (.ref b11), .val (.ref b20), .val (.ref b29), .val (.int i), .val (.int j), .val (.int md), .val (.ref b75), .val (.ref b127), .val (.int (0 : Int32))] []))
          refine own_up (fun tx kx => XS.aload X147.here hx rfl (hb hby at_209) rfl rfl kx) ?_
          show OwnOk p e below _ (T147.setTop (mkF m 211 #[.val (.int p1), .val (.int p2), .val (.int p3), .val (.ref b11), .val (.ref b20), .val (.ref b29), .val (.int i), .val (.int j), .val (.int md), .val (.ref b75), .val (.ref b127), .val (.int (0 : Int32))] [(.ref b75)]))
          refine own_up (fun tx kx => XS.aload X147.here hx rfl (hb hby at_211) rfl rfl kx) ?_
          show OwnOk p e below _ (T147.setTop (mkF m 213 #[.val (.int p1), .val (.int p2), .val (.int p3), .val (.ref b11), .val (.ref b20), .val (.ref b29), .val (.int i), .val (.int j), .val (.int md), .val (.ref b75), .val (.ref b127), .val (.int (0 : Int32))] [(.ref b127), (.ref b75)]))
          have F_b75_151 := ((fq126.ext E127).keep Kq147 (ninS (Nat.ne_of_lt lt_b75_b127) nin0))
          have E_b75_153 := ((Eq126.ext E127).keep Kq147)
          refine own_callV X147 hx hZ (y := (⟨"com/example/kwery/kwery/Comparisons$Identity", "equals", "(Ljava/lang/Object;)Z"⟩ : MethodName)) (z := (⟨"com/example/kwery/kwery/Comparisons$Identity", "equals", "(Ljava/lang/Object;)Z"⟩ : MethodName)) hown (wd_47 hw) (wd_48 hw) (notFace_of_selects (args := #[]) (mvT hZ (wd_50 hw))) (wd_50 hw) (wd_49 hw) (wd_35 hw) (wd_51 hw) (by decide) (rm9i l Z a0 hw b75 b127 (.ref ui) (.ref uj) T147.heap n0 OL147 Eq147 fq147 F_b75_151 rfl rfl) rfl (argsL := [(.ref b127)]) (rest := []) E_b75_153 (by rw [hml]; rfl) (lenOf pd_3 rfl) rfl rfl (W := 0) rfl (hb hby at_213) (by decide) (by decide) (by decide) (by decide) (fun T152 v152 L152 X152 hQ152 => ?_)
          obtain ⟨rfl, Nq152, hh152⟩ := hQ152
          have N152 := Fr.app N147 Nq152
          show OwnOk p e below _ (T152.setTop (mkF m 216 #[.val (.int p1), .val (.int p2), .val (.int p3), .val (.ref b11), .val (.ref b20), .val (.ref b29), .val (.int i), .val (.int j), .val (.int md), .val (.ref b75), .val (.ref b127), .val (.int (0 : Int32))] [(.int (if (Value.ref uj) = (.ref ui) then 1 else 0 : Int32))]))
          refine own_up (fun tx kx => XS.iload X152.here hx rfl (hb hby at_216) rfl kx) ?_
          show OwnOk p e below _ (T152.setTop (mkF m 218 #[.val (.int p1), .val (.int p2), .val (.int p3), .val (.ref b11), .val (.ref b20), .val (.ref b29), .val (.int i), .val (.int j), .val (.int md), .val (.ref b75), .val (.ref b127), .val (.int (0 : Int32))] [(.int (0 : Int32)), (.int (if (Value.ref uj) = (.ref ui) then 1 else 0 : Int32))]))
          refine own_up (fun tx kx => XS.icmpNo X152.here hx rfl (hb hby at_218) rfl (teq (if_neg (own_diff lt_b36_b48 lt_b48_b61 isi isj hij))).2 kx) ?_
          show OwnOk p e below _ (T152.setTop (mkF m 221 #[.val (.int p1), .val (.int p2), .val (.int p3), .val (.ref b11), .val (.ref b20), .val (.ref b29), .val (.int i), .val (.int j), .val (.int md), .val (.ref b75), .val (.ref b127), .val (.int (0 : Int32))] []))
          refine own_up (fun tx kx => XS.iconst X152.here hx rfl (hb hby at_221) kx) ?_
          show OwnOk p e below _ (T152.setTop (mkF m 222 #[.val (.int p1), .val (.int p2), .val (.int p3), .val (.ref b11), .val (.ref b20), .val (.ref b29), .val (.int i), .val (.int j), .val (.int md), .val (.ref b75), .val (.ref b127), .val (.int (0 : Int32))] [(.int (1 : Int32))]))
          refine own_up (fun tx kx => XS.goto X152.here hx rfl (pc0 := 222) (pc' := 226) rfl (hb hby at_222) (by decide) (by decide) kx) ?_
          show OwnOk p e below _ (T152.setTop (mkF m 226 #[.val (.int p1), .val (.int p2), .val (.int p3), .val (.ref b11), .val (.ref b20), .val (.ref b29), .val (.int i), .val (.int j), .val (.int md), .val (.ref b75), .val (.ref b127), .val (.int (0 : Int32))] [(.int (1 : Int32))]))
          refine own_retN X152 hx (t := .boolean) (show meth.sig.returnType = some .boolean from hret) (by simp) hlk (hb hby at_226) (z' := (1 : Int32)) rfl hh152 (Nat.le_of_ble_eq_true rfl) (Nat.le_of_ble_eq_true rfl) ?_
          exact ⟨rfl, N152⟩
    · refine own_up (fun tx kx => XS.ifYes X126.here hx rfl (pc0 := 134) (pc' := 168) rfl (hb hby at_134) rfl ((if0 _ _).trans (feq hm0).2) (by decide) (by decide) kx) ?_
      show OwnOk p e below _ (T126.setTop (mkF m 168 #[.val (.int p1), .val (.int p2), .val (.int p3), .val (.ref b11), .val (.ref b20), .val (.ref b29), .val (.int i), .val (.int j), .val (.int md), .val (.ref b75), .unset, .unset] []))
      refine own_up (fun tx kx => XS.iload X126.here hx rfl (hb hby at_168) rfl kx) ?_
      show OwnOk p e below _ (T126.setTop (mkF m 170 #[.val (.int p1), .val (.int p2), .val (.int p3), .val (.ref b11), .val (.ref b20), .val (.ref b29), .val (.int i), .val (.int j), .val (.int md), .val (.ref b75), .unset, .unset] [(.int md)]))
      refine own_up (fun tx kx => XS.iconst X126.here hx rfl (hb hby at_170) kx) ?_
      show OwnOk p e below _ (T126.setTop (mkF m 171 #[.val (.int p1), .val (.int p2), .val (.int p3), .val (.ref b11), .val (.ref b20), .val (.ref b29), .val (.int i), .val (.int j), .val (.int md), .val (.ref b75), .unset, .unset] [(.int (1 : Int32)), (.int md)]))
      by_cases hm1 : md = (1 : Int32)
      · refine own_up (fun tx kx => XS.icmpNo X126.here hx rfl (hb hby at_171) rfl (teq hm1).2 kx) ?_
        show OwnOk p e below _ (T126.setTop (mkF m 174 #[.val (.int p1), .val (.int p2), .val (.int p3), .val (.ref b11), .val (.ref b20), .val (.ref b29), .val (.int i), .val (.int j), .val (.int md), .val (.ref b75), .unset, .unset] []))
        refine own_up (fun tx kx => XS.aconstNull X126.here hx rfl (hb hby at_174) kx) ?_
        show OwnOk p e below _ (T126.setTop (mkF m 175 #[.val (.int p1), .val (.int p2), .val (.int p3), .val (.ref b11), .val (.ref b20), .val (.ref b29), .val (.int i), .val (.int j), .val (.int md), .val (.ref b75), .unset, .unset] [.null]))
        refine own_up (fun tx kx => XS.astore X126.here hx rfl (hb hby at_175) rfl rfl (l' := #[.val (.int p1), .val (.int p2), .val (.int p3), .val (.ref b11), .val (.ref b20), .val (.ref b29), .val (.int i), .val (.int j), .val (.int md), .val (.ref b75), .val .null, .unset]) rfl kx) ?_
        show OwnOk p e below _ (T126.setTop (mkF m 177 #[.val (.int p1), .val (.int p2), .val (.int p3), .val (.ref b11), .val (.ref b20), .val (.ref b29), .val (.int i), .val (.int j), .val (.int md), .val (.ref b75), .val .null, .unset] []))
        refine own_up (fun tx kx => XS.iconst X126.here hx rfl (hb hby at_177) kx) ?_
        show OwnOk p e below _ (T126.setTop (mkF m 178 #[.val (.int p1), .val (.int p2), .val (.int p3), .val (.ref b11), .val (.ref b20), .val (.ref b29), .val (.int i), .val (.int j), .val (.int md), .val (.ref b75), .val .null, .unset] [(.int (0 : Int32))]))
        refine own_up (fun tx kx => XS.istore X126.here hx rfl (hb hby at_178) rfl (l' := #[.val (.int p1), .val (.int p2), .val (.int p3), .val (.ref b11), .val (.ref b20), .val (.ref b29), .val (.int i), .val (.int j), .val (.int md), .val (.ref b75), .val .null, .val (.int (0 : Int32))]) rfl kx) ?_
        show OwnOk p e below _ (T126.setTop (mkF m 180 #[.val (.int p1), .val (.int p2), .val (.int p3), .val (.ref b11), .val (.ref b20), .val (.ref b29), .val (.int i), .val (.int j), .val (.int md), .val (.ref b75), .val .null, .val (.int (0 : Int32))] []))
        refine own_up (fun tx kx => XS.goto X126.here hx rfl (pc0 := 180) (pc' := 209) rfl (hb hby at_180) (by decide) (by decide) kx) ?_
        show OwnOk p e below _ (T126.setTop (mkF m 209 #[.val (.int p1), .val (.int p2), .val (.int p3), .val (.ref b11), .val (.ref b20), .val (.ref b29), .val (.int i), .val (.int j), .val (.int md), .val (.ref b75), .val .null, .val (.int (0 : Int32))] []))
        refine own_up (fun tx kx => XS.aload X126.here hx rfl (hb hby at_209) rfl rfl kx) ?_
        show OwnOk p e below _ (T126.setTop (mkF m 211 #[.val (.int p1), .val (.int p2), .val (.int p3), .val (.ref b11), .val (.ref b20), .val (.ref b29), .val (.int i), .val (.int j), .val (.int md), .val (.ref b75), .val .null, .val (.int (0 : Int32))] [(.ref b75)]))
        refine own_up (fun tx kx => XS.aload X126.here hx rfl (hb hby at_211) rfl rfl kx) ?_
        show OwnOk p e below _ (T126.setTop (mkF m 213 #[.val (.int p1), .val (.int p2), .val (.int p3), .val (.ref b11), .val (.ref b20), .val (.ref b29), .val (.int i), .val (.int j), .val (.int md), .val (.ref b75), .val .null, .val (.int (0 : Int32))] [.null, (.ref b75)]))
        refine own_callV X126 hx hZ (y := (⟨"com/example/kwery/kwery/Comparisons$Identity", "equals", "(Ljava/lang/Object;)Z"⟩ : MethodName)) (z := (⟨"com/example/kwery/kwery/Comparisons$Identity", "equals", "(Ljava/lang/Object;)Z"⟩ : MethodName)) hown (wd_47 hw) (wd_48 hw) (notFace_of_selects (args := #[]) (mvT hZ (wd_50 hw))) (wd_50 hw) (wd_49 hw) (wd_35 hw) (wd_51 hw) (by decide) (rm9n l Z a0 hw b75 T126.heap n0 OL126) rfl (argsL := [.null]) (rest := []) Eq126 (by rw [hml]; rfl) (lenOf pd_3 rfl) rfl rfl (W := 0) rfl (hb hby at_213) (by decide) (by decide) (by decide) (by decide) (fun T154 v154 L154 X154 hQ154 => ?_)
        obtain ⟨rfl, Nq154, hh154⟩ := hQ154
        have N154 := Fr.app N126 Nq154
        show OwnOk p e below _ (T154.setTop (mkF m 216 #[.val (.int p1), .val (.int p2), .val (.int p3), .val (.ref b11), .val (.ref b20), .val (.ref b29), .val (.int i), .val (.int j), .val (.int md), .val (.ref b75), .val .null, .val (.int (0 : Int32))] [(.int (0 : Int32))]))
        refine own_up (fun tx kx => XS.iload X154.here hx rfl (hb hby at_216) rfl kx) ?_
        show OwnOk p e below _ (T154.setTop (mkF m 218 #[.val (.int p1), .val (.int p2), .val (.int p3), .val (.ref b11), .val (.ref b20), .val (.ref b29), .val (.int i), .val (.int j), .val (.int md), .val (.ref b75), .val .null, .val (.int (0 : Int32))] [(.int (0 : Int32)), (.int (0 : Int32))]))
        refine own_up (fun tx kx => XS.icmpNo X154.here hx rfl (hb hby at_218) rfl (teq rfl).2 kx) ?_
        show OwnOk p e below _ (T154.setTop (mkF m 221 #[.val (.int p1), .val (.int p2), .val (.int p3), .val (.ref b11), .val (.ref b20), .val (.ref b29), .val (.int i), .val (.int j), .val (.int md), .val (.ref b75), .val .null, .val (.int (0 : Int32))] []))
        refine own_up (fun tx kx => XS.iconst X154.here hx rfl (hb hby at_221) kx) ?_
        show OwnOk p e below _ (T154.setTop (mkF m 222 #[.val (.int p1), .val (.int p2), .val (.int p3), .val (.ref b11), .val (.ref b20), .val (.ref b29), .val (.int i), .val (.int j), .val (.int md), .val (.ref b75), .val .null, .val (.int (0 : Int32))] [(.int (1 : Int32))]))
        refine own_up (fun tx kx => XS.goto X154.here hx rfl (pc0 := 222) (pc' := 226) rfl (hb hby at_222) (by decide) (by decide) kx) ?_
        show OwnOk p e below _ (T154.setTop (mkF m 226 #[.val (.int p1), .val (.int p2), .val (.int p3), .val (.ref b11), .val (.ref b20), .val (.ref b29), .val (.int i), .val (.int j), .val (.int md), .val (.ref b75), .val .null, .val (.int (0 : Int32))] [(.int (1 : Int32))]))
        refine own_retN X154 hx (t := .boolean) (show meth.sig.returnType = some .boolean from hret) (by simp) hlk (hb hby at_226) (z' := (1 : Int32)) rfl hh154 (Nat.le_of_ble_eq_true rfl) (Nat.le_of_ble_eq_true rfl) ?_
        exact ⟨rfl, N154⟩
      · refine own_up (fun tx kx => XS.icmpYes X126.here hx rfl (pc0 := 171) (pc' := 183) rfl (hb hby at_171) rfl (feq hm1).2 (by decide) (by decide) kx) ?_
        show OwnOk p e below _ (T126.setTop (mkF m 183 #[.val (.int p1), .val (.int p2), .val (.int p3), .val (.ref b11), .val (.ref b20), .val (.ref b29), .val (.int i), .val (.int j), .val (.int md), .val (.ref b75), .unset, .unset] []))
        refine own_up (fun tx kx => XS.iload X126.here hx rfl (hb hby at_183) rfl kx) ?_
        show OwnOk p e below _ (T126.setTop (mkF m 185 #[.val (.int p1), .val (.int p2), .val (.int p3), .val (.ref b11), .val (.ref b20), .val (.ref b29), .val (.int i), .val (.int j), .val (.int md), .val (.ref b75), .unset, .unset] [(.int md)]))
        refine own_up (fun tx kx => XS.iconst X126.here hx rfl (hb hby at_185) kx) ?_
        show OwnOk p e below _ (T126.setTop (mkF m 186 #[.val (.int p1), .val (.int p2), .val (.int p3), .val (.ref b11), .val (.ref b20), .val (.ref b29), .val (.int i), .val (.int j), .val (.int md), .val (.ref b75), .unset, .unset] [(.int (2 : Int32)), (.int md)]))
        by_cases hm2 : md = (2 : Int32)
        · refine own_up (fun tx kx => XS.icmpNo X126.here hx rfl (hb hby at_186) rfl (teq hm2).2 kx) ?_
          show OwnOk p e below _ (T126.setTop (mkF m 189 #[.val (.int p1), .val (.int p2), .val (.int p3), .val (.ref b11), .val (.ref b20), .val (.ref b29), .val (.int i), .val (.int j), .val (.int md), .val (.ref b75), .unset, .unset] []))
          refine own_up (fun tx kx => XS.aload X126.here hx rfl (hb hby at_189) rfl rfl kx) ?_
          show OwnOk p e below _ (T126.setTop (mkF m 191 #[.val (.int p1), .val (.int p2), .val (.int p3), .val (.ref b11), .val (.ref b20), .val (.ref b29), .val (.int i), .val (.int j), .val (.int md), .val (.ref b75), .unset, .unset] [(.ref b29)]))
          refine own_up (fun tx kx => XS.iload X126.here hx rfl (hb hby at_191) rfl kx) ?_
          show OwnOk p e below _ (T126.setTop (mkF m 193 #[.val (.int p1), .val (.int p2), .val (.int p3), .val (.ref b11), .val (.ref b20), .val (.ref b29), .val (.int i), .val (.int j), .val (.int md), .val (.ref b75), .unset, .unset] [(.int j), (.ref b29)]))
          rcases own_at b36 b48 b61 hj with ⟨zj, atj⟩ | ⟨uj, zj, atj, isj⟩
          · have V_b29_155 := (V_b29_121.keep Kq126 (ninS (Nat.ne_of_lt lt_b29_b75) nin0))
            obtain ⟨cl156, Ar156, qc156, Sz156, Nn156, Hs156, Gf156⟩ := id V_b29_155
            have hin156 : ¬ (j < 0 ∨ cl156.slots.size ≤ (j).toNatClampNeg) := inb_of Sz156 (own_in hj)
            have hat156 : cl156.slots[(j).toNatClampNeg]? = some .null := Hs156.at hin156 atj
            refine own_up (fun tx kx => X126.aaload hx (j := j) (v := .null) (own_ar rfl Ar156.1) (State.isArrayOf_alike hZ.alike Ar156.2.1) rfl Ar156.2.2 hin156 hat156 (g := (mkF m 193 #[.val (.int p1), .val (.int p2), .val (.int p3), .val (.ref b11), .val (.ref b20), .val (.ref b29), .val (.int i), .val (.int j), .val (.int md), .val (.ref b75), .unset, .unset] [(.int j), (.ref b29)])) rfl rfl (hb hby at_193) _ kx) ?_
            show OwnOk p e below _ (T126.setTop (mkF m 194 #[.val (.int p1), .val (.int p2), .val (.int p3), .val (.ref b11), .val (.ref b20), .val (.ref b29), .val (.int i), .val (.int j), .val (.int md), .val (.ref b75), .unset, .unset] [.null]))
            refine own_up (fun tx kx => XS.astore X126.here hx rfl (hb hby at_194) rfl rfl (l' := #[.val (.int p1), .val (.int p2), .val (.int p3), .val (.ref b11), .val (.ref b20), .val (.ref b29), .val (.int i), .val (.int j), .val (.int md), .val (.ref b75), .val .null, .unset]) rfl kx) ?_
            show OwnOk p e below _ (T126.setTop (mkF m 196 #[.val (.int p1), .val (.int p2), .val (.int p3), .val (.ref b11), .val (.ref b20), .val (.ref b29), .val (.int i), .val (.int j), .val (.int md), .val (.ref b75), .val .null, .unset] []))
            refine own_up (fun tx kx => XS.iconst X126.here hx rfl (hb hby at_196) kx) ?_
            show OwnOk p e below _ (T126.setTop (mkF m 197 #[.val (.int p1), .val (.int p2), .val (.int p3), .val (.ref b11), .val (.ref b20), .val (.ref b29), .val (.int i), .val (.int j), .val (.int md), .val (.ref b75), .val .null, .unset] [(.int (0 : Int32))]))
            refine own_up (fun tx kx => XS.istore X126.here hx rfl (hb hby at_197) rfl (l' := #[.val (.int p1), .val (.int p2), .val (.int p3), .val (.ref b11), .val (.ref b20), .val (.ref b29), .val (.int i), .val (.int j), .val (.int md), .val (.ref b75), .val .null, .val (.int (0 : Int32))]) rfl kx) ?_
            show OwnOk p e below _ (T126.setTop (mkF m 199 #[.val (.int p1), .val (.int p2), .val (.int p3), .val (.ref b11), .val (.ref b20), .val (.ref b29), .val (.int i), .val (.int j), .val (.int md), .val (.ref b75), .val .null, .val (.int (0 : Int32))] []))
            refine own_up (fun tx kx => XS.goto X126.here hx rfl (pc0 := 199) (pc' := 209) rfl (hb hby at_199) (by decide) (by decide) kx) ?_
            show OwnOk p e below _ (T126.setTop (mkF m 209 #[.val (.int p1), .val (.int p2), .val (.int p3), .val (.ref b11), .val (.ref b20), .val (.ref b29), .val (.int i), .val (.int j), .val (.int md), .val (.ref b75), .val .null, .val (.int (0 : Int32))] []))
            refine own_up (fun tx kx => XS.aload X126.here hx rfl (hb hby at_209) rfl rfl kx) ?_
            show OwnOk p e below _ (T126.setTop (mkF m 211 #[.val (.int p1), .val (.int p2), .val (.int p3), .val (.ref b11), .val (.ref b20), .val (.ref b29), .val (.int i), .val (.int j), .val (.int md), .val (.ref b75), .val .null, .val (.int (0 : Int32))] [(.ref b75)]))
            refine own_up (fun tx kx => XS.aload X126.here hx rfl (hb hby at_211) rfl rfl kx) ?_
            show OwnOk p e below _ (T126.setTop (mkF m 213 #[.val (.int p1), .val (.int p2), .val (.int p3), .val (.ref b11), .val (.ref b20), .val (.ref b29), .val (.int i), .val (.int j), .val (.int md), .val (.ref b75), .val .null, .val (.int (0 : Int32))] [.null, (.ref b75)]))
            refine own_callV X126 hx hZ (y := (⟨"com/example/kwery/kwery/Comparisons$Identity", "equals", "(Ljava/lang/Object;)Z"⟩ : MethodName)) (z := (⟨"com/example/kwery/kwery/Comparisons$Identity", "equals", "(Ljava/lang/Object;)Z"⟩ : MethodName)) hown (wd_47 hw) (wd_48 hw) (notFace_of_selects (args := #[]) (mvT hZ (wd_50 hw))) (wd_50 hw) (wd_49 hw) (wd_35 hw) (wd_51 hw) (by decide) (rm9n l Z a0 hw b75 T126.heap n0 OL126) rfl (argsL := [.null]) (rest := []) Eq126 (by rw [hml]; rfl) (lenOf pd_3 rfl) rfl rfl (W := 0) rfl (hb hby at_213) (by decide) (by decide) (by decide) (by decide) (fun T157 v157 L157 X157 hQ157 => ?_)
            obtain ⟨rfl, Nq157, hh157⟩ := hQ157
            have N157 := Fr.app N126 Nq157
            show OwnOk p e below _ (T157.setTop (mkF m 216 #[.val (.int p1), .val (.int p2), .val (.int p3), .val (.ref b11), .val (.ref b20), .val (.ref b29), .val (.int i), .val (.int j), .val (.int md), .val (.ref b75), .val .null, .val (.int (0 : Int32))] [(.int (0 : Int32))]))
            refine own_up (fun tx kx => XS.iload X157.here hx rfl (hb hby at_216) rfl kx) ?_
            show OwnOk p e below _ (T157.setTop (mkF m 218 #[.val (.int p1), .val (.int p2), .val (.int p3), .val (.ref b11), .val (.ref b20), .val (.ref b29), .val (.int i), .val (.int j), .val (.int md), .val (.ref b75), .val .null, .val (.int (0 : Int32))] [(.int (0 : Int32)), (.int (0 : Int32))]))
            refine own_up (fun tx kx => XS.icmpNo X157.here hx rfl (hb hby at_218) rfl (teq rfl).2 kx) ?_
            show OwnOk p e below _ (T157.setTop (mkF m 221 #[.val (.int p1), .val (.int p2), .val (.int p3), .val (.ref b11), .val (.ref b20), .val (.ref b29), .val (.int i), .val (.int j), .val (.int md), .val (.ref b75), .val .null, .val (.int (0 : Int32))] []))
            refine own_up (fun tx kx => XS.iconst X157.here hx rfl (hb hby at_221) kx) ?_
            show OwnOk p e below _ (T157.setTop (mkF m 222 #[.val (.int p1), .val (.int p2), .val (.int p3), .val (.ref b11), .val (.ref b20), .val (.ref b29), .val (.int i), .val (.int j), .val (.int md), .val (.ref b75), .val .null, .val (.int (0 : Int32))] [(.int (1 : Int32))]))
            refine own_up (fun tx kx => XS.goto X157.here hx rfl (pc0 := 222) (pc' := 226) rfl (hb hby at_222) (by decide) (by decide) kx) ?_
            show OwnOk p e below _ (T157.setTop (mkF m 226 #[.val (.int p1), .val (.int p2), .val (.int p3), .val (.ref b11), .val (.ref b20), .val (.ref b29), .val (.int i), .val (.int j), .val (.int md), .val (.ref b75), .val .null, .val (.int (0 : Int32))] [(.int (1 : Int32))]))
            refine own_retN X157 hx (t := .boolean) (show meth.sig.returnType = some .boolean from hret) (by simp) hlk (hb hby at_226) (z' := (1 : Int32)) rfl hh157 (Nat.le_of_ble_eq_true rfl) (Nat.le_of_ble_eq_true rfl) ?_
            exact ⟨rfl, N157⟩
          · have V_b29_158 := (V_b29_121.keep Kq126 (ninS (Nat.ne_of_lt lt_b29_b75) nin0))
            obtain ⟨cl159, Ar159, qc159, Sz159, Nn159, Hs159, Gf159⟩ := id V_b29_158
            have hin159 : ¬ (j < 0 ∨ cl159.slots.size ≤ (j).toNatClampNeg) := inb_of Sz159 (own_in hj)
            have hat159 : cl159.slots[(j).toNatClampNeg]? = some (.ref uj) := Hs159.at hin159 atj
            refine own_up (fun tx kx => X126.aaload hx (j := j) (v := (.ref uj)) (own_ar rfl Ar159.1) (State.isArrayOf_alike hZ.alike Ar159.2.1) rfl Ar159.2.2 hin159 hat159 (g := (mkF m 193 #[.val (.int p1), .val (.int p2), .val (.int p3), .val (.ref b11), .val (.ref b20), .val (.ref b29), .val (.int i), .val (.int j), .val (.int md), .val (.ref b75), .unset, .unset] [(.int j), (.ref b29)])) rfl rfl (hb hby at_193) _ kx) ?_
            show OwnOk p e below _ (T126.setTop (mkF m 194 #[.val (.int p1), .val (.int p2), .val (.int p3), .val (.ref b11), .val (.ref b20), .val (.ref b29), .val (.int i), .val (.int j), .val (.int md), .val (.ref b75), .unset, .unset] [(.ref uj)]))
            have E_b36_160 := (E_b36_123.keep Kq126)
            have E_b48_161 := (E_b48_124.keep Kq126)
            have E_b61_162 := (E_b61_125.keep Kq126)
            have Euj : Exa Z T126.heap uj "java/lang/String" := by rcases isj with ⟨_, rfl⟩ | ⟨_, rfl⟩ | ⟨_, rfl⟩ <;> first | exact E_b36_160 | exact E_b48_161 | exact E_b61_162
            refine own_up (fun tx kx => XS.astore X126.here hx rfl (hb hby at_194) rfl rfl (l' := #[.val (.int p1), .val (.int p2), .val (.int p3), .val (.ref b11), .val (.ref b20), .val (.ref b29), .val (.int i), .val (.int j), .val (.int md), .val (.ref b75), .val (.ref uj), .unset]) rfl kx) ?_
            show OwnOk p e below _ (T126.setTop (mkF m 196 #[.val (.int p1), .val (.int p2), .val (.int p3), .val (.ref b11), .val (.ref b20), .val (.ref b29), .val (.int i), .val (.int j), .val (.int md), .val (.ref b75), .val (.ref uj), .unset] []))
            refine own_up (fun tx kx => XS.iconst X126.here hx rfl (hb hby at_196) kx) ?_
            show OwnOk p e below _ (T126.setTop (mkF m 197 #[.val (.int p1), .val (.int p2), .val (.int p3), .val (.ref b11), .val (.ref b20), .val (.ref b29), .val (.int i), .val (.int j), .val (.int md), .val (.ref b75), .val (.ref uj), .unset] [(.int (0 : Int32))]))
            refine own_up (fun tx kx => XS.istore X126.here hx rfl (hb hby at_197) rfl (l' := #[.val (.int p1), .val (.int p2), .val (.int p3), .val (.ref b11), .val (.ref b20), .val (.ref b29), .val (.int i), .val (.int j), .val (.int md), .val (.ref b75), .val (.ref uj), .val (.int (0 : Int32))]) rfl kx) ?_
            show OwnOk p e below _ (T126.setTop (mkF m 199 #[.val (.int p1), .val (.int p2), .val (.int p3), .val (.ref b11), .val (.ref b20), .val (.ref b29), .val (.int i), .val (.int j), .val (.int md), .val (.ref b75), .val (.ref uj), .val (.int (0 : Int32))] []))
            refine own_up (fun tx kx => XS.goto X126.here hx rfl (pc0 := 199) (pc' := 209) rfl (hb hby at_199) (by decide) (by decide) kx) ?_
            show OwnOk p e below _ (T126.setTop (mkF m 209 #[.val (.int p1), .val (.int p2), .val (.int p3), .val (.ref b11), .val (.ref b20), .val (.ref b29), .val (.int i), .val (.int j), .val (.int md), .val (.ref b75), .val (.ref uj), .val (.int (0 : Int32))] []))
            refine own_up (fun tx kx => XS.aload X126.here hx rfl (hb hby at_209) rfl rfl kx) ?_
            show OwnOk p e below _ (T126.setTop (mkF m 211 #[.val (.int p1), .val (.int p2), .val (.int p3), .val (.ref b11), .val (.ref b20), .val (.ref b29), .val (.int i), .val (.int j), .val (.int md), .val (.ref b75), .val (.ref uj), .val (.int (0 : Int32))] [(.ref b75)]))
            refine own_up (fun tx kx => XS.aload X126.here hx rfl (hb hby at_211) rfl rfl kx) ?_
            show OwnOk p e below _ (T126.setTop (mkF m 213 #[.val (.int p1), .val (.int p2), .val (.int p3), .val (.ref b11), .val (.ref b20), .val (.ref b29), .val (.int i), .val (.int j), .val (.int md), .val (.ref b75), .val (.ref uj), .val (.int (0 : Int32))] [(.ref uj), (.ref b75)]))
            refine own_callV X126 hx hZ (y := (⟨"com/example/kwery/kwery/Comparisons$Identity", "equals", "(Ljava/lang/Object;)Z"⟩ : MethodName)) (z := (⟨"com/example/kwery/kwery/Comparisons$Identity", "equals", "(Ljava/lang/Object;)Z"⟩ : MethodName)) hown (wd_47 hw) (wd_48 hw) (notFace_of_selects (args := #[]) (mvT hZ (wd_50 hw))) (wd_50 hw) (wd_49 hw) (wd_35 hw) (wd_51 hw) (by decide) (rm9s l Z a0 hw b75 uj T126.heap n0 OL126 Euj) rfl (argsL := [(.ref uj)]) (rest := []) Eq126 (by rw [hml]; rfl) (lenOf pd_3 rfl) rfl rfl (W := 0) rfl (hb hby at_213) (by decide) (by decide) (by decide) (by decide) (fun T163 v163 L163 X163 hQ163 => ?_)
            obtain ⟨rfl, Nq163, hh163⟩ := hQ163
            have N163 := Fr.app N126 Nq163
            show OwnOk p e below _ (T163.setTop (mkF m 216 #[.val (.int p1), .val (.int p2), .val (.int p3), .val (.ref b11), .val (.ref b20), .val (.ref b29), .val (.int i), .val (.int j), .val (.int md), .val (.ref b75), .val (.ref uj), .val (.int (0 : Int32))] [(.int (0 : Int32))]))
            refine own_up (fun tx kx => XS.iload X163.here hx rfl (hb hby at_216) rfl kx) ?_
            show OwnOk p e below _ (T163.setTop (mkF m 218 #[.val (.int p1), .val (.int p2), .val (.int p3), .val (.ref b11), .val (.ref b20), .val (.ref b29), .val (.int i), .val (.int j), .val (.int md), .val (.ref b75), .val (.ref uj), .val (.int (0 : Int32))] [(.int (0 : Int32)), (.int (0 : Int32))]))
            refine own_up (fun tx kx => XS.icmpNo X163.here hx rfl (hb hby at_218) rfl (teq rfl).2 kx) ?_
            show OwnOk p e below _ (T163.setTop (mkF m 221 #[.val (.int p1), .val (.int p2), .val (.int p3), .val (.ref b11), .val (.ref b20), .val (.ref b29), .val (.int i), .val (.int j), .val (.int md), .val (.ref b75), .val (.ref uj), .val (.int (0 : Int32))] []))
            refine own_up (fun tx kx => XS.iconst X163.here hx rfl (hb hby at_221) kx) ?_
            show OwnOk p e below _ (T163.setTop (mkF m 222 #[.val (.int p1), .val (.int p2), .val (.int p3), .val (.ref b11), .val (.ref b20), .val (.ref b29), .val (.int i), .val (.int j), .val (.int md), .val (.ref b75), .val (.ref uj), .val (.int (0 : Int32))] [(.int (1 : Int32))]))
            refine own_up (fun tx kx => XS.goto X163.here hx rfl (pc0 := 222) (pc' := 226) rfl (hb hby at_222) (by decide) (by decide) kx) ?_
            show OwnOk p e below _ (T163.setTop (mkF m 226 #[.val (.int p1), .val (.int p2), .val (.int p3), .val (.ref b11), .val (.ref b20), .val (.ref b29), .val (.int i), .val (.int j), .val (.int md), .val (.ref b75), .val (.ref uj), .val (.int (0 : Int32))] [(.int (1 : Int32))]))
            refine own_retN X163 hx (t := .boolean) (show meth.sig.returnType = some .boolean from hret) (by simp) hlk (hb hby at_226) (z' := (1 : Int32)) rfl hh163 (Nat.le_of_ble_eq_true rfl) (Nat.le_of_ble_eq_true rfl) ?_
            exact ⟨rfl, N163⟩
        · refine own_up (fun tx kx => XS.icmpYes X126.here hx rfl (pc0 := 186) (pc' := 202) rfl (hb hby at_186) rfl (feq hm2).2 (by decide) (by decide) kx) ?_
          show OwnOk p e below _ (T126.setTop (mkF m 202 #[.val (.int p1), .val (.int p2), .val (.int p3), .val (.ref b11), .val (.ref b20), .val (.ref b29), .val (.int i), .val (.int j), .val (.int md), .val (.ref b75), .unset, .unset] []))
          refine own_up (fun tx kx => XS.aload X126.here hx rfl (hb hby at_202) rfl rfl kx) ?_
          show OwnOk p e below _ (T126.setTop (mkF m 204 #[.val (.int p1), .val (.int p2), .val (.int p3), .val (.ref b11), .val (.ref b20), .val (.ref b29), .val (.int i), .val (.int j), .val (.int md), .val (.ref b75), .unset, .unset] [(.ref b75)]))
          refine own_up (fun tx kx => XS.astore X126.here hx rfl (hb hby at_204) rfl rfl (l' := #[.val (.int p1), .val (.int p2), .val (.int p3), .val (.ref b11), .val (.ref b20), .val (.ref b29), .val (.int i), .val (.int j), .val (.int md), .val (.ref b75), .val (.ref b75), .unset]) rfl kx) ?_
          show OwnOk p e below _ (T126.setTop (mkF m 206 #[.val (.int p1), .val (.int p2), .val (.int p3), .val (.ref b11), .val (.ref b20), .val (.ref b29), .val (.int i), .val (.int j), .val (.int md), .val (.ref b75), .val (.ref b75), .unset] []))
          refine own_up (fun tx kx => XS.iconst X126.here hx rfl (hb hby at_206) kx) ?_
          show OwnOk p e below _ (T126.setTop (mkF m 207 #[.val (.int p1), .val (.int p2), .val (.int p3), .val (.ref b11), .val (.ref b20), .val (.ref b29), .val (.int i), .val (.int j), .val (.int md), .val (.ref b75), .val (.ref b75), .unset] [(.int (1 : Int32))]))
          refine own_up (fun tx kx => XS.istore X126.here hx rfl (hb hby at_207) rfl (l' := #[.val (.int p1), .val (.int p2), .val (.int p3), .val (.ref b11), .val (.ref b20), .val (.ref b29), .val (.int i), .val (.int j), .val (.int md), .val (.ref b75), .val (.ref b75), .val (.int (1 : Int32))]) rfl kx) ?_
          show OwnOk p e below _ (T126.setTop (mkF m 209 #[.val (.int p1), .val (.int p2), .val (.int p3), .val (.ref b11), .val (.ref b20), .val (.ref b29), .val (.int i), .val (.int j), .val (.int md), .val (.ref b75), .val (.ref b75), .val (.int (1 : Int32))] []))
          refine own_up (fun tx kx => XS.aload X126.here hx rfl (hb hby at_209) rfl rfl kx) ?_
          show OwnOk p e below _ (T126.setTop (mkF m 211 #[.val (.int p1), .val (.int p2), .val (.int p3), .val (.ref b11), .val (.ref b20), .val (.ref b29), .val (.int i), .val (.int j), .val (.int md), .val (.ref b75), .val (.ref b75), .val (.int (1 : Int32))] [(.ref b75)]))
          refine own_up (fun tx kx => XS.aload X126.here hx rfl (hb hby at_211) rfl rfl kx) ?_
          show OwnOk p e below _ (T126.setTop (mkF m 213 #[.val (.int p1), .val (.int p2), .val (.int p3), .val (.ref b11), .val (.ref b20), .val (.ref b29), .val (.int i), .val (.int j), .val (.int md), .val (.ref b75), .val (.ref b75), .val (.int (1 : Int32))] [(.ref b75), (.ref b75)]))
          refine own_callV X126 hx hZ (y := (⟨"com/example/kwery/kwery/Comparisons$Identity", "equals", "(Ljava/lang/Object;)Z"⟩ : MethodName)) (z := (⟨"com/example/kwery/kwery/Comparisons$Identity", "equals", "(Ljava/lang/Object;)Z"⟩ : MethodName)) hown (wd_47 hw) (wd_48 hw) (notFace_of_selects (args := #[]) (mvT hZ (wd_50 hw))) (wd_50 hw) (wd_49 hw) (wd_35 hw) (wd_51 hw) (by decide) (rm9i l Z a0 hw b75 b75 (.ref ui) (.ref ui) T126.heap n0 OL126 Eq126 fq126 fq126 rfl rfl) rfl (argsL := [(.ref b75)]) (rest := []) Eq126 (by rw [hml]; rfl) (lenOf pd_3 rfl) rfl rfl (W := 0) rfl (hb hby at_213) (by decide) (by decide) (by decide) (by decide) (fun T164 v164 L164 X164 hQ164 => ?_)
          obtain ⟨rfl, Nq164, hh164⟩ := hQ164
          have N164 := Fr.app N126 Nq164
          show OwnOk p e below _ (T164.setTop (mkF m 216 #[.val (.int p1), .val (.int p2), .val (.int p3), .val (.ref b11), .val (.ref b20), .val (.ref b29), .val (.int i), .val (.int j), .val (.int md), .val (.ref b75), .val (.ref b75), .val (.int (1 : Int32))] [(.int (if (Value.ref ui) = (.ref ui) then 1 else 0 : Int32))]))
          refine own_up (fun tx kx => XS.iload X164.here hx rfl (hb hby at_216) rfl kx) ?_
          show OwnOk p e below _ (T164.setTop (mkF m 218 #[.val (.int p1), .val (.int p2), .val (.int p3), .val (.ref b11), .val (.ref b20), .val (.ref b29), .val (.int i), .val (.int j), .val (.int md), .val (.ref b75), .val (.ref b75), .val (.int (1 : Int32))] [(.int (1 : Int32)), (.int (if (Value.ref ui) = (.ref ui) then 1 else 0 : Int32))]))
          refine own_up (fun tx kx => XS.icmpNo X164.here hx rfl (hb hby at_218) rfl (teq (if_pos rfl)).2 kx) ?_
          show OwnOk p e below _ (T164.setTop (mkF m 221 #[.val (.int p1), .val (.int p2), .val (.int p3), .val (.ref b11), .val (.ref b20), .val (.ref b29), .val (.int i), .val (.int j), .val (.int md), .val (.ref b75), .val (.ref b75), .val (.int (1 : Int32))] []))
          refine own_up (fun tx kx => XS.iconst X164.here hx rfl (hb hby at_221) kx) ?_
          show OwnOk p e below _ (T164.setTop (mkF m 222 #[.val (.int p1), .val (.int p2), .val (.int p3), .val (.ref b11), .val (.ref b20), .val (.ref b29), .val (.int i), .val (.int j), .val (.int md), .val (.ref b75), .val (.ref b75), .val (.int (1 : Int32))] [(.int (1 : Int32))]))
          refine own_up (fun tx kx => XS.goto X164.here hx rfl (pc0 := 222) (pc' := 226) rfl (hb hby at_222) (by decide) (by decide) kx) ?_
          show OwnOk p e below _ (T164.setTop (mkF m 226 #[.val (.int p1), .val (.int p2), .val (.int p3), .val (.ref b11), .val (.ref b20), .val (.ref b29), .val (.int i), .val (.int j), .val (.int md), .val (.ref b75), .val (.ref b75), .val (.int (1 : Int32))] [(.int (1 : Int32))]))
          refine own_retN X164 hx (t := .boolean) (show meth.sig.returnType = some .boolean from hret) (by simp) hlk (hb hby at_226) (z' := (1 : Int32)) rfl hh164 (Nat.le_of_ble_eq_true rfl) (Nat.le_of_ble_eq_true rfl) ?_
          exact ⟨rfl, N164⟩
set_option maxRecDepth 65536 in
set_option maxHeartbeats 40000000 in
theorem comes_1 {Post : Tables → Env → Array Value → State → Outcome → State → Prop} (hpost : ∀ tb e args s v u, (limb_1_1.after args s (.returned v) u = true ∧ limb_1_2.after args s (.returned v) u = true ∧ True) → FrameEnd s (.returned v) u (Jvm.fieldLocs frame_1_writes args s ++ Jvm.arrayLocs frame_1_arrays args s ++ Jvm.staticLocs frame_1_statics s) 32 128 → Post tb e args s (.returned v) u) :
    ArmFor flags0 classFile x code maxLocals ret World_1 tables_1 room_1 Calls_1 rest_1 Pre_1 Post := by
  intro l hfl _ _ p e ha hc hk s m args below hf hA hF happ hP
  obtain ⟨hcalls, hrest, hpre⟩ := hP
  obtain ⟨-, -, -, hnamed, -, -, -, hat⟩ := (Spec.applies_iff hf).mp happ
  obtain ⟨hg, hn⟩ := and_e (Cond.before_iff.mp (show (Jvm.Cond.and given_1 narrow_1).before args s = true from hpre))
  obtain ⟨g0, gr0⟩ := and_e hg
  obtain ⟨w_0, w_1, w_2, rfl⟩ : ∃ w_0 w_1 w_2 : Value, args = #[w_0, w_1, w_2] := by
    have hs : args.size = 3 := by simpa [Cond.value, given_1] using g0
    obtain ⟨L⟩ := args
    match L, hs with
    | [w_0, w_1, w_2], _ => exact ⟨w_0, w_1, w_2, rfl⟩
  have hw := fun d (hd : d ∈ tables_1) => atoms_spec (ws := Jvm.Cond.code x code maxLocals ret :: tables_1) hat d (List.mem_cons_of_mem _ hd)
  have hfit : Fit s := fun {y c} hc i hi => by
    obtain ⟨ha, rfl⟩ := Array.getElem?_eq_some_iff.mp hc
    have q := List.all_eq_true.mp ((Array.all_eq_true_iff_forall_mem.mp hF) _ (Array.getElem_mem ha)) i (List.mem_range.mpr hi)
    simpa [Array.getElem?_eq_getElem hi] using q
  obtain ⟨gi0, gr1⟩ := and_e gr0
  obtain ⟨i0, ei0⟩ := is_v gi0
  obtain rfl : w_0 = (.int i0) := Option.some.inj ei0
  obtain ⟨gi1, gr2⟩ := and_e gr1
  obtain ⟨i1, ei1⟩ := is_v gi1
  obtain rfl : w_1 = (.int i1) := Option.some.inj ei1
  obtain ⟨i2, ei2⟩ := is_v gr2
  obtain rfl : w_2 = (.int i2) := Option.some.inj ei2
  obtain ⟨hsets, hown0⟩ := atoms_of _ (rest_1_c_eq ▸ (show rest_1_c.before _ s = true from hrest))
  have n5 := not_v (Cond.before_iff.mp (hsets _ (List.mem_of_getElem? (i := 2) rfl)))
  obtain ⟨cz, e10⟩ := is_v (Cond.before_iff.mp (hsets _ (List.mem_of_getElem? (i := 1) rfl)))
  have SC : Sta s s.heap "java/lang/String" "COMPACT_STRINGS" "Z" (.int cz) := Sta.start e10 (Or.inl (hsets _ (List.mem_of_getElem? (i := 0) rfl)))
  have hcz : ¬ cz = 0 := gotF (Cond.eq_ints e10 (Term.int_eval (0))) n5
  obtain ⟨n, o, h1, h2, h3, _, L, rfl, ⟨rfl, N⟩, hq⟩ := (rm0 l s _ hw i0 i1 i2 cz s.heap s.heap.size (Old.start s) SC hcz) tables_1 p e ha hc hk s m _ below hf ((Spec.applies_iff_loose hf).mp happ).1 ⟨rfl, State.Warmed39.refl s, rfl⟩ trivial
  refine ⟨n, _, h1, h2, h3, hpost _ _ _ _ _ _ ⟨Cond.after_iff.mpr rfl, Cond.after_iff.mpr (eq_i res_at (Term.int_eval (1)) rfl), trivial⟩ ⟨hq.1, hq.2.1, (hq.2.2.sift fun y hy => Or.inr (N y hy)).mono (by decide) (by decide)⟩⟩
theorem main_1_1 : Claimed_1_1 := comes_1 fun _ _ _ _ _ _ h hF => ⟨h.1, hF⟩
theorem main_1_2 : Claimed_1_2 := comes_1 fun _ _ _ _ _ _ h hF => ⟨h.2.1, hF⟩
end Jvm.Pilot.@@N@@
namespace Jvm.Pilot.@@N@@
open Jvm Jvm.ClassFile Sem Op Lib Jvm.Free Jvm.Stand Jvm.Pilot.@@N@@.Jvm.D
/-! MADE BY PROGRAM (witnessworld.py) out of the Statement's table words and the real class files: 22 classes; the members and pool entries that the words name. The judged class is class 1, her method 1. -/
namespace start1
open Jvm.ClassFile
def u (s : String) : CpInfo := .utf8 (stringToUtf16 s)
/-- a pool by its gaps: so many unusable entries, then the entry; so many at the end -/
def gap : Nat → List CpInfo → List CpInfo
  | 0, r => r
  | n + 1, r => .unusable :: gap n r
def poolList (es : List (Nat × CpInfo)) (last : Nat) : List CpInfo := es.foldr (fun e r => gap e.1 (e.2 :: r)) (gap last [])
def pool (es : List (Nat × CpInfo)) (last : Nat) : Array CpInfo := ⟨poolList es last⟩
def fileOf (pool : Array CpInfo) (this : Nat) (attrs : Array Attribute := #[]) (ms : Array MethodInfo := #[]) (fl : Nat := 33) (sup : Nat := 0) (ifs : Array Nat := #[]) (fds : Array FieldInfo := #[]) : ClassFile where
  minorVersion := 0
  majorVersion := 65
  constantPool := pool
  accessFlags := fl
  thisClass := this
  superClass := sup
  interfaces := ifs
  fields := fds
  methods := ms
  attributes := attrs
def plain (name : String) (sup : Option ClassId) : Class where
  name := name
  kind := .ordinary
  loader := none
  accessFlags := 33
  super := sup
  interfaces := #[]
  cf := none
  fields := #[]
  methods := #[]
  instanceTypes := #[]
  staticTypes := #[]
  resolved := #[]
  callSites := []
  init := .initialized
  statics := none
  mirror := none

def pool0 : Array CpInfo := pool [(5, u "<init>"), (0, u "()V"), (1, .class_ 10), (1, u "java/lang/Object")] 113

def k0c0 : Code := { maxStack := 0, maxLocals := 1, code := object_method_1_code, exceptionTable := #[], attributes := #[] }
def k0m0 : Method := { name := "<init>", desc := "()V", sig := { parameters := [], returnType := none }, accessFlags := 1, code := some k0c0 }
/-- java/lang/Object -/
def k0 : Class := { plain "java/lang/Object" none with
  accessFlags := 33
  interfaces := #[]
  cf := some (fileOf pool0 8 #[] #[{ accessFlags := 1, nameIndex := 5, descriptorIndex := 6, attributes := #[] }] 33 0 #[] #[])
  fields := #[]
  methods := #[k0m0]
  instanceTypes := #[]
  staticTypes := #[]
  resolved := Array.replicate 124 none
  statics := none }

def pool1 : Array CpInfo := pool [(2, .class_ 4), (1, u "java/lang/Object"), (0, u "<init>"), (0, u "()V"), (0, .class_ 8), (0, u "java/lang/String"), (0, .methodref 7 10), (0, .nameAndType 5 11), (0, u "([C)V"), (0, .class_ 13), (0, u "com/example/kwery/kwery/Comparisons$Identity"), (0, .methodref 12 15), (0, .nameAndType 5 16), (0, u "(Ljava/lang/Object;)V"), (0, .methodref 12 18), (0, .nameAndType 19 20), (0, u "equals"), (0, u "(Ljava/lang/Object;)Z"), (0, .class_ 22), (0, u "com/example/kwery/kwery/IdentityEqualsPinLaw"), (2, u "law"), (0, u "(III)Z")] 11

def k1m0 : Method := { name := "<init>", desc := "()V", sig := { parameters := [], returnType := none }, accessFlags := 1, code := none }
def k1c1 : Code := { maxStack := 5, maxLocals := 12, code := code, exceptionTable := #[], attributes := #[] }
def k1m1 : Method := { name := "law", desc := "(III)Z", sig := { parameters := [.int, .int, .int], returnType := some .boolean }, accessFlags := 9, code := some k1c1 }
/-- com/example/kwery/kwery/IdentityEqualsPinLaw -/
def k1 : Class := { plain "com/example/kwery/kwery/IdentityEqualsPinLaw" (some 0) with
  accessFlags := 49
  interfaces := #[]
  cf := some (fileOf pool1 21 #[] #[{ accessFlags := 1, nameIndex := 5, descriptorIndex := 6, attributes := #[] }, { accessFlags := 9, nameIndex := 25, descriptorIndex := 26, attributes := #[] }] 49 2 #[] #[])
  fields := #[]
  methods := #[k1m0, k1m1]
  instanceTypes := #[]
  staticTypes := #[]
  resolved := Array.replicate 38 none
  statics := none }

def pool2 : Array CpInfo := pool [(1, .class_ 2), (0, u "java/io/Serializable"), (0, .class_ 4), (0, u "java/lang/Object")] 2

/-- java/io/Serializable -/
def k2 : Class := { plain "java/io/Serializable" (some 0) with
  accessFlags := 1537
  interfaces := #[]
  cf := some (fileOf pool2 1 #[] #[] 1537 3 #[] #[])
  fields := #[]
  methods := #[]
  instanceTypes := #[]
  staticTypes := #[]
  resolved := Array.replicate 7 none
  statics := none }

def pool3 : Array CpInfo := pool [(1, .class_ 2), (0, u "java/lang/Comparable"), (0, .class_ 4), (0, u "java/lang/Object")] 7

/-- java/lang/Comparable -/
def k3 : Class := { plain "java/lang/Comparable" (some 0) with
  accessFlags := 1537
  interfaces := #[]
  cf := some (fileOf pool3 1 #[] #[] 1537 3 #[] #[])
  fields := #[]
  methods := #[]
  instanceTypes := #[]
  staticTypes := #[]
  resolved := Array.replicate 12 none
  statics := none }

def pool4 : Array CpInfo := pool [(2, .class_ 4), (1, u "java/lang/CharSequence"), (42, .class_ 48), (0, u "java/lang/CharSequence$1CodePointIterator"), (10, .class_ 60), (0, u "java/lang/CharSequence$1CharIterator"), (5, .class_ 67), (0, u "java/lang/Object")] 63

/-- java/lang/CharSequence -/
def k4 : Class := { plain "java/lang/CharSequence" (some 0) with
  accessFlags := 1537
  interfaces := #[]
  cf := some (fileOf pool4 2 #[.nestMembers #[47, 59]] #[] 1537 66 #[] #[])
  fields := #[]
  methods := #[]
  instanceTypes := #[]
  staticTypes := #[]
  resolved := Array.replicate 131 none
  statics := none }

def pool5 : Array CpInfo := pool [(1, .class_ 2), (0, u "java/lang/constant/Constable"), (0, .class_ 4), (0, u "java/lang/Object")] 6

/-- java/lang/constant/Constable -/
def k5 : Class := { plain "java/lang/constant/Constable" (some 0) with
  accessFlags := 1537
  interfaces := #[]
  cf := some (fileOf pool5 1 #[] #[] 1537 3 #[] #[])
  fields := #[]
  methods := #[]
  instanceTypes := #[]
  staticTypes := #[]
  resolved := Array.replicate 11 none
  statics := none }

def pool6 : Array CpInfo := pool [(1, .class_ 2), (0, u "java/lang/constant/ConstantDesc"), (0, .class_ 4), (0, u "java/lang/Object")] 32

/-- java/lang/constant/ConstantDesc -/
def k6 : Class := { plain "java/lang/constant/ConstantDesc" (some 0) with
  accessFlags := 1537
  interfaces := #[]
  cf := some (fileOf pool6 1 #[] #[] 1537 3 #[] #[])
  fields := #[]
  methods := #[]
  instanceTypes := #[]
  staticTypes := #[]
  resolved := Array.replicate 37 none
  statics := none }

def pool7 : Array CpInfo := pool [(1, .methodref 2 3), (0, .class_ 4), (0, .nameAndType 5 6), (0, u "java/lang/Object"), (0, u "<init>"), (0, u "()V"), (2, .fieldref 10 11), (0, .class_ 12), (0, .nameAndType 13 14), (0, u "java/lang/String"), (0, u "value"), (0, u "[B"), (0, .fieldref 10 16), (0, .nameAndType 17 18), (0, u "coder"), (0, u "B"), (2, u "hash"), (0, u "I"), (2, u "hashIsZero"), (0, u "Z"), (0, .methodref 10 28), (0, .nameAndType 5 29), (0, u "([CIILjava/lang/Void;)V"), (8, .fieldref 10 39), (0, .nameAndType 40 26), (0, u "COMPACT_STRINGS"), (1, .class_ 44), (1, u "java/lang/StringUTF16"), (0, u "compress"), (1, .methodref 42 48), (0, .nameAndType 49 50), (0, u "coderFromArrayLen"), (0, u "([BI)B"), (126, .methodref 42 178), (0, .nameAndType 45 179), (0, u "([CII)[B"), (395, .class_ 576), (0, u "java/lang/CharSequence"), (22, u "CASE_INSENSITIVE_ORDER"), (0, u "Ljava/util/Comparator;"), (409, u "([C)V"), (90, u "serialPersistentFields"), (0, u "[Ljava/io/ObjectStreamField;"), (0, .class_ 1104), (0, u "java/lang/String$CaseInsensitiveComparator"), (1, .class_ 1107), (0, u "java/io/Serializable"), (0, .class_ 1109), (0, u "java/lang/Comparable"), (0, .class_ 1111), (0, u "java/lang/constant/Constable"), (0, .class_ 1113), (0, u "java/lang/constant/ConstantDesc"), (2, u "serialVersionUID"), (0, u "J"), (3, u "REPL"), (0, u "C"), (2, u "LATIN1"), (1, u "UTF16")] 323

def k7m0 : Method := { name := "<init>", desc := "()V", sig := { parameters := [], returnType := none }, accessFlags := 1, code := none }
def k7c1 : Code := { maxStack := 5, maxLocals := 2, code := jdk_42_method_3_code, exceptionTable := #[], attributes := #[] }
def k7m1 : Method := { name := "<init>", desc := "([C)V", sig := { parameters := [(.array .char)], returnType := none }, accessFlags := 1, code := some k7c1 }
def k7c2 : Code := { maxStack := 4, maxLocals := 6, code := jdk_42_method_149_code, exceptionTable := #[], attributes := #[] }
def k7m2 : Method := { name := "<init>", desc := "([CIILjava/lang/Void;)V", sig := { parameters := [(.array .char), .int, .int, (.object "java/lang/Void")], returnType := none }, accessFlags := 2, code := some k7c2 }
/-- java/lang/String -/
def k7 : Class := { plain "java/lang/String" (some 0) with
  accessFlags := 49
  interfaces := #[2, 3, 4, 5, 6]
  cf := some (fileOf pool7 10 #[.nestMembers #[1103]] #[{ accessFlags := 1, nameIndex := 5, descriptorIndex := 6, attributes := #[] }, { accessFlags := 1, nameIndex := 5, descriptorIndex := 1010, attributes := #[] }, { accessFlags := 2, nameIndex := 5, descriptorIndex := 29, attributes := #[] }] 49 2 #[1106, 1108, 575, 1110, 1112] #[{ accessFlags := 18, nameIndex := 13, descriptorIndex := 14, attributes := #[] }, { accessFlags := 18, nameIndex := 17, descriptorIndex := 18, attributes := #[] }, { accessFlags := 2, nameIndex := 21, descriptorIndex := 22, attributes := #[] }, { accessFlags := 2, nameIndex := 25, descriptorIndex := 26, attributes := #[] }, { accessFlags := 26, nameIndex := 1116, descriptorIndex := 1117, attributes := #[] }, { accessFlags := 24, nameIndex := 40, descriptorIndex := 26, attributes := #[] }, { accessFlags := 26, nameIndex := 1101, descriptorIndex := 1102, attributes := #[] }, { accessFlags := 26, nameIndex := 1121, descriptorIndex := 1122, attributes := #[] }, { accessFlags := 25, nameIndex := 599, descriptorIndex := 600, attributes := #[] }, { accessFlags := 24, nameIndex := 1125, descriptorIndex := 18, attributes := #[] }, { accessFlags := 24, nameIndex := 1127, descriptorIndex := 18, attributes := #[] }])
  fields := #[{ name := "value", type := (.array .byte), accessFlags := 18, slot := 0, constantValue := 0 }, { name := "coder", type := .byte, accessFlags := 18, slot := 1, constantValue := 0 }, { name := "hash", type := .int, accessFlags := 2, slot := 2, constantValue := 0 }, { name := "hashIsZero", type := .boolean, accessFlags := 2, slot := 3, constantValue := 0 }, { name := "serialVersionUID", type := .long, accessFlags := 26, slot := 0, constantValue := 0 }, { name := "COMPACT_STRINGS", type := .boolean, accessFlags := 24, slot := 1, constantValue := 0 }, { name := "serialPersistentFields", type := (.array (.object "java/io/ObjectStreamField")), accessFlags := 26, slot := 2, constantValue := 0 }, { name := "REPL", type := .char, accessFlags := 26, slot := 3, constantValue := 0 }, { name := "CASE_INSENSITIVE_ORDER", type := (.object "java/util/Comparator"), accessFlags := 25, slot := 4, constantValue := 0 }, { name := "LATIN1", type := .byte, accessFlags := 24, slot := 5, constantValue := 0 }, { name := "UTF16", type := .byte, accessFlags := 24, slot := 6, constantValue := 0 }]
  methods := #[k7m0, k7m1, k7m2]
  instanceTypes := #[(.array .byte), .byte, .int, .boolean]
  staticTypes := #[.long, .boolean, (.array (.object "java/io/ObjectStreamField")), .char, (.object "java/util/Comparator"), .byte, .byte]
  resolved := Array.replicate 1451 none
  statics := some 0 }

def pool8 : Array CpInfo := pool [(6, .class_ 8), (1, u "java/lang/Object"), (0, u "<init>"), (0, u "()V"), (1, .class_ 14), (1, u "java/lang/StringUTF16"), (31, u "$assertionsDisabled"), (0, u "Z"), (13, u "HI_BYTE_SHIFT"), (0, u "I"), (2, u "LO_BYTE_SHIFT"), (49, .methodref 12 116), (0, .nameAndType 117 118), (0, u "compress"), (0, u "([CI[BII)I"), (3, u "([CII)[B"), (138, u "coderFromArrayLen"), (0, u "([BI)B"), (106, .class_ 371), (1, u "java/lang/StringUTF16$LinesSpliterator"), (58, u "MAX_LENGTH"), (196, .class_ 628), (0, u "java/lang/StringUTF16$CodePointsSpliterator"), (0, .class_ 630), (0, u "java/lang/StringUTF16$CharsSpliterator")] 4

def k8m0 : Method := { name := "<init>", desc := "()V", sig := { parameters := [], returnType := none }, accessFlags := 0, code := none }
def k8c1 : Code := { maxStack := 2, maxLocals := 2, code := jdk_52_method_15_code, exceptionTable := #[], attributes := #[] }
def k8m1 : Method := { name := "coderFromArrayLen", desc := "([BI)B", sig := { parameters := [(.array .byte), .int], returnType := some .byte }, accessFlags := 8, code := some k8c1 }
def k8c2 : Code := { maxStack := 5, maxLocals := 6, code := jdk_52_method_16_code, exceptionTable := #[], attributes := #[] }
def k8m2 : Method := { name := "compress", desc := "([CII)[B", sig := { parameters := [(.array .char), .int, .int], returnType := some (.array .byte) }, accessFlags := 9, code := some k8c2 }
def k8c3 : Code := { maxStack := 3, maxLocals := 7, code := jdk_52_method_21_code, exceptionTable := #[], attributes := #[] }
def k8m3 : Method := { name := "compress", desc := "([CI[BII)I", sig := { parameters := [(.array .char), .int, (.array .byte), .int, .int], returnType := some .int }, accessFlags := 9, code := some k8c3 }
/-- java/lang/StringUTF16 -/
def k8 : Class := { plain "java/lang/StringUTF16" (some 0) with
  accessFlags := 48
  interfaces := #[]
  cf := some (fileOf pool8 12 #[.nestMembers #[627, 629, 369]] #[{ accessFlags := 0, nameIndex := 9, descriptorIndex := 10, attributes := #[] }, { accessFlags := 8, nameIndex := 261, descriptorIndex := 262, attributes := #[] }, { accessFlags := 9, nameIndex := 117, descriptorIndex := 122, attributes := #[] }, { accessFlags := 9, nameIndex := 117, descriptorIndex := 118, attributes := #[] }] 48 6 #[] #[{ accessFlags := 26, nameIndex := 61, descriptorIndex := 62, attributes := #[] }, { accessFlags := 26, nameIndex := 65, descriptorIndex := 62, attributes := #[] }, { accessFlags := 24, nameIndex := 430, descriptorIndex := 62, attributes := #[] }, { accessFlags := 4120, nameIndex := 46, descriptorIndex := 47, attributes := #[] }])
  fields := #[{ name := "HI_BYTE_SHIFT", type := .int, accessFlags := 26, slot := 0, constantValue := 0 }, { name := "LO_BYTE_SHIFT", type := .int, accessFlags := 26, slot := 1, constantValue := 0 }, { name := "MAX_LENGTH", type := .int, accessFlags := 24, slot := 2, constantValue := 0 }, { name := "$assertionsDisabled", type := .boolean, accessFlags := 4120, slot := 3, constantValue := 0 }]
  methods := #[k8m0, k8m1, k8m2, k8m3]
  instanceTypes := #[]
  staticTypes := #[.int, .int, .int, .boolean]
  resolved := Array.replicate 635 none
  statics := none }

def pool9 : Array CpInfo := pool [(1, .methodref 2 3), (0, .class_ 4), (0, .nameAndType 5 6), (0, u "java/lang/Object"), (0, u "<init>"), (0, u "()V"), (0, .class_ 8), (0, u "java/lang/Record")] 13

def k9c0 : Code := { maxStack := 1, maxLocals := 1, code := jdk_30_method_1_code, exceptionTable := #[], attributes := #[] }
def k9m0 : Method := { name := "<init>", desc := "()V", sig := { parameters := [], returnType := none }, accessFlags := 4, code := some k9c0 }
/-- java/lang/Record -/
def k9 : Class := { plain "java/lang/Record" (some 0) with
  accessFlags := 1057
  interfaces := #[]
  cf := some (fileOf pool9 7 #[] #[{ accessFlags := 4, nameIndex := 5, descriptorIndex := 6, attributes := #[] }] 1057 2 #[] #[])
  fields := #[]
  methods := #[k9m0]
  instanceTypes := #[]
  staticTypes := #[]
  resolved := Array.replicate 22 none
  statics := none }

def pool10 : Array CpInfo := pool [(1, .methodref 2 3), (0, .class_ 4), (0, .nameAndType 5 6), (0, u "java/lang/Record"), (0, u "<init>"), (0, u "()V"), (0, .fieldref 8 9), (0, .class_ 10), (0, .nameAndType 11 12), (0, u "com/example/kwery/kwery/Comparisons$Identity"), (0, u "object"), (0, u "Ljava/lang/Object;"), (10, u "(Ljava/lang/Object;)V"), (3, u "equals"), (0, u "(Ljava/lang/Object;)Z"), (8, .class_ 38), (0, u "com/example/kwery/kwery/Comparisons")] 18

def k10c0 : Code := { maxStack := 2, maxLocals := 2, code := prog_78_method_1_code, exceptionTable := #[], attributes := #[] }
def k10m0 : Method := { name := "<init>", desc := "(Ljava/lang/Object;)V", sig := { parameters := [(.object "java/lang/Object")], returnType := none }, accessFlags := 0, code := some k10c0 }
def k10c1 : Code := { maxStack := 2, maxLocals := 3, code := prog_78_method_2_code, exceptionTable := #[], attributes := #[] }
def k10m1 : Method := { name := "equals", desc := "(Ljava/lang/Object;)Z", sig := { parameters := [(.object "java/lang/Object")], returnType := some .boolean }, accessFlags := 1, code := some k10c1 }
/-- com/example/kwery/kwery/Comparisons$Identity -/
def k10 : Class := { plain "com/example/kwery/kwery/Comparisons$Identity" (some 9) with
  accessFlags := 48
  interfaces := #[]
  cf := some (fileOf pool10 8 #[.nestHost 37] #[{ accessFlags := 0, nameIndex := 5, descriptorIndex := 23, attributes := #[] }, { accessFlags := 1, nameIndex := 27, descriptorIndex := 28, attributes := #[] }] 48 2 #[] #[{ accessFlags := 18, nameIndex := 11, descriptorIndex := 12, attributes := #[] }])
  fields := #[{ name := "object", type := (.object "java/lang/Object"), accessFlags := 18, slot := 0, constantValue := 0 }]
  methods := #[k10m0, k10m1]
  instanceTypes := #[(.object "java/lang/Object")]
  staticTypes := #[]
  resolved := Array.replicate 57 none
  statics := none }

def pool11 : Array CpInfo := pool [(4, .class_ 6), (1, u "java/lang/Object"), (0, u "<init>"), (0, u "()V"), (5, .class_ 16), (1, u "java/lang/StringLatin1"), (104, u "$assertionsDisabled"), (0, u "Z"), (98, .class_ 223), (1, u "java/lang/StringLatin1$LinesSpliterator"), (166, .class_ 391), (0, u "java/lang/StringLatin1$CharsSpliterator")] 3

def k11m0 : Method := { name := "<init>", desc := "()V", sig := { parameters := [], returnType := none }, accessFlags := 0, code := none }
/-- java/lang/StringLatin1 -/
def k11 : Class := { plain "java/lang/StringLatin1" (some 0) with
  accessFlags := 48
  interfaces := #[]
  cf := some (fileOf pool11 14 #[.nestMembers #[390, 221]] #[{ accessFlags := 0, nameIndex := 7, descriptorIndex := 8, attributes := #[] }] 48 4 #[] #[{ accessFlags := 4120, nameIndex := 121, descriptorIndex := 122, attributes := #[] }])
  fields := #[{ name := "$assertionsDisabled", type := .boolean, accessFlags := 4120, slot := 0, constantValue := 0 }]
  methods := #[k11m0]
  instanceTypes := #[]
  staticTypes := #[.boolean]
  resolved := Array.replicate 395 none
  statics := none }

def pool12 : Array CpInfo := pool [(2, .class_ 4), (1, u "java/lang/Object"), (0, u "<init>"), (0, u "()V"), (17, .class_ 26), (1, u "jdk/internal/util/Preconditions"), (28, .class_ 56), (0, u "jdk/internal/util/Preconditions$4"), (57, .class_ 115), (0, u "jdk/internal/util/Preconditions$1"), (7, u "SIOOBE_FORMATTER"), (0, u "Ljava/util/function/BiFunction;"), (0, .class_ 126), (0, u "jdk/internal/util/Preconditions$2"), (3, u "AIOOBE_FORMATTER"), (0, .class_ 132), (0, u "jdk/internal/util/Preconditions$3"), (3, u "IOOBE_FORMATTER")] 57

def k12m0 : Method := { name := "<init>", desc := "()V", sig := { parameters := [], returnType := none }, accessFlags := 1, code := none }
/-- jdk/internal/util/Preconditions -/
def k12 : Class := { plain "jdk/internal/util/Preconditions" (some 0) with
  accessFlags := 33
  interfaces := #[]
  cf := some (fileOf pool12 24 #[.nestMembers #[55, 131, 125, 114]] #[{ accessFlags := 1, nameIndex := 5, descriptorIndex := 6, attributes := #[] }] 33 2 #[] #[{ accessFlags := 25, nameIndex := 123, descriptorIndex := 124, attributes := #[] }, { accessFlags := 25, nameIndex := 130, descriptorIndex := 124, attributes := #[] }, { accessFlags := 25, nameIndex := 136, descriptorIndex := 124, attributes := #[] }])
  fields := #[{ name := "SIOOBE_FORMATTER", type := (.object "java/util/function/BiFunction"), accessFlags := 25, slot := 0, constantValue := 0 }, { name := "AIOOBE_FORMATTER", type := (.object "java/util/function/BiFunction"), accessFlags := 25, slot := 1, constantValue := 0 }, { name := "IOOBE_FORMATTER", type := (.object "java/util/function/BiFunction"), accessFlags := 25, slot := 2, constantValue := 0 }]
  methods := #[k12m0]
  instanceTypes := #[]
  staticTypes := #[(.object "java/util/function/BiFunction"), (.object "java/util/function/BiFunction"), (.object "java/util/function/BiFunction")]
  resolved := Array.replicate 194 none
  statics := some 1 }

def pool13 : Array CpInfo := pool [(9, u "<init>"), (6, .class_ 18), (1, u "java/lang/Object"), (0, u "()V"), (1, .class_ 23), (1, u "jdk/internal/util/ArraysSupport"), (0, u "LOG2_ARRAY_LONG_INDEX_SCALE"), (0, u "I"), (2, u "U"), (0, u "Ljdk/internal/misc/Unsafe;"), (8, u "BIG_ENDIAN"), (0, u "Z"), (8, u "LOG2_BYTE_BIT_SIZE"), (4, u "LOG2_ARRAY_INT_INDEX_SCALE"), (54, u "JLA"), (0, u "Ljdk/internal/access/JavaLangAccess;"), (11, u "LOG2_ARRAY_BOOLEAN_INDEX_SCALE"), (9, u "LOG2_ARRAY_BYTE_INDEX_SCALE"), (5, u "LOG2_ARRAY_CHAR_INDEX_SCALE"), (5, u "LOG2_ARRAY_SHORT_INDEX_SCALE"), (18, u "LOG2_ARRAY_FLOAT_INDEX_SCALE"), (24, u "LOG2_ARRAY_DOUBLE_INDEX_SCALE"), (89, u "T_BOOLEAN"), (2, u "T_CHAR"), (1, u "T_FLOAT"), (1, u "T_DOUBLE"), (1, u "T_BYTE"), (1, u "T_SHORT"), (1, u "T_INT"), (1, u "T_LONG"), (1, u "SOFT_MAX_ARRAY_LENGTH")] 83

def k13m0 : Method := { name := "<init>", desc := "()V", sig := { parameters := [], returnType := none }, accessFlags := 2, code := none }
/-- jdk/internal/util/ArraysSupport -/
def k13 : Class := { plain "jdk/internal/util/ArraysSupport" (some 0) with
  accessFlags := 33
  interfaces := #[]
  cf := some (fileOf pool13 21 #[] #[{ accessFlags := 2, nameIndex := 9, descriptorIndex := 19, attributes := #[] }] 33 16 #[] #[{ accessFlags := 24, nameIndex := 28, descriptorIndex := 29, attributes := #[] }, { accessFlags := 26, nameIndex := 38, descriptorIndex := 39, attributes := #[] }, { accessFlags := 25, nameIndex := 121, descriptorIndex := 25, attributes := #[] }, { accessFlags := 25, nameIndex := 131, descriptorIndex := 25, attributes := #[] }, { accessFlags := 25, nameIndex := 137, descriptorIndex := 25, attributes := #[] }, { accessFlags := 25, nameIndex := 143, descriptorIndex := 25, attributes := #[] }, { accessFlags := 25, nameIndex := 53, descriptorIndex := 25, attributes := #[] }, { accessFlags := 25, nameIndex := 24, descriptorIndex := 25, attributes := #[] }, { accessFlags := 25, nameIndex := 162, descriptorIndex := 25, attributes := #[] }, { accessFlags := 25, nameIndex := 187, descriptorIndex := 25, attributes := #[] }, { accessFlags := 26, nameIndex := 48, descriptorIndex := 25, attributes := #[] }, { accessFlags := 25, nameIndex := 277, descriptorIndex := 25, attributes := #[] }, { accessFlags := 25, nameIndex := 280, descriptorIndex := 25, attributes := #[] }, { accessFlags := 25, nameIndex := 282, descriptorIndex := 25, attributes := #[] }, { accessFlags := 25, nameIndex := 284, descriptorIndex := 25, attributes := #[] }, { accessFlags := 25, nameIndex := 286, descriptorIndex := 25, attributes := #[] }, { accessFlags := 25, nameIndex := 288, descriptorIndex := 25, attributes := #[] }, { accessFlags := 25, nameIndex := 290, descriptorIndex := 25, attributes := #[] }, { accessFlags := 25, nameIndex := 292, descriptorIndex := 25, attributes := #[] }, { accessFlags := 26, nameIndex := 108, descriptorIndex := 109, attributes := #[] }, { accessFlags := 25, nameIndex := 294, descriptorIndex := 25, attributes := #[] }])
  fields := #[{ name := "U", type := (.object "jdk/internal/misc/Unsafe"), accessFlags := 24, slot := 0, constantValue := 0 }, { name := "BIG_ENDIAN", type := .boolean, accessFlags := 26, slot := 1, constantValue := 0 }, { name := "LOG2_ARRAY_BOOLEAN_INDEX_SCALE", type := .int, accessFlags := 25, slot := 2, constantValue := 0 }, { name := "LOG2_ARRAY_BYTE_INDEX_SCALE", type := .int, accessFlags := 25, slot := 3, constantValue := 0 }, { name := "LOG2_ARRAY_CHAR_INDEX_SCALE", type := .int, accessFlags := 25, slot := 4, constantValue := 0 }, { name := "LOG2_ARRAY_SHORT_INDEX_SCALE", type := .int, accessFlags := 25, slot := 5, constantValue := 0 }, { name := "LOG2_ARRAY_INT_INDEX_SCALE", type := .int, accessFlags := 25, slot := 6, constantValue := 0 }, { name := "LOG2_ARRAY_LONG_INDEX_SCALE", type := .int, accessFlags := 25, slot := 7, constantValue := 0 }, { name := "LOG2_ARRAY_FLOAT_INDEX_SCALE", type := .int, accessFlags := 25, slot := 8, constantValue := 0 }, { name := "LOG2_ARRAY_DOUBLE_INDEX_SCALE", type := .int, accessFlags := 25, slot := 9, constantValue := 0 }, { name := "LOG2_BYTE_BIT_SIZE", type := .int, accessFlags := 26, slot := 10, constantValue := 0 }, { name := "T_BOOLEAN", type := .int, accessFlags := 25, slot := 11, constantValue := 0 }, { name := "T_CHAR", type := .int, accessFlags := 25, slot := 12, constantValue := 0 }, { name := "T_FLOAT", type := .int, accessFlags := 25, slot := 13, constantValue := 0 }, { name := "T_DOUBLE", type := .int, accessFlags := 25, slot := 14, constantValue := 0 }, { name := "T_BYTE", type := .int, accessFlags := 25, slot := 15, constantValue := 0 }, { name := "T_SHORT", type := .int, accessFlags := 25, slot := 16, constantValue := 0 }, { name := "T_INT", type := .int, accessFlags := 25, slot := 17, constantValue := 0 }, { name := "T_LONG", type := .int, accessFlags := 25, slot := 18, constantValue := 0 }, { name := "JLA", type := (.object "jdk/internal/access/JavaLangAccess"), accessFlags := 26, slot := 19, constantValue := 0 }, { name := "SOFT_MAX_ARRAY_LENGTH", type := .int, accessFlags := 25, slot := 20, constantValue := 0 }]
  methods := #[k13m0]
  instanceTypes := #[]
  staticTypes := #[(.object "jdk/internal/misc/Unsafe"), .boolean, .int, .int, .int, .int, .int, .int, .int, .int, .int, .int, .int, .int, .int, .int, .int, .int, .int, (.object "jdk/internal/access/JavaLangAccess"), .int]
  resolved := Array.replicate 378 none
  statics := none }

def pool14 : Array CpInfo := pool [(1, u "java/lang/Cloneable"), (0, .class_ 1), (0, u "java/lang/Object"), (0, .class_ 3)] 3

/-- java/lang/Cloneable -/
def k14 : Class := { plain "java/lang/Cloneable" (some 0) with
  accessFlags := 1537
  interfaces := #[]
  cf := some (fileOf pool14 2 #[] #[] 1537 4 #[] #[])
  fields := #[]
  methods := #[]
  instanceTypes := #[]
  staticTypes := #[]
  resolved := Array.replicate 8 none
  statics := none }

/-- the primitive byte -/
def k15 : Class := { plain "byte" none with kind := .primitive 'B', accessFlags := 0x411 }
/-- [B -/
def k16 : Class := { plain "[B" (some 0) with kind := .array 15 .byte, interfaces := #[14, 2], accessFlags := 1041 }

/-- the primitive char -/
def k17 : Class := { plain "char" none with kind := .primitive 'C', accessFlags := 0x411 }
/-- [C -/
def k18 : Class := { plain "[C" (some 0) with kind := .array 17 .char, interfaces := #[14, 2], accessFlags := 1041 }

/-- the primitive int -/
def k19 : Class := { plain "int" none with kind := .primitive 'I', accessFlags := 0x411 }
/-- [I -/
def k20 : Class := { plain "[I" (some 0) with kind := .array 19 .int, interfaces := #[14, 2], accessFlags := 1041 }

/-- [Ljava/lang/Object; -/
def k21 : Class := { plain "[Ljava/lang/Object;" (some 0) with kind := .array 0 (.object "java/lang/Object"), interfaces := #[14, 2], accessFlags := 1041 }

def heap : Heap := #[{ cls := 7, slots := #[.long 0, .int 1, .null, .int 0, .null, .int 0, .int 0], vm := .statics 7 },
  { cls := 12, slots := #[.null, .null, .null], vm := .statics 12 }]
def classes : Array Class := #[k0, k1, k2, k3, k4, k5, k6, k7, k8, k9, k10, k11, k12, k13, k14, k15, k16, k17, k18, k19, k20, k21]
def interned : List (Array UInt16 × Addr) := []
def slotsUsed : Nat := 10
def theMethod : MethodId := ⟨1, 1⟩
def args0 : Array Value := #[.int 5, .int 6, .int 7]
def aboutOver (below : List Frame) : State where
  vm := { classes := classes, interned := interned.toArray }
  heap := heap
  slotsUsed := slotsUsed
  threads := #[{ frames := .invoking theMethod args0 :: below }]
def below0 : List Frame := [.native { method := ⟨0, 0⟩, args := #[] }]
def about1 : State := aboutOver below0
def p0 : Program := .bare "" "" ""
def e0 : Env := launch0.env 0 0 0
theorem w_frames : about1.frames = Frame.invoking theMethod args0 :: below0 := rfl
set_option maxRecDepth 65536 in
theorem w_args : argsFit about1.vm theMethod args0 = true := by decide +kernel
set_option maxRecDepth 65536 in
theorem w_heap : heapFits about1 = true := by decide +kernel
set_option maxRecDepth 65536 in
theorem w_runnable : about1.curStatus? = some .runnable := by decide +kernel
set_option maxRecDepth 65536 in
theorem w_alone : about1.alone = true := by decide +kernel
set_option maxRecDepth 65536 in
theorem w_named : about1.methodNamed? x = some theMethod := by decide +kernel
set_option maxRecDepth 65536 in
theorem w_hears : about1.hears theMethod below0 = true := by decide +kernel
set_option maxRecDepth 65536 in
theorem w_ripe : about1.ripe theMethod args0 below0 = true := by decide +kernel
theorem w_running : about1.status = .running := rfl
set_option maxRecDepth 65536 in
theorem w_room : about1.hasRoom e0.platform room_1 = true :=
  launch0.hasRoom_least _ room_1 (by decide +kernel) (by decide +kernel) (by decide +kernel) (by decide +kernel) (by decide +kernel) (by decide +kernel)
theorem allAtoms_all (ts : List Jvm.Cond) (a : Array Jvm.Value) (st : Jvm.State) : (allAtoms ts).before a st = ts.all (fun c => c.before a st) := by
  induction ts with
  | nil => rfl
  | cons c t ih =>
    show (Jvm.Cond.and c (allAtoms t)).before a st = _
    rw [Jvm.Cond.before_and, ih, List.all_cons]
def words1 : List Jvm.Cond := Jvm.Cond.code x code maxLocals ret :: tables_1
/-- a 'code' word, met by the world's own term for the bytes: nothing is compared byte by byte -/
theorem code_word {y : MethodName} {bytes : ByteArray} {mx : Nat} {rt : Option FieldType} {a : Array Value} {s : State} {m : MethodId} {meth : Method} {c : Code} (h1 : s.methodNamed? y = some m) (h2 : s.vm.method? m = some meth) (h3 : meth.code = some c) (h4 : c.code = bytes)
    (h5 : (c.maxLocals == mx && c.exceptionTable.isEmpty && decide (c.maxStack ≤ mostOperands) && decide (meth.sig.returnType = rt) && !meth.locks && decide (parseMethodDescriptor y.desc = some meth.sig)) = true) : (Jvm.Cond.code y bytes mx rt).before a s = true := by
  simp only [Bool.and_eq_true, beq_iff_eq, Bool.not_eq_true', decide_eq_true_eq] at h5
  obtain ⟨⟨⟨⟨⟨g1, g2⟩, g3⟩, g4⟩, g5⟩, g6⟩ := h5
  simp [Cond.before, Cond.holds, Cond.value, h1, h2, h3, h4, g1, g2, g3, g4, g5, g6]
def isCode : Jvm.Cond → Bool
  | .code _ _ _ _ => true
  | _ => false
theorem all_split {L : List Jvm.Cond} {P : Jvm.Cond → Bool} (h1 : L.all (fun c => isCode c || P c) = true) (h2 : ∀ c ∈ L.filter isCode, P c = true) : L.all P = true := by
  refine List.all_eq_true.mpr fun c hc => ?_
  have h := List.all_eq_true.mp h1 c hc
  rcases Bool.eq_false_or_eq_true (isCode c) with hi | hi
  · exact h2 c (List.mem_filter.mpr ⟨hc, hi⟩)
  · simpa [hi] using h
set_option maxRecDepth 65536 in
theorem w_c0 : (Jvm.Cond.code x code maxLocals ret).before args0 about1 = true := code_word (m := ⟨1, 1⟩) (meth := k1m1) (c := k1c1) (by decide +kernel) rfl rfl rfl (by decide +kernel)
set_option maxRecDepth 65536 in
theorem w_c1 : (Jvm.Cond.code ({ cls := "java/lang/String", name := "<init>", desc := "([C)V" } : Jvm.MethodName) jdk_42_method_3_code (2 : Nat) (Option.none : Option Jvm.ClassFile.FieldType)).before args0 about1 = true := code_word (m := ⟨7, 1⟩) (meth := k7m1) (c := k7c1) (by decide +kernel) rfl rfl rfl (by decide +kernel)
set_option maxRecDepth 65536 in
theorem w_c2 : (Jvm.Cond.code ({ cls := "java/lang/String", name := "<init>", desc := "([CIILjava/lang/Void;)V" } : Jvm.MethodName) jdk_42_method_149_code (6 : Nat) (Option.none : Option Jvm.ClassFile.FieldType)).before args0 about1 = true := code_word (m := ⟨7, 2⟩) (meth := k7m2) (c := k7c2) (by decide +kernel) rfl rfl rfl (by decide +kernel)
set_option maxRecDepth 65536 in
theorem w_c3 : (Jvm.Cond.code ({ cls := "java/lang/Object", name := "<init>", desc := "()V" } : Jvm.MethodName) object_method_1_code (1 : Nat) (Option.none : Option Jvm.ClassFile.FieldType)).before args0 about1 = true := code_word (m := ⟨0, 0⟩) (meth := k0m0) (c := k0c0) (by decide +kernel) rfl rfl rfl (by decide +kernel)
set_option maxRecDepth 65536 in
theorem w_c4 : (Jvm.Cond.code ({ cls := "java/lang/StringUTF16", name := "compress", desc := "([CII)[B" } : Jvm.MethodName) jdk_52_method_16_code (6 : Nat) (Option.some (Jvm.ClassFile.FieldType.array Jvm.ClassFile.FieldType.byte))).before args0 about1 = true := code_word (m := ⟨8, 2⟩) (meth := k8m2) (c := k8c2) (by decide +kernel) rfl rfl rfl (by decide +kernel)
set_option maxRecDepth 65536 in
theorem w_c5 : (Jvm.Cond.code ({ cls := "java/lang/StringUTF16", name := "compress", desc := "([CI[BII)I" } : Jvm.MethodName) jdk_52_method_21_code (7 : Nat) (Option.some Jvm.ClassFile.FieldType.int)).before args0 about1 = true := code_word (m := ⟨8, 3⟩) (meth := k8m3) (c := k8c3) (by decide +kernel) rfl rfl rfl (by decide +kernel)
set_option maxRecDepth 65536 in
theorem w_c6 : (Jvm.Cond.code ({ cls := "java/lang/StringUTF16", name := "coderFromArrayLen", desc := "([BI)B" } : Jvm.MethodName) jdk_52_method_15_code (2 : Nat) (Option.some Jvm.ClassFile.FieldType.byte)).before args0 about1 = true := code_word (m := ⟨8, 1⟩) (meth := k8m1) (c := k8c1) (by decide +kernel) rfl rfl rfl (by decide +kernel)
set_option maxRecDepth 65536 in
theorem w_c7 : (Jvm.Cond.code ({ cls := "com/example/kwery/kwery/Comparisons$Identity", name := "<init>", desc := "(Ljava/lang/Object;)V" } : Jvm.MethodName) prog_78_method_1_code (2 : Nat) (Option.none : Option Jvm.ClassFile.FieldType)).before args0 about1 = true := code_word (m := ⟨10, 0⟩) (meth := k10m0) (c := k10c0) (by decide +kernel) rfl rfl rfl (by decide +kernel)
set_option maxRecDepth 65536 in
theorem w_c8 : (Jvm.Cond.code ({ cls := "java/lang/Record", name := "<init>", desc := "()V" } : Jvm.MethodName) jdk_30_method_1_code (1 : Nat) (Option.none : Option Jvm.ClassFile.FieldType)).before args0 about1 = true := code_word (m := ⟨9, 0⟩) (meth := k9m0) (c := k9c0) (by decide +kernel) rfl rfl rfl (by decide +kernel)
set_option maxRecDepth 65536 in
theorem w_c9 : (Jvm.Cond.code ({ cls := "com/example/kwery/kwery/Comparisons$Identity", name := "equals", desc := "(Ljava/lang/Object;)Z" } : Jvm.MethodName) prog_78_method_2_code (3 : Nat) (Option.some Jvm.ClassFile.FieldType.boolean)).before args0 about1 = true := code_word (m := ⟨10, 1⟩) (meth := k10m1) (c := k10c1) (by decide +kernel) rfl rfl rfl (by decide +kernel)
def codes1 : List Jvm.Cond := [Jvm.Cond.code x code maxLocals ret, Jvm.Cond.code ({ cls := "java/lang/String", name := "<init>", desc := "([C)V" } : Jvm.MethodName) jdk_42_method_3_code (2 : Nat) (Option.none : Option Jvm.ClassFile.FieldType), Jvm.Cond.code ({ cls := "java/lang/String", name := "<init>", desc := "([CIILjava/lang/Void;)V" } : Jvm.MethodName) jdk_42_method_149_code (6 : Nat) (Option.none : Option Jvm.ClassFile.FieldType), Jvm.Cond.code ({ cls := "java/lang/Object", name := "<init>", desc := "()V" } : Jvm.MethodName) object_method_1_code (1 : Nat) (Option.none : Option Jvm.ClassFile.FieldType), Jvm.Cond.code ({ cls := "java/lang/StringUTF16", name := "compress", desc := "([CII)[B" } : Jvm.MethodName) jdk_52_method_16_code (6 : Nat) (Option.some (Jvm.ClassFile.FieldType.array Jvm.ClassFile.FieldType.byte)), Jvm.Cond.code ({ cls := "java/lang/StringUTF16", name := "compress", desc := "([CI[BII)I" } : Jvm.MethodName) jdk_52_method_21_code (7 : Nat) (Option.some Jvm.ClassFile.FieldType.int), Jvm.Cond.code ({ cls := "java/lang/StringUTF16", name := "coderFromArrayLen", desc := "([BI)B" } : Jvm.MethodName) jdk_52_method_15_code (2 : Nat) (Option.some Jvm.ClassFile.FieldType.byte), Jvm.Cond.code ({ cls := "com/example/kwery/kwery/Comparisons$Identity", name := "<init>", desc := "(Ljava/lang/Object;)V" } : Jvm.MethodName) prog_78_method_1_code (2 : Nat) (Option.none : Option Jvm.ClassFile.FieldType), Jvm.Cond.code ({ cls := "java/lang/Record", name := "<init>", desc := "()V" } : Jvm.MethodName) jdk_30_method_1_code (1 : Nat) (Option.none : Option Jvm.ClassFile.FieldType), Jvm.Cond.code ({ cls := "com/example/kwery/kwery/Comparisons$Identity", name := "equals", desc := "(Ljava/lang/Object;)Z" } : Jvm.MethodName) prog_78_method_2_code (3 : Nat) (Option.some Jvm.ClassFile.FieldType.boolean)]
set_option maxRecDepth 65536 in
theorem codes_eq : words1.filter isCode = codes1 := rfl
theorem w_codes : ∀ c ∈ words1.filter isCode, c.before args0 about1 = true := by
  rw [codes_eq]
  intro c hc
  simp only [codes1, List.mem_cons, List.not_mem_nil, or_false] at hc
  rcases hc with rfl | rfl | rfl | rfl | rfl | rfl | rfl | rfl | rfl | rfl
  · exact w_c0
  · exact w_c1
  · exact w_c2
  · exact w_c3
  · exact w_c4
  · exact w_c5
  · exact w_c6
  · exact w_c7
  · exact w_c8
  · exact w_c9
set_option maxRecDepth 65536 in
theorem w_t1 : (words1.take 24).all (fun c => isCode c || c.before args0 about1) = true := by decide +kernel
set_option maxRecDepth 65536 in
theorem w_t2 : ((words1.drop 24).take 24).all (fun c => isCode c || c.before args0 about1) = true := by decide +kernel
set_option maxRecDepth 65536 in
theorem w_t3 : ((words1.drop 24).drop 24).all (fun c => isCode c || c.before args0 about1) = true := by decide +kernel
theorem w_tables : (allAtoms (Jvm.Cond.code x code maxLocals ret :: tables_1)).before args0 about1 = true := by
  rw [allAtoms_all]
  show words1.all (fun c => c.before args0 about1) = true
  refine all_split ?_ w_codes
  rw [← List.take_append_drop 24 words1, List.all_append, w_t1, ← List.take_append_drop 24 (words1.drop 24), List.all_append, w_t2, w_t3]
  rfl
set_option maxRecDepth 65536 in
theorem w_rest : rest_1_c.before args0 about1 = true := by decide +kernel
set_option maxRecDepth 65536 in
theorem w_case : (Jvm.Cond.and given_1 narrow_1).before args0 about1 = true := by decide +kernel
theorem w_applies : (headSpec (Jvm.Cond.code x code maxLocals ret :: tables_1) room_1).applies x e0.platform about1 = true :=
  (Spec.applies_iff w_frames).mpr ⟨w_running, w_runnable, w_alone, w_named, w_hears, w_ripe, w_room, w_tables⟩
theorem atStart : AtStart classFile x code maxLocals ret World_1 tables_1 room_1 Calls_1 rest_1 Pre_1 launch0 p0 e0 about1 theMethod args0 below0 :=
  ⟨lists_1, trivial, launch0.admits_env _ _ _, launch0.least_env, fairChoices_fair.cas, fairChoices_fair.clock, w_frames, w_args, w_heap, w_applies, trivial, w_rest, w_case⟩
end start1
theorem witness_1 : WitnessClaimed_1 := ⟨start1.p0, start1.e0, start1.about1, start1.theMethod, start1.args0, start1.below0, start1.atStart⟩
end Jvm.Pilot.@@N@@
